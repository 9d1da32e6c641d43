import JvmDerived
import JvmDerived.Pilot.@@N@@Statement
import JvmDerived.Pilot.@@N@@Code
set_option linter.unusedVariables false
set_option linter.unusedSimpArgs false
namespace Jvm.Pilot.@@N@@
open Jvm Jvm.ClassFile Sem Op Lib Jvm.Free Jvm.Stand Jvm.LawKit Jvm.RoadKit Bundle Jvm.Pilot.@@N@@.Jvm.D
section Own
variable {p : Program} {l : Launch} {e : Env} {R : Room} {s : State} {m : MethodId} {args : Array Value} {below : List Frame} {meth : Method} {c : Code} {T : State} {locs : List Loc} {cells slots : Nat}
/-- the run from A ends, returns what Q says, and has made and written no more than told -/
def Dn (p : Program) (e : Env) (below : List Frame) (s : State) (Q : Option Value → Heap → List Loc → Prop) (rc rs : Nat) (A : State) : Prop :=
  ∃ s₂ o, Steps p.tables e below A s₂ ∧ s₂.status = .running ∧ Ended s₂ below o ∧ ∃ v L, o = .returned v ∧ Q v s₂.heap L ∧ FrameEnd s o s₂ L rc rs
theorem Dn.st {Q : Option Value → Heap → List Loc → Prop} {rc rs : Nat} {A B : State} (h : ∀ t, Steps p.tables e below B t → Steps p.tables e below A t) (k : Dn p e below s Q rc rs B) : Dn p e below s Q rc rs A := by
  obtain ⟨s2, o, h1, h2⟩ := k; exact ⟨s2, o, h _ h1, h2⟩
theorem Dn.tr {Q : Option Value → Heap → List Loc → Prop} {rc rs : Nat} {A B : State} (h : Steps p.tables e below A B) (k : Dn p e below s Q rc rs B) : Dn p e below s Q rc rs A := by
  obtain ⟨s2, o, h1, h2⟩ := k; exact ⟨s2, o, h.trans h1, h2⟩
theorem Dn.ret (X : Stand p l e R s m args below meth c T locs cells slots) (hlk : meth.locks = false) (hx : p.tables.exec = Jvm.exec) {pc : Nat} {Ls : Array Slot} {w : Value} {t : FieldType} {i : Instr} {rest : List Value} (hret : meth.sig.returnType = some t) (hn : narrow t w = w)
    (hi : (i = .ireturn ∧ (t = .int ∨ t = .boolean ∨ t = .byte ∨ t = .char ∨ t = .short) ∧ ∃ z, w = .int z) ∨ (i = .lreturn ∧ t = .long ∧ ∃ z, w = .long z) ∨ (i = .dreturn ∧ t = .double ∧ ∃ z, w = .double z) ∨ (i = .freturn ∧ t = .float ∧ ∃ z, w = .float z) ∨ (i = .areturn ∧ t.isReference = true ∧ w.isRef = true))
    (hd : decode c.code pc = .ok (i, 1)) {Q : Option Value → Heap → List Loc → Prop} {rc rs : Nat} (hq : Q (some w) T.heap locs) (hc : cells ≤ rc) (hs : slots ≤ rs) : Dn p e below s Q rc rs (T.setTop (mkF m pc Ls (w :: rest))) := by
  obtain ⟨fs, hr, hrun, hended, hW, hsame⟩ := X.leave (v := some w) (fun h => by rw [hret] at h; cases h) hlk
  exact ⟨_, _, retOut X hx hret hn hi hd hr, hrun, hended, _, _, rfl, hq, ⟨_, rfl⟩, hW, hsame.mono hc hs⟩
theorem Dn.ret0 (X : Stand p l e R s m args below meth c T locs cells slots) (hlk : meth.locks = false) (hx : p.tables.exec = Jvm.exec) {pc : Nat} {Ls : Array Slot} (hret : meth.sig.returnType = none)
    (hd : decode c.code pc = .ok (.return_, 1)) {Q : Option Value → Heap → List Loc → Prop} {rc rs : Nat} (hq : Q none T.heap locs) (hc : cells ≤ rc) (hs : slots ≤ rs) : Dn p e below s Q rc rs (T.setTop (mkF m pc Ls [])) := by
  obtain ⟨fs, hr, hrun, hended, hW, hsame⟩ := X.leave (v := none) (fun _ => rfl) hlk
  exact ⟨_, _, X.returnOut hx hret hd hr, hrun, hended, _, _, rfl, hq, ⟨_, rfl⟩, hW, hsame.mono hc hs⟩
theorem own_iincW {tb : Tables} [Ours tb] {target : State} {g : JFrame} (h : At T m c below) (hx : tb.exec = Jvm.exec) (hg : g.method = m) {k : Nat} {cst : Int} {x : Int32} {l' : Array Slot} (hd : decode c.code g.pc = .ok (.iinc k cst, 6)) (hl : g.locals[k]? = some (.val (.int x))) (hl' : storeLocals g.locals k (.int (x + Int32.ofInt cst)) = some l')
    (hr : Steps tb e below (T.setTop { g with pc := g.pc + 6, locals := l' }) target) : Steps tb e below (T.setTop g) target := by
  subst hg
  jvm_step h [h.top, hx, hd, hl, hl']
  exact hr
theorem own_dremS {tb : Tables} [Ours tb] {target : State} {g : JFrame} (h : At T m c below) (hx : tb.exec = Jvm.exec) (hg : g.method = m) {x y v : UInt64} {rest : List Value} (hd : decode c.code g.pc = .ok (.drem, 1)) (hs : g.stack = .double y :: .double x :: rest) (hn : Jvm.Free.Fl.NoNaN64 (FP.drem x y)) (hv : FP.drem x y = v)
    (hr : Steps tb e below (T.setTop { g with pc := g.pc + 1, stack := .double v :: rest }) target) : Steps tb e below (T.setTop g) target := by
  subst hg; subst hv
  obtain ⟨gm, gp, gl, gs, gk, ge, gr⟩ := g
  simp only at hs hd
  subst hs
  jvm_step h [h.top, hx, hd, Op.drem.at_number h.top hn]
  exact hr
end Own
section Dyad
open Jvm.FP Jvm.FP.Core Jvm.Free.Fl
/-- the datum with its exponent moved by k -/
def sft (k : Nat) : Datum → Datum
  | .nan => .nan
  | .inf s => .inf s
  | .fin s c q => .fin s c (q + (k : Int))
/-- x is the number i / 2^k -/
def DS (k : Nat) (i : Int) (x : UInt64) : Prop := Whole i (sft k (val64 x))
theorem sft_zero (d : Datum) : sft 0 d = d := by
  cases d with
  | nan => rfl
  | inf s => rfl
  | fin s c q => show Datum.fin s c (q + ((0 : Nat) : Int)) = _; rw [Int.natCast_zero, Int.add_zero]
theorem sft_sum (k : Nat) (x y : Datum) : exactSum (sft k x) (sft k y) = sft k (exactSum x y) := by
  cases x with
  | nan => rfl
  | inf s =>
    cases y with
    | nan => rfl
    | inf t => show (if s = t then Datum.inf s else .nan) = sft k (if s = t then Datum.inf s else .nan); split <;> rfl
    | fin t d r => rfl
  | fin s c q =>
    cases y with
    | nan => rfl
    | inf t => rfl
    | fin t d r =>
      have h : min (q + (k : Int)) (r + k) = min q r + k := by omega
      have h1 : q + (k : Int) - (min q r + k) = q - min q r := by omega
      have h2 : r + (k : Int) - (min q r + k) = r - min q r := by omega
      have hu : sumUnits s c (q + k) t d (r + k) (min (q + k) (r + k)) = sumUnits s c q t d r (min q r) := by
        show signed s (c * 2 ^ (q + (k : Int) - min (q + k) (r + k)).toNat) + signed t (d * 2 ^ (r + (k : Int) - min (q + k) (r + k)).toNat) = signed s (c * 2 ^ (q - min q r).toNat) + signed t (d * 2 ^ (r - min q r).toNat)
        rw [h, h1, h2]
      show Datum.fin (sumSign s t (sumUnits s c (q + k) t d (r + k) (min (q + k) (r + k)))) (sumUnits s c (q + k) t d (r + k) (min (q + k) (r + k))).natAbs (min (q + k) (r + k)) = Datum.fin (sumSign s t (sumUnits s c q t d r (min q r))) (sumUnits s c q t d r (min q r)).natAbs (min q r + k)
      rw [hu, h]
theorem sft_negate (k : Nat) (x : Datum) : negate (sft k x) = sft k (negate x) := by cases x <;> rfl
theorem sft_product (k m : Nat) (x y : Datum) : exactProduct (sft k x) (sft m y) = sft (k + m) (exactProduct x y) := by
  cases x with
  | nan => rfl
  | inf s =>
    cases y with
    | nan => rfl
    | inf t => rfl
    | fin t d r => show (if d = 0 then Datum.nan else .inf (s != t)) = sft (k + m) (if d = 0 then Datum.nan else .inf (s != t)); split <;> rfl
  | fin s c q =>
    cases y with
    | nan => rfl
    | inf t => show (if c = 0 then Datum.nan else .inf (s != t)) = sft (k + m) (if c = 0 then Datum.nan else .inf (s != t)); split <;> rfl
    | fin t d r =>
      show Datum.fin (s != t) (c * d) (q + k + (r + m)) = Datum.fin (s != t) (c * d) (q + r + ((k + m : Nat) : Int))
      congr 1; omega
theorem sft_order (k : Nat) (x y : Datum) : order (sft k x) (sft k y) = order x y := by
  cases x with
  | nan => rfl
  | inf s => cases y <;> rfl
  | fin s c q =>
    cases y with
    | nan => rfl
    | inf t => rfl
    | fin t d r =>
      have h : min (q + (k : Int)) (r + k) = min q r + k := by omega
      have h1 : q + (k : Int) - (min q r + k) = q - min q r := by omega
      have h2 : r + (k : Int) - (min q r + k) = r - min q r := by omega
      show some (compare (signed s (c * 2 ^ (q + (k : Int) - min (q + k) (r + k)).toNat)) (signed t (d * 2 ^ (r + (k : Int) - min (q + k) (r + k)).toNat))) = some (compare (signed s (c * 2 ^ (q - min q r).toNat)) (signed t (d * 2 ^ (r - min q r).toNat)))
      rw [h, h1, h2]
theorem b64_qmin : b64.qmin = -1074 := by decide +kernel
theorem b64_qmax : b64.qmax = 971 := by decide +kernel
theorem b64_tails : b64.tails = 4503599627370496 := by decide +kernel
theorem fits64 (s : Bool) (c : Nat) (q : Int) : Core.fits b64 (.fin s c q) ↔ c < 2 ^ 53 ∧ -1074 ≤ q ∧ q ≤ 971 ∧ (q = -1074 ∨ 4503599627370496 ≤ c) := by
  show (c < 2 ^ 53 ∧ b64.qmin ≤ q ∧ q ≤ b64.qmax ∧ (q = b64.qmin ∨ b64.tails ≤ c)) ↔ _
  rw [b64_qmin, b64_qmax, b64_tails]
/-- n / 2^k is a double, for n up to 2^53 and k up to 1022 -/
theorem natFitS (s : Bool) {n k : Nat} (hk : k ≤ 1022) (hn : n ≤ 2 ^ 53) :
    ∃ c q, Core.fits b64 (.fin s c q) ∧ n * 2 ^ (-(k : Int) - q).toNat = c * 1 * 2 ^ (q - -(k : Int)).toNat := by
  by_cases h0 : n = 0
  · subst h0
    exact ⟨0, b64.qmin, zero_fits good_b64 s, by simp⟩
  · obtain ⟨c, q, hf, hv⟩ := natFit good_b64 wide_b64 s (show n ≤ 2 ^ b64.p from hn)
    rw [fits64] at hf
    have hq : -52 ≤ q := by
      refine Int.not_lt.mp fun hlt => ?_
      have e1 : (q - 0).toNat = 0 := by omega
      have e2 : (0 - q).toNat = 53 + ((0 - q).toNat - 53) := by omega
      rw [e1, e2, Nat.pow_add] at hv
      have p := Nat.two_pow_pos ((0 - q).toNat - 53)
      have : 2 ^ 53 * 1 ≤ 2 ^ 53 * 2 ^ ((0 - q).toNat - 53) := Nat.mul_le_mul_left _ p
      have : 1 * (2 ^ 53 * 2 ^ ((0 - q).toNat - 53)) ≤ n * (2 ^ 53 * 2 ^ ((0 - q).toNat - 53)) := Nat.mul_le_mul_right _ (by omega)
      omega
    refine ⟨c, q - k, (fits64 _ _ _).mpr ⟨hf.1, by omega, by omega, Or.inr (hf.2.2.2.resolve_left (by omega))⟩, ?_⟩
    rw [show -(k : Int) - (q - k) = 0 - q by omega, show q - k - -(k : Int) = q - 0 by omega]
    exact hv
theorem whole_signed {i : Int} {s : Bool} {c : Nat} {q : Int} (h : Whole i (.fin s c q)) : signed s i.natAbs = i := by
  by_cases hi : i = 0
  · rw [hi]; exact signed_zero s
  · rw [whole_sign h hi]; unfold signed
    by_cases h : i < 0 <;> simp [h] <;> omega
theorem ds_round {k : Nat} {i : Int} {d : Datum} (hk : k ≤ 1022) (hi : i.natAbs ≤ 2 ^ 53) (h : Whole i (sft k d)) : Whole i (sft k (Core.round b64 d)) := by
  cases d with
  | nan => exact h.elim
  | inf s => exact h.elim
  | fin s c q =>
    have hs := whole_signed h
    have h1 := whole_natAbs h
    obtain ⟨c', q', hfit, hv⟩ := natFitS s hk hi
    have e1 : Core.round b64 (.fin s c q) = roundRatio b64 s i.natAbs 1 (-(k : Int)) := by
      refine roundRatio_congr (by decide) (by decide) ?_
      rw [show q - -(k : Int) = q + k by omega, show -(k : Int) - q = -(q + k) by omega]
      simpa using h1
    rw [e1, roundRatio_exact good_b64 (by decide) hfit hv]
    show signed s (c' * 2 ^ (q' + (k : Int)).toNat) = i * _
    rw [show -(k : Int) - q' = -(q' + k) by omega, show q' - -(k : Int) = q' + k by omega, Nat.mul_one] at hv
    rw [← hv, signed_mul, hs]
theorem DS.nn {k : Nat} {i : Int} {x : UInt64} (h : DS k i x) : NoNaN64 x := val64_no.mpr fun q => by
  unfold DS at h; rw [q] at h; exact h.elim
theorem DS.fin {k : Nat} {i : Int} {x : UInt64} (h : DS k i x) : ∃ s c q, val64 x = .fin s c q ∧ Whole i (.fin s c (q + (k : Int))) := by
  unfold DS at h
  cases e : val64 x with
  | nan => rw [e] at h; exact h.elim
  | inf s => rw [e] at h; exact h.elim
  | fin s c q => rw [e] at h; exact ⟨s, c, q, rfl, h⟩
theorem DS.lit {k : Nat} {i : Int} {x : UInt64} {s : Bool} {c : Nat} {q : Int} (hv : val64 x = .fin s c q) (he : signed s (c * 2 ^ (q + (k : Int)).toNat) = i * ((2 ^ (-(q + (k : Int))).toNat : Nat) : Int)) : DS k i x := by
  unfold DS; rw [hv]; exact he
theorem DS.i2d (v : Int32) : DS 0 v.toInt (FP.i2d v) := by unfold DS; rw [sft_zero]; exact i2d_int v
theorem DS.l2d {v : Int64} (h : v.toInt.natAbs ≤ 2 ^ 53) : DS 0 v.toInt (FP.l2d v) := by unfold DS; rw [sft_zero]; exact l2d_int h
theorem DS.dint {i : Int} {x : UInt64} (h : DS 0 i x) : DInt i x := by unfold DS at h; rw [sft_zero] at h; exact h
theorem DS.zero (k : Nat) : DS k 0 0 := DS.lit (s := false) (c := 0) (q := -1074) (by decide +kernel) (by rw [Nat.zero_mul, Int.zero_mul]; rfl)
theorem DS.add {k : Nat} {i j : Int} {x y : UInt64} (hx : DS k i x) (hy : DS k j y) (hb : (i + j).natAbs ≤ 2 ^ 53) (hk : k ≤ 1022) : DS k (i + j) (FP.dadd x y) := by
  show Whole _ (sft k (val64 (Core.dadd x y)))
  rw [val64_dadd]; refine ds_round hk hb ?_; rw [← sft_sum]; exact whole_sum hx hy
theorem DS.sub {k : Nat} {i j : Int} {x y : UInt64} (hx : DS k i x) (hy : DS k j y) (hb : (i - j).natAbs ≤ 2 ^ 53) (hk : k ≤ 1022) : DS k (i - j) (FP.dsub x y) := by
  show Whole _ (sft k (val64 (Core.dsub x y)))
  rw [val64_dsub]; refine ds_round hk hb ?_; rw [← sft_sum, ← sft_negate, Int.sub_eq_add_neg]; exact whole_sum hx (whole_negate hy)
theorem DS.mul {k m : Nat} {i j : Int} {x y : UInt64} (hx : DS k i x) (hy : DS m j y) (hb : (i * j).natAbs ≤ 2 ^ 53) (hk : k + m ≤ 1022) : DS (k + m) (i * j) (FP.dmul x y) := by
  show Whole _ (sft (k + m) (val64 (Core.dmul x y)))
  rw [val64_dmul]; refine ds_round hk hb ?_; rw [← sft_product]; exact whole_product hx hy
theorem DS.addc {k : Nat} {i j Q : Int} {x y : UInt64} (hx : DS k i x) (hy : DS k j y) (e : i + j = Q) (hb : Q.natAbs ≤ 2 ^ 53) (hk : k ≤ 1022) : DS k Q (FP.dadd x y) := by subst e; exact DS.add hx hy hb hk
theorem DS.subc {k : Nat} {i j Q : Int} {x y : UInt64} (hx : DS k i x) (hy : DS k j y) (e : i - j = Q) (hb : Q.natAbs ≤ 2 ^ 53) (hk : k ≤ 1022) : DS k Q (FP.dsub x y) := by subst e; exact DS.sub hx hy hb hk
theorem DS.cmp {k : Nat} {i j : Int} {x y : UInt64} (hx : DS k i x) (hy : DS k j y) : FP.dcmp x y = some (compare i j) := by
  show order (val64 x) (val64 y) = _
  rw [← sft_order k]; exact order_whole hx hy
/-- what dcmp pushes -/
def c3 (i j : Int) : Int32 := if i < j then -1 else if i = j then 0 else 1
theorem c3_lt (i j : Int) : c3 i j < 0 ↔ i < j := by unfold c3; split <;> (try split) <;> simp_all <;> first | decide | omega
theorem c3_gt (i j : Int) : 0 < c3 i j ↔ j < i := by unfold c3; split <;> (try split) <;> simp_all <;> first | decide | omega
theorem c3_eq (i j : Int) : c3 i j = 0 ↔ i = j := by unfold c3; split <;> (try split) <;> simp_all <;> first | decide | omega
theorem cmpV_int (i j : Int) (o : CmpOp) : cmpValue (some (compare i j)) o = c3 i j := by
  unfold c3
  by_cases h1 : i < j
  · have : compare i j = .lt := by simp [compare, compareOfLessAndEq, h1]
    rw [this, if_pos h1]; cases o <;> rfl
  · by_cases h2 : i = j
    · have : compare i j = .eq := by simp [compare, compareOfLessAndEq, h2]
      rw [this, if_neg h1, if_pos h2]; cases o <;> rfl
    · have : compare i j = .gt := by simp [compare, compareOfLessAndEq, h1, h2]
      rw [this, if_neg h1, if_neg h2]; cases o <;> rfl
theorem DS.cmpV {k : Nat} {i j : Int} {x y : UInt64} (hx : DS k i x) (hy : DS k j y) (o : CmpOp) : cmpValue (FP.dcmp x y) o = c3 i j := by rw [hx.cmp hy]; exact cmpV_int i j o
theorem whole_iff {i : Int} {s : Bool} {c : Nat} {q : Int} {N : Nat} (h : 0 ≤ q + N) : Whole i (.fin s c q) ↔ signed s c * ((2 ^ (q + N).toNat : Nat) : Int) = i * ((2 ^ N : Nat) : Int) := by
  show signed s (c * 2 ^ q.toNat) = i * ((2 ^ (-q).toNat : Nat) : Int) ↔ _
  rw [signed_mul]
  have e : q.toNat + N = (q + N).toNat + (-q).toNat := by omega
  have p1 : ((2 ^ N : Nat) : Int) ≠ 0 := by have := Nat.two_pow_pos N; omega
  have p2 : ((2 ^ (-q).toNat : Nat) : Int) ≠ 0 := by have := Nat.two_pow_pos (-q).toNat; omega
  have e1 : signed s c * ((2 ^ q.toNat : Nat) : Int) * ((2 ^ N : Nat) : Int) = signed s c * ((2 ^ (q + N).toNat : Nat) : Int) * ((2 ^ (-q).toNat : Nat) : Int) := by
    rw [Int.mul_assoc, Int.mul_assoc, ← Int.natCast_mul, ← Int.natCast_mul, ← Nat.pow_add, ← Nat.pow_add, e]
  constructor
  · intro hh
    refine Int.eq_of_mul_eq_mul_right p2 ?_
    rw [← e1, hh]; ac_rfl
  · intro hh
    refine Int.eq_of_mul_eq_mul_right p1 ?_
    rw [e1, hh]; ac_rfl
theorem DS.up {k : Nat} {i : Int} {x : UInt64} (h : DS k i x) (m : Nat) : DS (k + m) (i * ((2 ^ m : Nat) : Int)) x := by
  obtain ⟨s, c, q, e, hw⟩ := h.fin
  unfold DS; rw [e]
  show Whole _ (.fin s c (q + ((k + m : Nat) : Int)))
  rw [whole_iff (N := (-q).toNat) (by omega)]
  rw [whole_iff (N := (-q).toNat + m) (by omega)] at hw
  rw [show q + (k : Int) + (((-q).toNat + m : Nat) : Int) = q + ((k + m : Nat) : Int) + ((-q).toNat : Nat) by omega] at hw
  rw [hw, Nat.pow_add, Int.natCast_mul]; ac_rfl
theorem DS.cast {k k' : Nat} {i i' : Int} {x : UInt64} (h : DS k i x) (e1 : k = k') (e2 : i = i') : DS k' i' x := e1 ▸ e2 ▸ h
/-- the quotient, as the rounding of a ratio of whole numbers -/
theorem ds_quot {k m : Nat} {i j : Int} {x y : UInt64} (hx : DS k i x) (hy : DS m j y) (hj : j ≠ 0) :
    ∃ s t, signed s i.natAbs = i ∧ signed t j.natAbs = j ∧ val64 (FP.ddiv x y) = roundRatio b64 (s != t) i.natAbs j.natAbs ((m : Int) - k) := by
  obtain ⟨s, c, q, e, hw⟩ := hx.fin
  obtain ⟨t, d, r, e', hw'⟩ := hy.fin
  have hd : d ≠ 0 := fun z => hj ((whole_zero hw').mp z)
  have h1 := whole_natAbs hw
  have h2 := whole_natAbs hw'
  refine ⟨s, t, whole_signed hw, whole_signed hw', ?_⟩
  show val64 (Core.ddiv x y) = _
  rw [val64_ddiv, e, e']
  show (if d = 0 then _ else roundRatio b64 (s != t) c d (q - r)) = _
  rw [if_neg hd]
  have hj' : 0 < j.natAbs := by omega
  rw [roundRatio_congr (A' := i.natAbs) (B' := d) (e' := -(k : Int) - r) (by omega) (by omega) (by
    rw [show q - r - (-(k : Int) - r) = q + k by omega, show -(k : Int) - r - (q - r) = -(q + k) by omega, Nat.mul_right_comm, h1]; ac_rfl)]
  refine roundRatio_congr (by omega) hj' ?_
  rw [show -(k : Int) - r - ((m : Int) - k) = -(r + m) by omega, show (m : Int) - k - (-(k : Int) - r) = r + m by omega, Nat.mul_assoc, ← h2]; ac_rfl
theorem DS.div {k m n : Nat} {i j Q : Int} {x y : UInt64} (hx : DS k i x) (hy : DS m j y) (hj : j ≠ 0) (hQ : i * ((2 ^ (m + n) : Nat) : Int) = Q * j * ((2 ^ k : Nat) : Int)) (hb : Q.natAbs ≤ 2 ^ 53) (hn : n ≤ 1022) : DS n Q (FP.ddiv x y) := by
  obtain ⟨s, t, hs, ht, hv⟩ := ds_quot hx hy hj
  obtain ⟨c', q', hfit, hf⟩ := natFitS (s != t) hn hb
  have hj' : 0 < j.natAbs := by omega
  have hQn : i.natAbs * 2 ^ (m + n) = Q.natAbs * j.natAbs * 2 ^ k := by
    have := congrArg Int.natAbs hQ
    rwa [Int.natAbs_mul, Int.natAbs_mul, Int.natAbs_mul, Int.natAbs_natCast, Int.natAbs_natCast] at this
  have e1 : roundRatio b64 (s != t) i.natAbs j.natAbs ((m : Int) - k) = roundRatio b64 (s != t) Q.natAbs 1 (-(n : Int)) := by
    refine roundRatio_congr hj' (by decide) ?_
    rw [Nat.mul_one]
    have ea : m + n = ((m : Int) - k - -(n : Int)).toNat + min (m + n) k := by omega
    have eb : k = (-(n : Int) - ((m : Int) - k)).toNat + min (m + n) k := by omega
    generalize ((m : Int) - k - -(n : Int)).toNat = u at ea ⊢
    generalize (-(n : Int) - ((m : Int) - k)).toNat = w at eb ⊢
    have hQ2 : i.natAbs * 2 ^ (u + min (m + n) k) = Q.natAbs * j.natAbs * 2 ^ (w + min (m + n) k) := by rw [← ea, ← eb]; exact hQn
    rw [Nat.pow_add, Nat.pow_add, ← Nat.mul_assoc, ← Nat.mul_assoc] at hQ2
    exact Nat.eq_of_mul_eq_mul_right (Nat.two_pow_pos _) hQ2
  rw [e1, roundRatio_exact good_b64 (by decide) hfit hf] at hv
  unfold DS; rw [hv]
  show signed (s != t) (c' * 2 ^ (q' + (n : Int)).toNat) = Q * _
  rw [show -(n : Int) - q' = -(q' + n) by omega, show q' - -(n : Int) = q' + n by omega, Nat.mul_one] at hf
  rw [← hf, signed_mul]
  congr 1
  have hp : (0 : Int) < ((2 ^ (m + n) : Nat) : Int) := by have := Nat.two_pow_pos (m + n); omega
  have hp2 : (0 : Int) < ((2 ^ k : Nat) : Int) := by have := Nat.two_pow_pos k; omega
  generalize ((2 ^ (m + n) : Nat) : Int) = P1 at hQ hp
  generalize ((2 ^ k : Nat) : Int) = P2 at hQ hp2
  -- the sign of the quotient
  have key : signed (s != t) (Q.natAbs * (j.natAbs * j.natAbs)) = Q * (j.natAbs * j.natAbs : Nat) := by
    have e2 : signed (s != t) (i.natAbs * j.natAbs) = i * j := by rw [signed_xor, hs, ht]
    have e3 : i.natAbs * P1.natAbs = Q.natAbs * j.natAbs * P2.natAbs := by
      have := congrArg Int.natAbs hQ
      rwa [Int.natAbs_mul, Int.natAbs_mul, Int.natAbs_mul] at this
    have e4 : signed (s != t) (Q.natAbs * (j.natAbs * j.natAbs)) * P2 = Q * (j.natAbs * j.natAbs : Nat) * P2 := by
      have p2 : P2 = (P2.natAbs : Int) := by omega
      have p1 : P1 = (P1.natAbs : Int) := by omega
      calc signed (s != t) (Q.natAbs * (j.natAbs * j.natAbs)) * P2
          = signed (s != t) (Q.natAbs * (j.natAbs * j.natAbs) * P2.natAbs) := by rw [signed_mul _ (Q.natAbs * (j.natAbs * j.natAbs)), ← p2]
        _ = signed (s != t) (i.natAbs * j.natAbs * P1.natAbs) := by
            congr 1
            calc Q.natAbs * (j.natAbs * j.natAbs) * P2.natAbs = (Q.natAbs * j.natAbs * P2.natAbs) * j.natAbs := by ac_rfl
              _ = i.natAbs * j.natAbs * P1.natAbs := by rw [← e3]; ac_rfl
        _ = i * j * P1 := by rw [signed_mul, e2, ← p1]
        _ = (i * P1) * j := by ac_rfl
        _ = Q * (j * j) * P2 := by rw [hQ]; ac_rfl
        _ = Q * (j.natAbs * j.natAbs : Nat) * P2 := by rw [Int.natCast_mul, Int.natAbs_mul_self' j]
    exact Int.eq_of_mul_eq_mul_right (by omega) e4
  rw [signed_mul] at key
  exact Int.eq_of_mul_eq_mul_right (by have : 0 < j.natAbs * j.natAbs := Nat.mul_pos hj' hj'; omega) key
/-- by a power of two -/
theorem DS.divp {k t : Nat} {i : Int} {x y : UInt64} (hx : DS k i x) (hy : DS 0 ((2 ^ t : Nat) : Int) y) (hb : i.natAbs ≤ 2 ^ 53) (hn : k + t ≤ 1022) : DS (k + t) i (FP.ddiv x y) :=
  DS.div hx hy (by have := Nat.two_pow_pos t; omega) (by rw [Nat.zero_add, Nat.pow_add, Int.natCast_mul]; ac_rfl) hb hn
theorem sft_rem (k : Nat) (x y : Datum) : exactRemainder (sft k x) (sft k y) = sft k (exactRemainder x y) := by
  cases x with
  | nan => rfl
  | inf s => rfl
  | fin s c q =>
    cases y with
    | nan => rfl
    | inf t => rfl
    | fin t d r =>
      have h : min (q + (k : Int)) (r + k) = min q r + k := by omega
      have h1 : q + (k : Int) - (min q r + k) = q - min q r := by omega
      have h2 : r + (k : Int) - (min q r + k) = r - min q r := by omega
      show (if d = 0 then Datum.nan else .fin s (c * 2 ^ (q + (k : Int) - min (q + k) (r + k)).toNat % (d * 2 ^ (r + (k : Int) - min (q + k) (r + k)).toNat)) (min (q + k) (r + k))) = sft k (if d = 0 then Datum.nan else .fin s (c * 2 ^ (q - min q r).toNat % (d * 2 ^ (r - min q r).toNat)) (min q r))
      rw [h, h1, h2]; split <;> rfl
theorem signed_tmod {s : Bool} {i : Int} (hs : signed s i.natAbs = i) (j : Int) : signed s (i.natAbs % j.natAbs) = i.tmod j := by
  cases i with
  | ofNat a =>
    have e : Int.tmod (Int.ofNat a) j = ((a % j.natAbs : Nat) : Int) := by cases j <;> rfl
    rw [e]; show signed s (a % j.natAbs) = _
    have hs' : signed s a = (a : Int) := hs
    cases s with
    | false => rfl
    | true =>
      have h0 : a = 0 := by
        have : -(a : Int) = (a : Int) := hs'
        omega
      subst h0; rw [Nat.zero_mod]; rfl
  | negSucc a =>
    have e : Int.tmod (Int.negSucc a) j = -(((a + 1) % j.natAbs : Nat) : Int) := by cases j <;> rfl
    rw [e]; show signed s ((a + 1) % j.natAbs) = _
    cases s with
    | true => rfl
    | false =>
      have : ((a + 1 : Nat) : Int) = Int.negSucc a := hs
      omega
theorem whole_rem {i j : Int} {x y : Datum} (hx : Whole i x) (hy : Whole j y) (hj : j ≠ 0) : Whole (i.tmod j) (exactRemainder x y) := by
  cases x with
  | nan => exact hx.elim
  | inf => exact hx.elim
  | fin s c q =>
  cases y with
  | nan => exact hy.elim
  | inf => exact hy.elim
  | fin t d r =>
    have hd : d ≠ 0 := fun z => hj ((whole_zero hy).mp z)
    have h1 := congrArg Int.natAbs (whole_units hx (e := min q r) (by omega))
    have h2 := congrArg Int.natAbs (whole_units hy (e := min q r) (by omega))
    rw [Int.natAbs_mul, Int.natAbs_mul, Int.natAbs_natCast, Int.natAbs_natCast, natAbs_signed] at h1 h2
    show Whole _ (if d = 0 then _ else Datum.fin s (inUnits c q (min q r) % inUnits d r (min q r)) (min q r))
    rw [if_neg hd]
    show signed s (inUnits c q (min q r) % inUnits d r (min q r) * 2 ^ (min q r).toNat) = i.tmod j * ((2 ^ (-(min q r)).toNat : Nat) : Int)
    rw [← Nat.mul_mod_mul_right, h1, h2, Nat.mul_mod_mul_right, signed_mul, signed_tmod (whole_signed hx)]
theorem DS.rem {k : Nat} {i j : Int} {x y : UInt64} (hx : DS k i x) (hy : DS k j y) (hj : j ≠ 0) (hb : (i.tmod j).natAbs ≤ 2 ^ 53) (hk : k ≤ 1022) : DS k (i.tmod j) (FP.drem x y) := by
  show Whole _ (sft k (val64 (Core.drem x y)))
  rw [val64_drem]; refine ds_round hk hb ?_; rw [← sft_rem]; exact whole_rem hx hy hj
end Dyad
def own_low (i0 i1 i2 i3 i4 : Int) : Int32 := if i0 = 0 then (if i1 = 0 then (if i2 = 0 then (if i3 = 0 then (if i4 = 0 then 5 else 4) else 3) else 2) else 1) else 0
def own_high (i0 i1 i2 i3 i4 : Int) : Int32 := if i4 = 0 then (if i3 = 0 then (if i2 = 0 then (if i1 = 0 then (if i0 = 0 then 4 else 0) else 1) else 2) else 3) else 4
theorem own_lowb (i0 i1 i2 i3 i4 : Int) : 0 ≤ (own_low i0 i1 i2 i3 i4).toInt ∧ (own_low i0 i1 i2 i3 i4).toInt ≤ 5 := by
  unfold own_low; (repeat' split) <;> decide
theorem own_highb (i0 i1 i2 i3 i4 : Int) : 0 ≤ (own_high i0 i1 i2 i3 i4).toInt ∧ (own_high i0 i1 i2 i3 i4).toInt ≤ 5 := by
  unfold own_high; (repeat' split) <;> decide
theorem own_mul {a b A B : Int} (h1 : -A ≤ a ∧ a ≤ A) (h2 : -B ≤ b ∧ b ≤ B) : -(A * B) ≤ a * b ∧ a * b ≤ A * B := by
  have e : (a * b).natAbs ≤ A.natAbs * B.natAbs := by rw [Int.natAbs_mul]; exact Nat.mul_le_mul (by omega) (by omega)
  have hA : 0 ≤ A := by omega
  have hB : 0 ≤ B := by omega
  have e2 : ((A.natAbs * B.natAbs : Nat) : Int) = A * B := by rw [Int.natCast_mul, Int.natAbs_of_nonneg hA, Int.natAbs_of_nonneg hB]
  omega

theorem d1_0 : decode method_2_code 0 = .ok (.lload_n 0, 1) := by decide +kernel
theorem d1_1 : decode method_2_code 1 = .ok (.iconst 2, 1) := by decide +kernel
theorem d1_2 : decode method_2_code 2 = .ok (.iload_n 2, 1) := by decide +kernel
theorem d1_3 : decode method_2_code 3 = .ok (.imul, 1) := by decide +kernel
theorem d1_4 : decode method_2_code 4 = .ok (.lushr, 1) := by decide +kernel
theorem d1_5 : decode method_2_code 5 = .ok (.ldc2_w 7, 3) := by decide +kernel
theorem d1_8 : decode method_2_code 8 = .ok (.land, 1) := by decide +kernel
theorem d1_9 : decode method_2_code 9 = .ok (.l2i, 1) := by decide +kernel
theorem d1_10 : decode method_2_code 10 = .ok (.iconst 1, 1) := by decide +kernel
theorem d1_11 : decode method_2_code 11 = .ok (.isub, 1) := by decide +kernel
theorem d1_12 : decode method_2_code 12 = .ok (.i2d, 1) := by decide +kernel
theorem d1_13 : decode method_2_code 13 = .ok (.dreturn, 1) := by decide +kernel
theorem dc_4607182418800017408 : DS 0 1 (4607182418800017408 : UInt64) := DS.lit (s := false) (c := 4503599627370496) (q := -52) (by decide +kernel) (by decide +kernel)
theorem pn0 : plainName "com/example/tieline/tieline/wavelet/RegistrationReachPinLaw" = true := by first | (simp [plainName, overriddenIn]; done) | decide +kernel
theorem ef1_rm1_0 (m : MethodId) (x0 : Int64) (x1 : Int32) : entryFrame m #[(.long x0), (.int x1)] 3 = mkF m 0 #[.val (.long x0), .second, .val (.int x1)] [] := by first | (simp [entryFrame, mkF, argsToLocals, Value.category]; done) | rfl
def Q1_0 (Z : State) (pp : Int64) (h0 : Heap) (n0 : Nat) (v : Option Value) (h : Heap) (L : List Loc) : Prop := ∃ (z : UInt64) (q : Int), v = some (.double z) ∧ DS 0 q z ∧ (-1 ≤ q ∧ q ≤ 2) ∧ Fr n0 L ∧ h = h0
set_option maxRecDepth 65536 in
set_option maxHeartbeats 40000000 in
theorem rm1_0 (l : Launch) (Z : State) (a0 : Array Value) (hw : ∀ d ∈ tables_1, d.before a0 Z = true) (ws : List Jvm.Cond) (pp : Int64) (h0 : Heap) (n0 : Nat) (Z0 : n0 ≤ h0.size) :
    MetFree l (⟨"com/example/tieline/tieline/wavelet/RegistrationReachPinLaw", "v", "(JI)D"⟩ : MethodName) (head1 (Jvm.Cond.code (⟨"com/example/tieline/tieline/wavelet/RegistrationReachPinLaw", "v", "(JI)D"⟩ : MethodName) method_2_code 3 (some .double) :: ws) ({ frames := 0, cells := 0, slots := 0, locals := 0 } : Room)) (fun aa UU => aa = #[(.long pp), (.int (0 : Int32))] ∧ Z.Warmed39 UU.vm ∧ UU.heap = h0) (fun _ _ _ _ _ => True) (fun _ UU oo UU' => ∃ vv LL, oo = .returned vv ∧ Q1_0 Z pp h0 n0 vv UU'.heap LL ∧ FrameEnd UU oo UU' LL ({ frames := 0, cells := 0, slots := 0, locals := 0 } : Room).cells ({ frames := 0, cells := 0, slots := 0, locals := 0 } : Room).slots) := by
  refine MetFree.of_bodySF (plainFor_of_name pn0) hisR ?_
  intro p e s m args below meth c s₁ Bd hml0 hP hK
  obtain ⟨rfl, hZ, hh⟩ := hP
  have hx := Bd.exec
  have hby := Bd.bytes
  have hlk : meth.locks = false := BodyLoose.notSynchronized Bd
  have hret := Bd.returns
  have hml : c.maxLocals = 3 := hml0
  have hown : s.vm.findClass "com/example/tieline/tieline/wavelet/RegistrationReachPinLaw" = some m.cls := findClass_of_methodNamed Bd.named
  have hnm := (name_of_methodNamed Bd.named Bd.method).1
  have X0 : Stand p l e ({ frames := 0, cells := 0, slots := 0, locals := 0 } : Room) s m #[(.long pp), (.int (0 : Int32))] below meth c s₁ [] 0 0 := Stand.of_body Bd
  have e0 : s₁.heap = h0 := by rw [← hh, Bd.state]; rfl
  have N0 := Fr.nil n0
  have r_pp := rng64 pp
  show Dn p e below s (Q1_0 Z pp h0 n0) ({ frames := 0, cells := 0, slots := 0, locals := 0 } : Room).cells ({ frames := 0, cells := 0, slots := 0, locals := 0 } : Room).slots (s₁.setTop (entryFrame m #[(.long pp), (.int (0 : Int32))] 3))
  refine Dn.st (fun _ kk => castTop (ef1_rm1_0 m pp (0 : Int32)) kk) ?_
  show Dn p e below s _ _ _ (s₁.setTop (mkF m 0 #[.val (.long pp), .second, .val (.int (0 : Int32))] []))
  refine Dn.st (fun _ kk => XS.lloadN X0.here hx rfl (hb hby d1_0) rfl  (XS.iconst X0.here hx rfl (hb hby d1_1) (XS.iloadN X0.here hx rfl (hb hby d1_2) rfl  (XS.imul X0.here hx rfl (hb hby d1_3) rfl (XS.lushr X0.here hx rfl (hb hby d1_4) rfl (kk)))))) ?_
  show Dn p e below s _ _ _ (s₁.setTop (mkF m 5 #[.val (.long pp), .second, .val (.int (0 : Int32))] [(.long ((pp.toUInt64 >>> ((0 : Int32) &&& 0x3f).toInt64.toUInt64).toInt64))]))
  generalize hv4 : (((pp.toUInt64 >>> ((0 : Int32) &&& 0x3f).toInt64.toUInt64).toInt64) : Int64) = v4
  have r4 := rng64 v4
  show Dn p e below s _ _ _ (s₁.setTop (mkF m 5 #[.val (.long pp), .second, .val (.int (0 : Int32))] [(.long v4)]))
  refine Dn.st (fun _ kk => X0.ldc2Long hx hown (mvT hZ (hw _ (List.mem_of_getElem? (i := 5) rfl))) (g := (mkF m 5 #[.val (.long pp), .second, .val (.int (0 : Int32))] [(.long v4)])) rfl (hb hby d1_5) _ (XS.land X0.here hx rfl (hb hby d1_8) rfl (kk))) ?_
  show Dn p e below s _ _ _ (s₁.setTop (mkF m 9 #[.val (.long pp), .second, .val (.int (0 : Int32))] [(.long (v4 &&& (3 : Int64)))]))
  generalize hv8 : ((v4 &&& (3 : Int64)) : Int64) = v8
  have q8 : v8.toInt = v4.toInt % 4 := by have qq := c_maskL v4 (3 : Int64) 2 (by decide) (by decide); rw [hv8] at qq; exact qq
  have r8 := rng64 v8
  show Dn p e below s _ _ _ (s₁.setTop (mkF m 9 #[.val (.long pp), .second, .val (.int (0 : Int32))] [(.long v8)]))
  refine Dn.st (fun _ kk => XS.l2i X0.here hx rfl (hb hby d1_9) rfl (kk)) ?_
  show Dn p e below s _ _ _ (s₁.setTop (mkF m 10 #[.val (.long pp), .second, .val (.int (0 : Int32))] [(.int (v8.toInt32))]))
  generalize hv9 : ((v8.toInt32) : Int32) = v9
  have q9 : (v9.toInt - v8.toInt) % 4294967296 = 0 := by have qq := c_l2i v8; rw [hv9] at qq; exact qq
  have r9 := rng32 v9
  show Dn p e below s _ _ _ (s₁.setTop (mkF m 10 #[.val (.long pp), .second, .val (.int (0 : Int32))] [(.int v9)]))
  refine Dn.st (fun _ kk => XS.iconst X0.here hx rfl (hb hby d1_10) (XS.isub X0.here hx rfl (hb hby d1_11) rfl (kk))) ?_
  show Dn p e below s _ _ _ (s₁.setTop (mkF m 12 #[.val (.long pp), .second, .val (.int (0 : Int32))] [(.int (v9 - (1 : Int32)))]))
  generalize hv11 : ((v9 - (1 : Int32)) : Int32) = v11
  have q11 : (v11.toInt - (v9.toInt - 1)) % 4294967296 = 0 := by have qq := c_isub v9 (1 : Int32); rw [hv11] at qq; exact qq
  have r11 := rng32 v11
  show Dn p e below s _ _ _ (s₁.setTop (mkF m 12 #[.val (.long pp), .second, .val (.int (0 : Int32))] [(.int v11)]))
  have d12 := DS.i2d v11
  refine Dn.st (fun _ kk => XS.i2dS X0.here hx rfl (hb hby d1_12) rfl rfl (kk)) ?_
  show Dn p e below s _ _ _ (s₁.setTop (mkF m 13 #[.val (.long pp), .second, .val (.int (0 : Int32))] [(.double (FP.i2d v11))]))
  generalize hv12 : ((FP.i2d v11) : UInt64) = v12 at d12 ⊢
  show Dn p e below s _ _ _ (s₁.setTop (mkF m 13 #[.val (.long pp), .second, .val (.int (0 : Int32))] [(.double v12)]))
  exact Dn.ret X0 hlk hx hret rfl (Or.inr (Or.inr (Or.inl ⟨rfl, rfl, _, rfl⟩))) (hb hby d1_13) (by rw [e0]; exact ⟨_, _, rfl, d12, ⟨by omega, by omega⟩, N0, rfl⟩) (by decide) (by decide)

theorem ef1_rm1_1 (m : MethodId) (x0 : Int64) (x1 : Int32) : entryFrame m #[(.long x0), (.int x1)] 3 = mkF m 0 #[.val (.long x0), .second, .val (.int x1)] [] := by first | (simp [entryFrame, mkF, argsToLocals, Value.category]; done) | rfl
def Q1_1 (Z : State) (pp : Int64) (h0 : Heap) (n0 : Nat) (v : Option Value) (h : Heap) (L : List Loc) : Prop := ∃ (z : UInt64) (q : Int), v = some (.double z) ∧ DS 0 q z ∧ (-1 ≤ q ∧ q ≤ 2) ∧ Fr n0 L ∧ h = h0
set_option maxRecDepth 65536 in
set_option maxHeartbeats 40000000 in
theorem rm1_1 (l : Launch) (Z : State) (a0 : Array Value) (hw : ∀ d ∈ tables_1, d.before a0 Z = true) (ws : List Jvm.Cond) (pp : Int64) (h0 : Heap) (n0 : Nat) (Z0 : n0 ≤ h0.size) :
    MetFree l (⟨"com/example/tieline/tieline/wavelet/RegistrationReachPinLaw", "v", "(JI)D"⟩ : MethodName) (head1 (Jvm.Cond.code (⟨"com/example/tieline/tieline/wavelet/RegistrationReachPinLaw", "v", "(JI)D"⟩ : MethodName) method_2_code 3 (some .double) :: ws) ({ frames := 0, cells := 0, slots := 0, locals := 0 } : Room)) (fun aa UU => aa = #[(.long pp), (.int (1 : Int32))] ∧ Z.Warmed39 UU.vm ∧ UU.heap = h0) (fun _ _ _ _ _ => True) (fun _ UU oo UU' => ∃ vv LL, oo = .returned vv ∧ Q1_1 Z pp h0 n0 vv UU'.heap LL ∧ FrameEnd UU oo UU' LL ({ frames := 0, cells := 0, slots := 0, locals := 0 } : Room).cells ({ frames := 0, cells := 0, slots := 0, locals := 0 } : Room).slots) := by
  refine MetFree.of_bodySF (plainFor_of_name pn0) hisR ?_
  intro p e s m args below meth c s₁ Bd hml0 hP hK
  obtain ⟨rfl, hZ, hh⟩ := hP
  have hx := Bd.exec
  have hby := Bd.bytes
  have hlk : meth.locks = false := BodyLoose.notSynchronized Bd
  have hret := Bd.returns
  have hml : c.maxLocals = 3 := hml0
  have hown : s.vm.findClass "com/example/tieline/tieline/wavelet/RegistrationReachPinLaw" = some m.cls := findClass_of_methodNamed Bd.named
  have hnm := (name_of_methodNamed Bd.named Bd.method).1
  have X0 : Stand p l e ({ frames := 0, cells := 0, slots := 0, locals := 0 } : Room) s m #[(.long pp), (.int (1 : Int32))] below meth c s₁ [] 0 0 := Stand.of_body Bd
  have e0 : s₁.heap = h0 := by rw [← hh, Bd.state]; rfl
  have N0 := Fr.nil n0
  have r_pp := rng64 pp
  show Dn p e below s (Q1_1 Z pp h0 n0) ({ frames := 0, cells := 0, slots := 0, locals := 0 } : Room).cells ({ frames := 0, cells := 0, slots := 0, locals := 0 } : Room).slots (s₁.setTop (entryFrame m #[(.long pp), (.int (1 : Int32))] 3))
  refine Dn.st (fun _ kk => castTop (ef1_rm1_1 m pp (1 : Int32)) kk) ?_
  show Dn p e below s _ _ _ (s₁.setTop (mkF m 0 #[.val (.long pp), .second, .val (.int (1 : Int32))] []))
  refine Dn.st (fun _ kk => XS.lloadN X0.here hx rfl (hb hby d1_0) rfl  (XS.iconst X0.here hx rfl (hb hby d1_1) (XS.iloadN X0.here hx rfl (hb hby d1_2) rfl  (XS.imul X0.here hx rfl (hb hby d1_3) rfl (XS.lushr X0.here hx rfl (hb hby d1_4) rfl (kk)))))) ?_
  show Dn p e below s _ _ _ (s₁.setTop (mkF m 5 #[.val (.long pp), .second, .val (.int (1 : Int32))] [(.long ((pp.toUInt64 >>> ((2 : Int32) &&& 0x3f).toInt64.toUInt64).toInt64))]))
  generalize hv4 : (((pp.toUInt64 >>> ((2 : Int32) &&& 0x3f).toInt64.toUInt64).toInt64) : Int64) = v4
  have q4 : v4.toInt = (pp.toInt % 18446744073709551616) / 4 := by have qq := c_lushr pp (2 : Int32) 2 (by decide) (by decide); rw [hv4] at qq; exact qq
  have r4 := rng64 v4
  show Dn p e below s _ _ _ (s₁.setTop (mkF m 5 #[.val (.long pp), .second, .val (.int (1 : Int32))] [(.long v4)]))
  refine Dn.st (fun _ kk => X0.ldc2Long hx hown (mvT hZ (hw _ (List.mem_of_getElem? (i := 5) rfl))) (g := (mkF m 5 #[.val (.long pp), .second, .val (.int (1 : Int32))] [(.long v4)])) rfl (hb hby d1_5) _ (XS.land X0.here hx rfl (hb hby d1_8) rfl (kk))) ?_
  show Dn p e below s _ _ _ (s₁.setTop (mkF m 9 #[.val (.long pp), .second, .val (.int (1 : Int32))] [(.long (v4 &&& (3 : Int64)))]))
  generalize hv8 : ((v4 &&& (3 : Int64)) : Int64) = v8
  have q8 : v8.toInt = v4.toInt % 4 := by have qq := c_maskL v4 (3 : Int64) 2 (by decide) (by decide); rw [hv8] at qq; exact qq
  have r8 := rng64 v8
  show Dn p e below s _ _ _ (s₁.setTop (mkF m 9 #[.val (.long pp), .second, .val (.int (1 : Int32))] [(.long v8)]))
  refine Dn.st (fun _ kk => XS.l2i X0.here hx rfl (hb hby d1_9) rfl (kk)) ?_
  show Dn p e below s _ _ _ (s₁.setTop (mkF m 10 #[.val (.long pp), .second, .val (.int (1 : Int32))] [(.int (v8.toInt32))]))
  generalize hv9 : ((v8.toInt32) : Int32) = v9
  have q9 : (v9.toInt - v8.toInt) % 4294967296 = 0 := by have qq := c_l2i v8; rw [hv9] at qq; exact qq
  have r9 := rng32 v9
  show Dn p e below s _ _ _ (s₁.setTop (mkF m 10 #[.val (.long pp), .second, .val (.int (1 : Int32))] [(.int v9)]))
  refine Dn.st (fun _ kk => XS.iconst X0.here hx rfl (hb hby d1_10) (XS.isub X0.here hx rfl (hb hby d1_11) rfl (kk))) ?_
  show Dn p e below s _ _ _ (s₁.setTop (mkF m 12 #[.val (.long pp), .second, .val (.int (1 : Int32))] [(.int (v9 - (1 : Int32)))]))
  generalize hv11 : ((v9 - (1 : Int32)) : Int32) = v11
  have q11 : (v11.toInt - (v9.toInt - 1)) % 4294967296 = 0 := by have qq := c_isub v9 (1 : Int32); rw [hv11] at qq; exact qq
  have r11 := rng32 v11
  show Dn p e below s _ _ _ (s₁.setTop (mkF m 12 #[.val (.long pp), .second, .val (.int (1 : Int32))] [(.int v11)]))
  have d12 := DS.i2d v11
  refine Dn.st (fun _ kk => XS.i2dS X0.here hx rfl (hb hby d1_12) rfl rfl (kk)) ?_
  show Dn p e below s _ _ _ (s₁.setTop (mkF m 13 #[.val (.long pp), .second, .val (.int (1 : Int32))] [(.double (FP.i2d v11))]))
  generalize hv12 : ((FP.i2d v11) : UInt64) = v12 at d12 ⊢
  show Dn p e below s _ _ _ (s₁.setTop (mkF m 13 #[.val (.long pp), .second, .val (.int (1 : Int32))] [(.double v12)]))
  exact Dn.ret X0 hlk hx hret rfl (Or.inr (Or.inr (Or.inl ⟨rfl, rfl, _, rfl⟩))) (hb hby d1_13) (by rw [e0]; exact ⟨_, _, rfl, d12, ⟨by omega, by omega⟩, N0, rfl⟩) (by decide) (by decide)

theorem ef1_rm1_2 (m : MethodId) (x0 : Int64) (x1 : Int32) : entryFrame m #[(.long x0), (.int x1)] 3 = mkF m 0 #[.val (.long x0), .second, .val (.int x1)] [] := by first | (simp [entryFrame, mkF, argsToLocals, Value.category]; done) | rfl
def Q1_2 (Z : State) (pp : Int64) (h0 : Heap) (n0 : Nat) (v : Option Value) (h : Heap) (L : List Loc) : Prop := ∃ (z : UInt64) (q : Int), v = some (.double z) ∧ DS 0 q z ∧ (-1 ≤ q ∧ q ≤ 2) ∧ Fr n0 L ∧ h = h0
set_option maxRecDepth 65536 in
set_option maxHeartbeats 40000000 in
theorem rm1_2 (l : Launch) (Z : State) (a0 : Array Value) (hw : ∀ d ∈ tables_1, d.before a0 Z = true) (ws : List Jvm.Cond) (pp : Int64) (h0 : Heap) (n0 : Nat) (Z0 : n0 ≤ h0.size) :
    MetFree l (⟨"com/example/tieline/tieline/wavelet/RegistrationReachPinLaw", "v", "(JI)D"⟩ : MethodName) (head1 (Jvm.Cond.code (⟨"com/example/tieline/tieline/wavelet/RegistrationReachPinLaw", "v", "(JI)D"⟩ : MethodName) method_2_code 3 (some .double) :: ws) ({ frames := 0, cells := 0, slots := 0, locals := 0 } : Room)) (fun aa UU => aa = #[(.long pp), (.int (2 : Int32))] ∧ Z.Warmed39 UU.vm ∧ UU.heap = h0) (fun _ _ _ _ _ => True) (fun _ UU oo UU' => ∃ vv LL, oo = .returned vv ∧ Q1_2 Z pp h0 n0 vv UU'.heap LL ∧ FrameEnd UU oo UU' LL ({ frames := 0, cells := 0, slots := 0, locals := 0 } : Room).cells ({ frames := 0, cells := 0, slots := 0, locals := 0 } : Room).slots) := by
  refine MetFree.of_bodySF (plainFor_of_name pn0) hisR ?_
  intro p e s m args below meth c s₁ Bd hml0 hP hK
  obtain ⟨rfl, hZ, hh⟩ := hP
  have hx := Bd.exec
  have hby := Bd.bytes
  have hlk : meth.locks = false := BodyLoose.notSynchronized Bd
  have hret := Bd.returns
  have hml : c.maxLocals = 3 := hml0
  have hown : s.vm.findClass "com/example/tieline/tieline/wavelet/RegistrationReachPinLaw" = some m.cls := findClass_of_methodNamed Bd.named
  have hnm := (name_of_methodNamed Bd.named Bd.method).1
  have X0 : Stand p l e ({ frames := 0, cells := 0, slots := 0, locals := 0 } : Room) s m #[(.long pp), (.int (2 : Int32))] below meth c s₁ [] 0 0 := Stand.of_body Bd
  have e0 : s₁.heap = h0 := by rw [← hh, Bd.state]; rfl
  have N0 := Fr.nil n0
  have r_pp := rng64 pp
  show Dn p e below s (Q1_2 Z pp h0 n0) ({ frames := 0, cells := 0, slots := 0, locals := 0 } : Room).cells ({ frames := 0, cells := 0, slots := 0, locals := 0 } : Room).slots (s₁.setTop (entryFrame m #[(.long pp), (.int (2 : Int32))] 3))
  refine Dn.st (fun _ kk => castTop (ef1_rm1_2 m pp (2 : Int32)) kk) ?_
  show Dn p e below s _ _ _ (s₁.setTop (mkF m 0 #[.val (.long pp), .second, .val (.int (2 : Int32))] []))
  refine Dn.st (fun _ kk => XS.lloadN X0.here hx rfl (hb hby d1_0) rfl  (XS.iconst X0.here hx rfl (hb hby d1_1) (XS.iloadN X0.here hx rfl (hb hby d1_2) rfl  (XS.imul X0.here hx rfl (hb hby d1_3) rfl (XS.lushr X0.here hx rfl (hb hby d1_4) rfl (kk)))))) ?_
  show Dn p e below s _ _ _ (s₁.setTop (mkF m 5 #[.val (.long pp), .second, .val (.int (2 : Int32))] [(.long ((pp.toUInt64 >>> ((4 : Int32) &&& 0x3f).toInt64.toUInt64).toInt64))]))
  generalize hv4 : (((pp.toUInt64 >>> ((4 : Int32) &&& 0x3f).toInt64.toUInt64).toInt64) : Int64) = v4
  have q4 : v4.toInt = (pp.toInt % 18446744073709551616) / 16 := by have qq := c_lushr pp (4 : Int32) 4 (by decide) (by decide); rw [hv4] at qq; exact qq
  have r4 := rng64 v4
  show Dn p e below s _ _ _ (s₁.setTop (mkF m 5 #[.val (.long pp), .second, .val (.int (2 : Int32))] [(.long v4)]))
  refine Dn.st (fun _ kk => X0.ldc2Long hx hown (mvT hZ (hw _ (List.mem_of_getElem? (i := 5) rfl))) (g := (mkF m 5 #[.val (.long pp), .second, .val (.int (2 : Int32))] [(.long v4)])) rfl (hb hby d1_5) _ (XS.land X0.here hx rfl (hb hby d1_8) rfl (kk))) ?_
  show Dn p e below s _ _ _ (s₁.setTop (mkF m 9 #[.val (.long pp), .second, .val (.int (2 : Int32))] [(.long (v4 &&& (3 : Int64)))]))
  generalize hv8 : ((v4 &&& (3 : Int64)) : Int64) = v8
  have q8 : v8.toInt = v4.toInt % 4 := by have qq := c_maskL v4 (3 : Int64) 2 (by decide) (by decide); rw [hv8] at qq; exact qq
  have r8 := rng64 v8
  show Dn p e below s _ _ _ (s₁.setTop (mkF m 9 #[.val (.long pp), .second, .val (.int (2 : Int32))] [(.long v8)]))
  refine Dn.st (fun _ kk => XS.l2i X0.here hx rfl (hb hby d1_9) rfl (kk)) ?_
  show Dn p e below s _ _ _ (s₁.setTop (mkF m 10 #[.val (.long pp), .second, .val (.int (2 : Int32))] [(.int (v8.toInt32))]))
  generalize hv9 : ((v8.toInt32) : Int32) = v9
  have q9 : (v9.toInt - v8.toInt) % 4294967296 = 0 := by have qq := c_l2i v8; rw [hv9] at qq; exact qq
  have r9 := rng32 v9
  show Dn p e below s _ _ _ (s₁.setTop (mkF m 10 #[.val (.long pp), .second, .val (.int (2 : Int32))] [(.int v9)]))
  refine Dn.st (fun _ kk => XS.iconst X0.here hx rfl (hb hby d1_10) (XS.isub X0.here hx rfl (hb hby d1_11) rfl (kk))) ?_
  show Dn p e below s _ _ _ (s₁.setTop (mkF m 12 #[.val (.long pp), .second, .val (.int (2 : Int32))] [(.int (v9 - (1 : Int32)))]))
  generalize hv11 : ((v9 - (1 : Int32)) : Int32) = v11
  have q11 : (v11.toInt - (v9.toInt - 1)) % 4294967296 = 0 := by have qq := c_isub v9 (1 : Int32); rw [hv11] at qq; exact qq
  have r11 := rng32 v11
  show Dn p e below s _ _ _ (s₁.setTop (mkF m 12 #[.val (.long pp), .second, .val (.int (2 : Int32))] [(.int v11)]))
  have d12 := DS.i2d v11
  refine Dn.st (fun _ kk => XS.i2dS X0.here hx rfl (hb hby d1_12) rfl rfl (kk)) ?_
  show Dn p e below s _ _ _ (s₁.setTop (mkF m 13 #[.val (.long pp), .second, .val (.int (2 : Int32))] [(.double (FP.i2d v11))]))
  generalize hv12 : ((FP.i2d v11) : UInt64) = v12 at d12 ⊢
  show Dn p e below s _ _ _ (s₁.setTop (mkF m 13 #[.val (.long pp), .second, .val (.int (2 : Int32))] [(.double v12)]))
  exact Dn.ret X0 hlk hx hret rfl (Or.inr (Or.inr (Or.inl ⟨rfl, rfl, _, rfl⟩))) (hb hby d1_13) (by rw [e0]; exact ⟨_, _, rfl, d12, ⟨by omega, by omega⟩, N0, rfl⟩) (by decide) (by decide)

theorem ef1_rm1_3 (m : MethodId) (x0 : Int64) (x1 : Int32) : entryFrame m #[(.long x0), (.int x1)] 3 = mkF m 0 #[.val (.long x0), .second, .val (.int x1)] [] := by first | (simp [entryFrame, mkF, argsToLocals, Value.category]; done) | rfl
def Q1_3 (Z : State) (pp : Int64) (h0 : Heap) (n0 : Nat) (v : Option Value) (h : Heap) (L : List Loc) : Prop := ∃ (z : UInt64) (q : Int), v = some (.double z) ∧ DS 0 q z ∧ (-1 ≤ q ∧ q ≤ 2) ∧ Fr n0 L ∧ h = h0
set_option maxRecDepth 65536 in
set_option maxHeartbeats 40000000 in
theorem rm1_3 (l : Launch) (Z : State) (a0 : Array Value) (hw : ∀ d ∈ tables_1, d.before a0 Z = true) (ws : List Jvm.Cond) (pp : Int64) (h0 : Heap) (n0 : Nat) (Z0 : n0 ≤ h0.size) :
    MetFree l (⟨"com/example/tieline/tieline/wavelet/RegistrationReachPinLaw", "v", "(JI)D"⟩ : MethodName) (head1 (Jvm.Cond.code (⟨"com/example/tieline/tieline/wavelet/RegistrationReachPinLaw", "v", "(JI)D"⟩ : MethodName) method_2_code 3 (some .double) :: ws) ({ frames := 0, cells := 0, slots := 0, locals := 0 } : Room)) (fun aa UU => aa = #[(.long pp), (.int (3 : Int32))] ∧ Z.Warmed39 UU.vm ∧ UU.heap = h0) (fun _ _ _ _ _ => True) (fun _ UU oo UU' => ∃ vv LL, oo = .returned vv ∧ Q1_3 Z pp h0 n0 vv UU'.heap LL ∧ FrameEnd UU oo UU' LL ({ frames := 0, cells := 0, slots := 0, locals := 0 } : Room).cells ({ frames := 0, cells := 0, slots := 0, locals := 0 } : Room).slots) := by
  refine MetFree.of_bodySF (plainFor_of_name pn0) hisR ?_
  intro p e s m args below meth c s₁ Bd hml0 hP hK
  obtain ⟨rfl, hZ, hh⟩ := hP
  have hx := Bd.exec
  have hby := Bd.bytes
  have hlk : meth.locks = false := BodyLoose.notSynchronized Bd
  have hret := Bd.returns
  have hml : c.maxLocals = 3 := hml0
  have hown : s.vm.findClass "com/example/tieline/tieline/wavelet/RegistrationReachPinLaw" = some m.cls := findClass_of_methodNamed Bd.named
  have hnm := (name_of_methodNamed Bd.named Bd.method).1
  have X0 : Stand p l e ({ frames := 0, cells := 0, slots := 0, locals := 0 } : Room) s m #[(.long pp), (.int (3 : Int32))] below meth c s₁ [] 0 0 := Stand.of_body Bd
  have e0 : s₁.heap = h0 := by rw [← hh, Bd.state]; rfl
  have N0 := Fr.nil n0
  have r_pp := rng64 pp
  show Dn p e below s (Q1_3 Z pp h0 n0) ({ frames := 0, cells := 0, slots := 0, locals := 0 } : Room).cells ({ frames := 0, cells := 0, slots := 0, locals := 0 } : Room).slots (s₁.setTop (entryFrame m #[(.long pp), (.int (3 : Int32))] 3))
  refine Dn.st (fun _ kk => castTop (ef1_rm1_3 m pp (3 : Int32)) kk) ?_
  show Dn p e below s _ _ _ (s₁.setTop (mkF m 0 #[.val (.long pp), .second, .val (.int (3 : Int32))] []))
  refine Dn.st (fun _ kk => XS.lloadN X0.here hx rfl (hb hby d1_0) rfl  (XS.iconst X0.here hx rfl (hb hby d1_1) (XS.iloadN X0.here hx rfl (hb hby d1_2) rfl  (XS.imul X0.here hx rfl (hb hby d1_3) rfl (XS.lushr X0.here hx rfl (hb hby d1_4) rfl (kk)))))) ?_
  show Dn p e below s _ _ _ (s₁.setTop (mkF m 5 #[.val (.long pp), .second, .val (.int (3 : Int32))] [(.long ((pp.toUInt64 >>> ((6 : Int32) &&& 0x3f).toInt64.toUInt64).toInt64))]))
  generalize hv4 : (((pp.toUInt64 >>> ((6 : Int32) &&& 0x3f).toInt64.toUInt64).toInt64) : Int64) = v4
  have q4 : v4.toInt = (pp.toInt % 18446744073709551616) / 64 := by have qq := c_lushr pp (6 : Int32) 6 (by decide) (by decide); rw [hv4] at qq; exact qq
  have r4 := rng64 v4
  show Dn p e below s _ _ _ (s₁.setTop (mkF m 5 #[.val (.long pp), .second, .val (.int (3 : Int32))] [(.long v4)]))
  refine Dn.st (fun _ kk => X0.ldc2Long hx hown (mvT hZ (hw _ (List.mem_of_getElem? (i := 5) rfl))) (g := (mkF m 5 #[.val (.long pp), .second, .val (.int (3 : Int32))] [(.long v4)])) rfl (hb hby d1_5) _ (XS.land X0.here hx rfl (hb hby d1_8) rfl (kk))) ?_
  show Dn p e below s _ _ _ (s₁.setTop (mkF m 9 #[.val (.long pp), .second, .val (.int (3 : Int32))] [(.long (v4 &&& (3 : Int64)))]))
  generalize hv8 : ((v4 &&& (3 : Int64)) : Int64) = v8
  have q8 : v8.toInt = v4.toInt % 4 := by have qq := c_maskL v4 (3 : Int64) 2 (by decide) (by decide); rw [hv8] at qq; exact qq
  have r8 := rng64 v8
  show Dn p e below s _ _ _ (s₁.setTop (mkF m 9 #[.val (.long pp), .second, .val (.int (3 : Int32))] [(.long v8)]))
  refine Dn.st (fun _ kk => XS.l2i X0.here hx rfl (hb hby d1_9) rfl (kk)) ?_
  show Dn p e below s _ _ _ (s₁.setTop (mkF m 10 #[.val (.long pp), .second, .val (.int (3 : Int32))] [(.int (v8.toInt32))]))
  generalize hv9 : ((v8.toInt32) : Int32) = v9
  have q9 : (v9.toInt - v8.toInt) % 4294967296 = 0 := by have qq := c_l2i v8; rw [hv9] at qq; exact qq
  have r9 := rng32 v9
  show Dn p e below s _ _ _ (s₁.setTop (mkF m 10 #[.val (.long pp), .second, .val (.int (3 : Int32))] [(.int v9)]))
  refine Dn.st (fun _ kk => XS.iconst X0.here hx rfl (hb hby d1_10) (XS.isub X0.here hx rfl (hb hby d1_11) rfl (kk))) ?_
  show Dn p e below s _ _ _ (s₁.setTop (mkF m 12 #[.val (.long pp), .second, .val (.int (3 : Int32))] [(.int (v9 - (1 : Int32)))]))
  generalize hv11 : ((v9 - (1 : Int32)) : Int32) = v11
  have q11 : (v11.toInt - (v9.toInt - 1)) % 4294967296 = 0 := by have qq := c_isub v9 (1 : Int32); rw [hv11] at qq; exact qq
  have r11 := rng32 v11
  show Dn p e below s _ _ _ (s₁.setTop (mkF m 12 #[.val (.long pp), .second, .val (.int (3 : Int32))] [(.int v11)]))
  have d12 := DS.i2d v11
  refine Dn.st (fun _ kk => XS.i2dS X0.here hx rfl (hb hby d1_12) rfl rfl (kk)) ?_
  show Dn p e below s _ _ _ (s₁.setTop (mkF m 13 #[.val (.long pp), .second, .val (.int (3 : Int32))] [(.double (FP.i2d v11))]))
  generalize hv12 : ((FP.i2d v11) : UInt64) = v12 at d12 ⊢
  show Dn p e below s _ _ _ (s₁.setTop (mkF m 13 #[.val (.long pp), .second, .val (.int (3 : Int32))] [(.double v12)]))
  exact Dn.ret X0 hlk hx hret rfl (Or.inr (Or.inr (Or.inl ⟨rfl, rfl, _, rfl⟩))) (hb hby d1_13) (by rw [e0]; exact ⟨_, _, rfl, d12, ⟨by omega, by omega⟩, N0, rfl⟩) (by decide) (by decide)

theorem ef1_rm1_4 (m : MethodId) (x0 : Int64) (x1 : Int32) : entryFrame m #[(.long x0), (.int x1)] 3 = mkF m 0 #[.val (.long x0), .second, .val (.int x1)] [] := by first | (simp [entryFrame, mkF, argsToLocals, Value.category]; done) | rfl
def Q1_4 (Z : State) (pp : Int64) (h0 : Heap) (n0 : Nat) (v : Option Value) (h : Heap) (L : List Loc) : Prop := ∃ (z : UInt64) (q : Int), v = some (.double z) ∧ DS 0 q z ∧ (-1 ≤ q ∧ q ≤ 2) ∧ Fr n0 L ∧ h = h0
set_option maxRecDepth 65536 in
set_option maxHeartbeats 40000000 in
theorem rm1_4 (l : Launch) (Z : State) (a0 : Array Value) (hw : ∀ d ∈ tables_1, d.before a0 Z = true) (ws : List Jvm.Cond) (pp : Int64) (h0 : Heap) (n0 : Nat) (Z0 : n0 ≤ h0.size) :
    MetFree l (⟨"com/example/tieline/tieline/wavelet/RegistrationReachPinLaw", "v", "(JI)D"⟩ : MethodName) (head1 (Jvm.Cond.code (⟨"com/example/tieline/tieline/wavelet/RegistrationReachPinLaw", "v", "(JI)D"⟩ : MethodName) method_2_code 3 (some .double) :: ws) ({ frames := 0, cells := 0, slots := 0, locals := 0 } : Room)) (fun aa UU => aa = #[(.long pp), (.int (4 : Int32))] ∧ Z.Warmed39 UU.vm ∧ UU.heap = h0) (fun _ _ _ _ _ => True) (fun _ UU oo UU' => ∃ vv LL, oo = .returned vv ∧ Q1_4 Z pp h0 n0 vv UU'.heap LL ∧ FrameEnd UU oo UU' LL ({ frames := 0, cells := 0, slots := 0, locals := 0 } : Room).cells ({ frames := 0, cells := 0, slots := 0, locals := 0 } : Room).slots) := by
  refine MetFree.of_bodySF (plainFor_of_name pn0) hisR ?_
  intro p e s m args below meth c s₁ Bd hml0 hP hK
  obtain ⟨rfl, hZ, hh⟩ := hP
  have hx := Bd.exec
  have hby := Bd.bytes
  have hlk : meth.locks = false := BodyLoose.notSynchronized Bd
  have hret := Bd.returns
  have hml : c.maxLocals = 3 := hml0
  have hown : s.vm.findClass "com/example/tieline/tieline/wavelet/RegistrationReachPinLaw" = some m.cls := findClass_of_methodNamed Bd.named
  have hnm := (name_of_methodNamed Bd.named Bd.method).1
  have X0 : Stand p l e ({ frames := 0, cells := 0, slots := 0, locals := 0 } : Room) s m #[(.long pp), (.int (4 : Int32))] below meth c s₁ [] 0 0 := Stand.of_body Bd
  have e0 : s₁.heap = h0 := by rw [← hh, Bd.state]; rfl
  have N0 := Fr.nil n0
  have r_pp := rng64 pp
  show Dn p e below s (Q1_4 Z pp h0 n0) ({ frames := 0, cells := 0, slots := 0, locals := 0 } : Room).cells ({ frames := 0, cells := 0, slots := 0, locals := 0 } : Room).slots (s₁.setTop (entryFrame m #[(.long pp), (.int (4 : Int32))] 3))
  refine Dn.st (fun _ kk => castTop (ef1_rm1_4 m pp (4 : Int32)) kk) ?_
  show Dn p e below s _ _ _ (s₁.setTop (mkF m 0 #[.val (.long pp), .second, .val (.int (4 : Int32))] []))
  refine Dn.st (fun _ kk => XS.lloadN X0.here hx rfl (hb hby d1_0) rfl  (XS.iconst X0.here hx rfl (hb hby d1_1) (XS.iloadN X0.here hx rfl (hb hby d1_2) rfl  (XS.imul X0.here hx rfl (hb hby d1_3) rfl (XS.lushr X0.here hx rfl (hb hby d1_4) rfl (kk)))))) ?_
  show Dn p e below s _ _ _ (s₁.setTop (mkF m 5 #[.val (.long pp), .second, .val (.int (4 : Int32))] [(.long ((pp.toUInt64 >>> ((8 : Int32) &&& 0x3f).toInt64.toUInt64).toInt64))]))
  generalize hv4 : (((pp.toUInt64 >>> ((8 : Int32) &&& 0x3f).toInt64.toUInt64).toInt64) : Int64) = v4
  have q4 : v4.toInt = (pp.toInt % 18446744073709551616) / 256 := by have qq := c_lushr pp (8 : Int32) 8 (by decide) (by decide); rw [hv4] at qq; exact qq
  have r4 := rng64 v4
  show Dn p e below s _ _ _ (s₁.setTop (mkF m 5 #[.val (.long pp), .second, .val (.int (4 : Int32))] [(.long v4)]))
  refine Dn.st (fun _ kk => X0.ldc2Long hx hown (mvT hZ (hw _ (List.mem_of_getElem? (i := 5) rfl))) (g := (mkF m 5 #[.val (.long pp), .second, .val (.int (4 : Int32))] [(.long v4)])) rfl (hb hby d1_5) _ (XS.land X0.here hx rfl (hb hby d1_8) rfl (kk))) ?_
  show Dn p e below s _ _ _ (s₁.setTop (mkF m 9 #[.val (.long pp), .second, .val (.int (4 : Int32))] [(.long (v4 &&& (3 : Int64)))]))
  generalize hv8 : ((v4 &&& (3 : Int64)) : Int64) = v8
  have q8 : v8.toInt = v4.toInt % 4 := by have qq := c_maskL v4 (3 : Int64) 2 (by decide) (by decide); rw [hv8] at qq; exact qq
  have r8 := rng64 v8
  show Dn p e below s _ _ _ (s₁.setTop (mkF m 9 #[.val (.long pp), .second, .val (.int (4 : Int32))] [(.long v8)]))
  refine Dn.st (fun _ kk => XS.l2i X0.here hx rfl (hb hby d1_9) rfl (kk)) ?_
  show Dn p e below s _ _ _ (s₁.setTop (mkF m 10 #[.val (.long pp), .second, .val (.int (4 : Int32))] [(.int (v8.toInt32))]))
  generalize hv9 : ((v8.toInt32) : Int32) = v9
  have q9 : (v9.toInt - v8.toInt) % 4294967296 = 0 := by have qq := c_l2i v8; rw [hv9] at qq; exact qq
  have r9 := rng32 v9
  show Dn p e below s _ _ _ (s₁.setTop (mkF m 10 #[.val (.long pp), .second, .val (.int (4 : Int32))] [(.int v9)]))
  refine Dn.st (fun _ kk => XS.iconst X0.here hx rfl (hb hby d1_10) (XS.isub X0.here hx rfl (hb hby d1_11) rfl (kk))) ?_
  show Dn p e below s _ _ _ (s₁.setTop (mkF m 12 #[.val (.long pp), .second, .val (.int (4 : Int32))] [(.int (v9 - (1 : Int32)))]))
  generalize hv11 : ((v9 - (1 : Int32)) : Int32) = v11
  have q11 : (v11.toInt - (v9.toInt - 1)) % 4294967296 = 0 := by have qq := c_isub v9 (1 : Int32); rw [hv11] at qq; exact qq
  have r11 := rng32 v11
  show Dn p e below s _ _ _ (s₁.setTop (mkF m 12 #[.val (.long pp), .second, .val (.int (4 : Int32))] [(.int v11)]))
  have d12 := DS.i2d v11
  refine Dn.st (fun _ kk => XS.i2dS X0.here hx rfl (hb hby d1_12) rfl rfl (kk)) ?_
  show Dn p e below s _ _ _ (s₁.setTop (mkF m 13 #[.val (.long pp), .second, .val (.int (4 : Int32))] [(.double (FP.i2d v11))]))
  generalize hv12 : ((FP.i2d v11) : UInt64) = v12 at d12 ⊢
  show Dn p e below s _ _ _ (s₁.setTop (mkF m 13 #[.val (.long pp), .second, .val (.int (4 : Int32))] [(.double v12)]))
  exact Dn.ret X0 hlk hx hret rfl (Or.inr (Or.inr (Or.inl ⟨rfl, rfl, _, rfl⟩))) (hb hby d1_13) (by rw [e0]; exact ⟨_, _, rfl, d12, ⟨by omega, by omega⟩, N0, rfl⟩) (by decide) (by decide)

theorem d3_0 : decode jdk_32_method_1_code 0 = .ok (.getstatic 1, 3) := by decide +kernel
theorem d3_3 : decode jdk_32_method_1_code 3 = .ok (.astore_n 0, 1) := by decide +kernel
theorem d3_4 : decode jdk_32_method_1_code 4 = .ok (.aload_n 0, 1) := by decide +kernel
theorem d3_5 : decode jdk_32_method_1_code 5 = .ok (.areturn, 1) := by decide +kernel
theorem pn1 : plainName "java/util/Optional" = true := by first | (simp [plainName, overriddenIn]; done) | decide +kernel
theorem ef3_rm3 (m : MethodId)  : entryFrame m #[] 1 = mkF m 0 #[.unset] [] := by first | (simp [entryFrame, mkF, argsToLocals, Value.category]; done) | rfl
def Q3 (Z : State) (aE : Addr) (h0 : Heap) (n0 : Nat) (v : Option Value) (h : Heap) (L : List Loc) : Prop := v = some (.ref aE) ∧ Fr n0 L ∧ h = h0
set_option maxRecDepth 65536 in
set_option maxHeartbeats 40000000 in
theorem rm3 (l : Launch) (Z : State) (a0 : Array Value) (hw : ∀ d ∈ tables_1, d.before a0 Z = true) (ws : List Jvm.Cond) (aE : Addr) (h0 : Heap) (n0 : Nat) (Z0 : n0 ≤ h0.size) (S_E : Sta Z h0 "java/util/Optional" "EMPTY" "Ljava/util/Optional;" (.ref aE)) :
    MetFree l (⟨"java/util/Optional", "empty", "()Ljava/util/Optional;"⟩ : MethodName) (head1 (Jvm.Cond.code (⟨"java/util/Optional", "empty", "()Ljava/util/Optional;"⟩ : MethodName) jdk_32_method_1_code 1 (some (.object "java/util/Optional")) :: ws) ({ frames := 0, cells := 0, slots := 0, locals := 0 } : Room)) (fun aa UU => aa = #[] ∧ Z.Warmed39 UU.vm ∧ UU.heap = h0) (fun _ _ _ _ _ => True) (fun _ UU oo UU' => ∃ vv LL, oo = .returned vv ∧ Q3 Z aE h0 n0 vv UU'.heap LL ∧ FrameEnd UU oo UU' LL ({ frames := 0, cells := 0, slots := 0, locals := 0 } : Room).cells ({ frames := 0, cells := 0, slots := 0, locals := 0 } : Room).slots) := by
  refine MetFree.of_bodySF (plainFor_of_name pn1) hisR ?_
  intro p e s m args below meth c s₁ Bd hml0 hP hK
  obtain ⟨rfl, hZ, hh⟩ := hP
  have hx := Bd.exec
  have hby := Bd.bytes
  have hlk : meth.locks = false := BodyLoose.notSynchronized Bd
  have hret := Bd.returns
  have hml : c.maxLocals = 1 := hml0
  have hown : s.vm.findClass "java/util/Optional" = some m.cls := findClass_of_methodNamed Bd.named
  have hnm := (name_of_methodNamed Bd.named Bd.method).1
  have X0 : Stand p l e ({ frames := 0, cells := 0, slots := 0, locals := 0 } : Room) s m #[] below meth c s₁ [] 0 0 := Stand.of_body Bd
  have e0 : s₁.heap = h0 := by rw [← hh, Bd.state]; rfl
  have N0 := Fr.nil n0
  show Dn p e below s (Q3 Z aE h0 n0) ({ frames := 0, cells := 0, slots := 0, locals := 0 } : Room).cells ({ frames := 0, cells := 0, slots := 0, locals := 0 } : Room).slots (s₁.setTop (entryFrame m #[] 1))
  refine Dn.st (fun _ kk => castTop (ef3_rm3 m ) kk) ?_
  show Dn p e below s _ _ _ (s₁.setTop (mkF m 0 #[.unset] []))
  obtain ⟨T0z, X0z, e0z, st0z⟩ := getS2 X0 hx hZ hown (host := "") (Or.inl (hw _ (List.mem_of_getElem? (i := 27) rfl))) Via.refl e0 S_E (g := (mkF m 0 #[.unset] [])) rfl (hb hby d3_0)
  refine Dn.st st0z ?_
  show Dn p e below s _ _ _ (T0z.setTop (mkF m 3 #[.unset] [(.ref aE)]))
  refine Dn.st (fun _ kk => XS.astoreN X0z.here hx rfl (hb hby d3_3) rfl rfl (l' := #[.val (.ref aE)]) rfl (XS.aloadN X0z.here hx rfl (hb hby d3_4) rfl rfl (kk))) ?_
  show Dn p e below s _ _ _ (T0z.setTop (mkF m 5 #[.val (.ref aE)] [(.ref aE)]))
  exact Dn.ret X0z hlk hx hret rfl (Or.inr (Or.inr (Or.inr (Or.inr ⟨rfl, rfl, rfl⟩)))) (hb hby d3_5) (by rw [e0z]; exact ⟨rfl, N0, rfl⟩) (by decide) (by decide)

theorem d5_0 : decode jdk_30_method_1_code 0 = .ok (.aload_n 0, 1) := by decide +kernel
theorem d5_1 : decode jdk_30_method_1_code 1 = .ok (.invokespecial 1, 3) := by decide +kernel
theorem d5_4 : decode jdk_30_method_1_code 4 = .ok (.return_, 1) := by decide +kernel
theorem pn2 : plainName "java/lang/Record" = true := by first | (simp [plainName, overriddenIn]; done) | decide +kernel
theorem ef5_rm5 (m : MethodId) (x0 : Addr) : entryFrame m #[(.ref x0)] 1 = mkF m 0 #[.val (.ref x0)] [] := by first | (simp [entryFrame, mkF, argsToLocals, Value.category]; done) | rfl
def Q5 (Z : State) (a : Addr) (h0 : Heap) (n0 : Nat) (v : Option Value) (h : Heap) (L : List Loc) : Prop := v = none ∧ Fr n0 L ∧ h = h0
set_option maxRecDepth 65536 in
set_option maxHeartbeats 40000000 in
theorem rm5 (l : Launch) (Z : State) (a0 : Array Value) (hw : ∀ d ∈ tables_1, d.before a0 Z = true) (ws : List Jvm.Cond) (a : Addr) (h0 : Heap) (n0 : Nat) (Z0 : n0 ≤ h0.size) :
    MetFree l (⟨"java/lang/Record", "<init>", "()V"⟩ : MethodName) (head1 (Jvm.Cond.code (⟨"java/lang/Record", "<init>", "()V"⟩ : MethodName) jdk_30_method_1_code 1 none :: ws) ({ frames := 1, cells := 0, slots := 0, locals := 12 } : Room)) (fun aa UU => aa = #[(.ref a)] ∧ Z.Warmed39 UU.vm ∧ UU.heap = h0) (fun _ _ _ _ _ => True) (fun _ UU oo UU' => ∃ vv LL, oo = .returned vv ∧ Q5 Z a h0 n0 vv UU'.heap LL ∧ FrameEnd UU oo UU' LL ({ frames := 1, cells := 0, slots := 0, locals := 12 } : Room).cells ({ frames := 1, cells := 0, slots := 0, locals := 12 } : Room).slots) := by
  refine MetFree.of_bodySF (plainFor_of_name pn2) hisR ?_
  intro p e s m args below meth c s₁ Bd hml0 hP hK
  obtain ⟨rfl, hZ, hh⟩ := hP
  have hx := Bd.exec
  have hby := Bd.bytes
  have hlk : meth.locks = false := BodyLoose.notSynchronized Bd
  have hret := Bd.returns
  have hml : c.maxLocals = 1 := hml0
  have hown : s.vm.findClass "java/lang/Record" = some m.cls := findClass_of_methodNamed Bd.named
  have hnm := (name_of_methodNamed Bd.named Bd.method).1
  have X0 : Stand p l e ({ frames := 1, cells := 0, slots := 0, locals := 12 } : Room) s m #[(.ref a)] below meth c s₁ [] 0 0 := Stand.of_body Bd
  have e0 : s₁.heap = h0 := by rw [← hh, Bd.state]; rfl
  have N0 := Fr.nil n0
  show Dn p e below s (Q5 Z a h0 n0) ({ frames := 1, cells := 0, slots := 0, locals := 12 } : Room).cells ({ frames := 1, cells := 0, slots := 0, locals := 12 } : Room).slots (s₁.setTop (entryFrame m #[(.ref a)] 1))
  refine Dn.st (fun _ kk => castTop (ef5_rm5 m a) kk) ?_
  show Dn p e below s _ _ _ (s₁.setTop (mkF m 0 #[.val (.ref a)] []))
  refine Dn.st (fun _ kk => XS.aloadN X0.here hx rfl (hb hby d5_0) rfl rfl (kk)) ?_
  show Dn p e below s _ _ _ (s₁.setTop (mkF m 1 #[.val (.ref a)] [(.ref a)]))
  obtain ⟨T1, X1, e1, st1⟩ := initO X0 hx hZ hown (hw _ (List.mem_of_getElem? (i := 39) rfl)) (hw _ (List.mem_of_getElem? (i := 40) rfl)) (hw _ (List.mem_of_getElem? (i := 41) rfl)) e0 (g := (mkF m 1 #[.val (.ref a)] [(.ref a)])) rfl (by rw [hml]; rfl) rfl (hb hby d5_1) (by decide) (W := 0) (by show 2 * 0 + _ ≤ _; exact Nat.le_of_eq rfl) (by decide)
  refine Dn.st st1 ?_
  show Dn p e below s _ _ _ (T1.setTop (mkF m 4 #[.val (.ref a)] []))
  exact Dn.ret0 X1 hlk hx hret (hb hby d5_4) (by rw [e1]; exact ⟨rfl, N0, rfl⟩) (by decide) (by decide)

theorem d4_0 : decode prog_41_method_1_code 0 = .ok (.aload_n 0, 1) := by decide +kernel
theorem d4_1 : decode prog_41_method_1_code 1 = .ok (.invokespecial 1, 3) := by decide +kernel
theorem d4_4 : decode prog_41_method_1_code 4 = .ok (.aload_n 0, 1) := by decide +kernel
theorem d4_5 : decode prog_41_method_1_code 5 = .ok (.dload_n 1, 1) := by decide +kernel
theorem d4_6 : decode prog_41_method_1_code 6 = .ok (.putfield 7, 3) := by decide +kernel
theorem d4_9 : decode prog_41_method_1_code 9 = .ok (.aload_n 0, 1) := by decide +kernel
theorem d4_10 : decode prog_41_method_1_code 10 = .ok (.dload_n 3, 1) := by decide +kernel
theorem d4_11 : decode prog_41_method_1_code 11 = .ok (.putfield 13, 3) := by decide +kernel
theorem d4_14 : decode prog_41_method_1_code 14 = .ok (.return_, 1) := by decide +kernel
theorem pd0 : parseMethodDescriptor "()V" = some ⟨[], none⟩ := by decide +kernel
theorem pn3 : plainName "com/example/tieline/tieline/wavelet/Registration$ShiftPrior" = true := by first | (simp [plainName, overriddenIn]; done) | decide +kernel
theorem ef4_rm4 (m : MethodId) (x0 : Addr) (x1 : UInt64) (x2 : UInt64) : entryFrame m #[(.ref x0), (.double x1), (.double x2)] 5 = mkF m 0 #[.val (.ref x0), .val (.double x1), .second, .val (.double x2), .second] [] := by first | (simp [entryFrame, mkF, argsToLocals, Value.category]; done) | rfl
def Q4 (Z : State) (a : Addr) (mu : UInt64) (sd : UInt64) (h0 : Heap) (n0 : Nat) (v : Option Value) (h : Heap) (L : List Loc) : Prop := v = none ∧ Fr n0 L ∧ Keep h0 h [a] ∧ Exa Z h a "com/example/tieline/tieline/wavelet/Registration$ShiftPrior" ∧ (Fld Z h a "com/example/tieline/tieline/wavelet/Registration$ShiftPrior" "meanMs" "D" (.double mu)) ∧ (Fld Z h a "com/example/tieline/tieline/wavelet/Registration$ShiftPrior" "sdMs" "D" (.double sd))
set_option maxRecDepth 65536 in
set_option maxHeartbeats 40000000 in
theorem rm4 (l : Launch) (Z : State) (a0 : Array Value) (hw : ∀ d ∈ tables_1, d.before a0 Z = true) (ws : List Jvm.Cond) (a : Addr) (mu : UInt64) (sd : UInt64) (h0 : Heap) (n0 : Nat) (Z0 : n0 ≤ h0.size) (ga : n0 ≤ a) (Ea : Exa Z h0 a "com/example/tieline/tieline/wavelet/Registration$ShiftPrior") (F0 : Fld Z h0 a "com/example/tieline/tieline/wavelet/Registration$ShiftPrior" "meanMs" "D" (.double 0)) (F1 : Fld Z h0 a "com/example/tieline/tieline/wavelet/Registration$ShiftPrior" "sdMs" "D" (.double 0)) :
    MetFree l (⟨"com/example/tieline/tieline/wavelet/Registration$ShiftPrior", "<init>", "(DD)V"⟩ : MethodName) (head1 (Jvm.Cond.code (⟨"com/example/tieline/tieline/wavelet/Registration$ShiftPrior", "<init>", "(DD)V"⟩ : MethodName) prog_41_method_1_code 5 none :: ws) ({ frames := 2, cells := 0, slots := 0, locals := 24 } : Room)) (fun aa UU => aa = #[(.ref a), (.double mu), (.double sd)] ∧ Z.Warmed39 UU.vm ∧ UU.heap = h0) (fun _ _ _ _ _ => True) (fun _ UU oo UU' => ∃ vv LL, oo = .returned vv ∧ Q4 Z a mu sd h0 n0 vv UU'.heap LL ∧ FrameEnd UU oo UU' LL ({ frames := 2, cells := 0, slots := 0, locals := 24 } : Room).cells ({ frames := 2, cells := 0, slots := 0, locals := 24 } : Room).slots) := by
  refine MetFree.of_bodySF (plainFor_of_name pn3) hisR ?_
  intro p e s m args below meth c s₁ Bd hml0 hP hK
  obtain ⟨rfl, hZ, hh⟩ := hP
  have hx := Bd.exec
  have hby := Bd.bytes
  have hlk : meth.locks = false := BodyLoose.notSynchronized Bd
  have hret := Bd.returns
  have hml : c.maxLocals = 5 := hml0
  have hown : s.vm.findClass "com/example/tieline/tieline/wavelet/Registration$ShiftPrior" = some m.cls := findClass_of_methodNamed Bd.named
  have hnm := (name_of_methodNamed Bd.named Bd.method).1
  have X0 : Stand p l e ({ frames := 2, cells := 0, slots := 0, locals := 24 } : Room) s m #[(.ref a), (.double mu), (.double sd)] below meth c s₁ [] 0 0 := Stand.of_body Bd
  have e0 : s₁.heap = h0 := by rw [← hh, Bd.state]; rfl
  have N0 := Fr.nil n0
  show Dn p e below s (Q4 Z a mu sd h0 n0) ({ frames := 2, cells := 0, slots := 0, locals := 24 } : Room).cells ({ frames := 2, cells := 0, slots := 0, locals := 24 } : Room).slots (s₁.setTop (entryFrame m #[(.ref a), (.double mu), (.double sd)] 5))
  refine Dn.st (fun _ kk => castTop (ef4_rm4 m a mu sd) kk) ?_
  show Dn p e below s _ _ _ (s₁.setTop (mkF m 0 #[.val (.ref a), .val (.double mu), .second, .val (.double sd), .second] []))
  refine Dn.st (fun _ kk => XS.aloadN X0.here hx rfl (hb hby d4_0) rfl rfl (kk)) ?_
  show Dn p e below s _ _ _ (s₁.setTop (mkF m 1 #[.val (.ref a), .val (.double mu), .second, .val (.double sd), .second] [(.ref a)]))
  obtain ⟨_, _, ⟨T1, L1, k1, n1⟩, -, X1, ⟨Lc1, hQ1, l1, y1, z1⟩, st1⟩ := X0.specialBack hx (y := (⟨"java/lang/Record", "<init>", "()V"⟩ : MethodName)) rfl hown (mvT hZ (hw _ (List.mem_of_getElem? (i := 34) rfl))) (mvT hZ (hw _ (List.mem_of_getElem? (i := 35) rfl))) (mvT hZ (hw _ (List.mem_of_getElem? (i := 38) rfl))) (by decide) (backOf (W := 0) (rm5 l Z a0 hw [] a  h0 n0 Z0 ) hZ (hw _ (List.mem_of_getElem? (i := 38) rfl)) (hw _ (List.mem_of_getElem? (i := 37) rfl)) (by decide) (by decide)) (g := (mkF m 1 #[.val (.ref a), .val (.double mu), .second, .val (.double sd), .second] [(.ref a)])) rfl (by rw [hml]; rfl) (Steps.refl _) (a := a) (argsL := []) (rest := []) (lenOf pd0 rfl) rfl (by show 2 * 0 + _ ≤ _; exact Nat.le_of_eq rfl) (hb hby d4_1) (fun _ _ => ⟨rfl, e0, (by decide : 0 + 0 ≤ _), (by decide : 0 + 0 ≤ _)⟩)
  dsimp only [Pt.U, Pt.locs, Pt.cells, Pt.slots] at X1 l1 y1 z1 st1 hQ1
  subst l1 y1 z1
  obtain ⟨rfl, Nq1, hh1⟩ := hQ1
  have N1 := Fr.app N0 Nq1
  refine Dn.tr st1 ?_
  show Dn p e below s _ _ _ (T1.setTop (mkF m 4 #[.val (.ref a), .val (.double mu), .second, .val (.double sd), .second] []))
  refine Dn.st (fun _ kk => XS.aloadN X1.here hx rfl (hb hby d4_4) rfl rfl (XS.dloadN X1.here hx rfl (hb hby d4_5) rfl  (kk))) ?_
  show Dn p e below s _ _ _ (T1.setTop (mkF m 6 #[.val (.ref a), .val (.double mu), .second, .val (.double sd), .second] [(.double mu), (.ref a)]))
  obtain ⟨T6, h6, X6, e6, W6, st6⟩ := putF X1 hx hZ hown (host := "") (Or.inl (hw _ (List.mem_of_getElem? (i := 42) rfl))) Via.refl hh1 F0 Ea (Or.inr ⟨(hw _ (List.mem_of_getElem? (i := 43) rfl)), rfl, hnm⟩) (hw _ (List.mem_of_getElem? (i := 29) rfl)) (ty := .double) (by decide) rfl rfl (g := (mkF m 6 #[.val (.ref a), .val (.double mu), .second, .val (.double sd), .second] [(.double mu), (.ref a)])) rfl rfl (hb hby d4_6)
  have E_a_6 := Ea.wr W6
  have F_a_sdMs_6 := F1.other W6 (Or.inr (slot_ne (Or.inr (hw _ (List.mem_of_getElem? (i := 45) rfl))) (Or.inr (hw _ (List.mem_of_getElem? (i := 43) rfl))) (by decide) (t := .double) (t' := .double) (by decide) (by decide)))
  have F_a_meanMs_6 := F0.same W6
  have K6 := (Keep.refl h0 [a]).wr W6 (Or.inl (List.mem_of_getElem? (i := 0) rfl))
  have N6 := Fr.snoc X6 N1 ga
  have Z6 : n0 ≤ h6.size := Nat.le_trans Z0 (Keep.of_wr W6).1
  refine Dn.st st6 ?_
  show Dn p e below s _ _ _ (T6.setTop (mkF m 9 #[.val (.ref a), .val (.double mu), .second, .val (.double sd), .second] []))
  refine Dn.st (fun _ kk => XS.aloadN X6.here hx rfl (hb hby d4_9) rfl rfl (XS.dloadN X6.here hx rfl (hb hby d4_10) rfl  (kk))) ?_
  show Dn p e below s _ _ _ (T6.setTop (mkF m 11 #[.val (.ref a), .val (.double mu), .second, .val (.double sd), .second] [(.double sd), (.ref a)]))
  obtain ⟨T11, h11, X11, e11, W11, st11⟩ := putF X6 hx hZ hown (host := "") (Or.inl (hw _ (List.mem_of_getElem? (i := 44) rfl))) Via.refl e6 F_a_sdMs_6 E_a_6 (Or.inr ⟨(hw _ (List.mem_of_getElem? (i := 45) rfl)), rfl, hnm⟩) (hw _ (List.mem_of_getElem? (i := 29) rfl)) (ty := .double) (by decide) rfl rfl (g := (mkF m 11 #[.val (.ref a), .val (.double mu), .second, .val (.double sd), .second] [(.double sd), (.ref a)])) rfl rfl (hb hby d4_11)
  have E_a_11 := E_a_6.wr W11
  have F_a_meanMs_11 := F_a_meanMs_6.other W11 (Or.inr (slot_ne (Or.inr (hw _ (List.mem_of_getElem? (i := 43) rfl))) (Or.inr (hw _ (List.mem_of_getElem? (i := 45) rfl))) (by decide) (t := .double) (t' := .double) (by decide) (by decide)))
  have F_a_sdMs_11 := F_a_sdMs_6.same W11
  have K11 := K6.wr W11 (Or.inl (List.mem_of_getElem? (i := 0) rfl))
  have N11 := Fr.snoc X11 N6 ga
  have Z11 : n0 ≤ h11.size := Nat.le_trans Z6 (Keep.of_wr W11).1
  refine Dn.st st11 ?_
  show Dn p e below s _ _ _ (T11.setTop (mkF m 14 #[.val (.ref a), .val (.double mu), .second, .val (.double sd), .second] []))
  exact Dn.ret0 X11 hlk hx hret (hb hby d4_14) (by rw [e11]; exact ⟨rfl, N11, K11, E_a_11, F_a_meanMs_11, F_a_sdMs_11⟩) (by decide) (by decide)

theorem d8_0 : decode jdk_31_method_10_code 0 = .ok (.aload_n 0, 1) := by decide +kernel
theorem d8_1 : decode jdk_31_method_10_code 1 = .ok (.ifnonnull 11, 3) := by decide +kernel
theorem d8_12 : decode jdk_31_method_10_code 12 = .ok (.aload_n 0, 1) := by decide +kernel
theorem d8_13 : decode jdk_31_method_10_code 13 = .ok (.areturn, 1) := by decide +kernel
theorem pn4 : plainName "java/util/Objects" = true := by first | (simp [plainName, overriddenIn]; done) | decide +kernel
theorem ef8_rm8 (m : MethodId) (x0 : Addr) : entryFrame m #[(.ref x0)] 1 = mkF m 0 #[.val (.ref x0)] [] := by first | (simp [entryFrame, mkF, argsToLocals, Value.category]; done) | rfl
def Q8 (Z : State) (x1 : Addr) (h0 : Heap) (n0 : Nat) (v : Option Value) (h : Heap) (L : List Loc) : Prop := v = some (.ref x1) ∧ Fr n0 L ∧ h = h0
set_option maxRecDepth 65536 in
set_option maxHeartbeats 40000000 in
theorem rm8 (l : Launch) (Z : State) (a0 : Array Value) (hw : ∀ d ∈ tables_1, d.before a0 Z = true) (ws : List Jvm.Cond) (x1 : Addr) (h0 : Heap) (n0 : Nat) (Z0 : n0 ≤ h0.size) :
    MetFree l (⟨"java/util/Objects", "requireNonNull", "(Ljava/lang/Object;)Ljava/lang/Object;"⟩ : MethodName) (head1 (Jvm.Cond.code (⟨"java/util/Objects", "requireNonNull", "(Ljava/lang/Object;)Ljava/lang/Object;"⟩ : MethodName) jdk_31_method_10_code 1 (some (.object "java/lang/Object")) :: ws) ({ frames := 0, cells := 0, slots := 0, locals := 0 } : Room)) (fun aa UU => aa = #[(.ref x1)] ∧ Z.Warmed39 UU.vm ∧ UU.heap = h0) (fun _ _ _ _ _ => True) (fun _ UU oo UU' => ∃ vv LL, oo = .returned vv ∧ Q8 Z x1 h0 n0 vv UU'.heap LL ∧ FrameEnd UU oo UU' LL ({ frames := 0, cells := 0, slots := 0, locals := 0 } : Room).cells ({ frames := 0, cells := 0, slots := 0, locals := 0 } : Room).slots) := by
  refine MetFree.of_bodySF (plainFor_of_name pn4) hisR ?_
  intro p e s m args below meth c s₁ Bd hml0 hP hK
  obtain ⟨rfl, hZ, hh⟩ := hP
  have hx := Bd.exec
  have hby := Bd.bytes
  have hlk : meth.locks = false := BodyLoose.notSynchronized Bd
  have hret := Bd.returns
  have hml : c.maxLocals = 1 := hml0
  have hown : s.vm.findClass "java/util/Objects" = some m.cls := findClass_of_methodNamed Bd.named
  have hnm := (name_of_methodNamed Bd.named Bd.method).1
  have X0 : Stand p l e ({ frames := 0, cells := 0, slots := 0, locals := 0 } : Room) s m #[(.ref x1)] below meth c s₁ [] 0 0 := Stand.of_body Bd
  have e0 : s₁.heap = h0 := by rw [← hh, Bd.state]; rfl
  have N0 := Fr.nil n0
  show Dn p e below s (Q8 Z x1 h0 n0) ({ frames := 0, cells := 0, slots := 0, locals := 0 } : Room).cells ({ frames := 0, cells := 0, slots := 0, locals := 0 } : Room).slots (s₁.setTop (entryFrame m #[(.ref x1)] 1))
  refine Dn.st (fun _ kk => castTop (ef8_rm8 m x1) kk) ?_
  show Dn p e below s _ _ _ (s₁.setTop (mkF m 0 #[.val (.ref x1)] []))
  refine Dn.st (fun _ kk => XS.aloadN X0.here hx rfl (hb hby d8_0) rfl rfl (XS.ifnonnullYes X0.here hx rfl (pc0 := 1) (pc' := 12) rfl (hb hby d8_1) rfl (by decide) (by decide) (XS.aloadN X0.here hx rfl (hb hby d8_12) rfl rfl (kk)))) ?_
  show Dn p e below s _ _ _ (s₁.setTop (mkF m 13 #[.val (.ref x1)] [(.ref x1)]))
  exact Dn.ret X0 hlk hx hret rfl (Or.inr (Or.inr (Or.inr (Or.inr ⟨rfl, rfl, rfl⟩)))) (hb hby d8_13) (by rw [e0]; exact ⟨rfl, N0, rfl⟩) (by decide) (by decide)

theorem d9_0 : decode jdk_32_method_2_code 0 = .ok (.aload_n 0, 1) := by decide +kernel
theorem d9_1 : decode jdk_32_method_2_code 1 = .ok (.invokespecial 7, 3) := by decide +kernel
theorem d9_4 : decode jdk_32_method_2_code 4 = .ok (.aload_n 0, 1) := by decide +kernel
theorem d9_5 : decode jdk_32_method_2_code 5 = .ok (.aload_n 1, 1) := by decide +kernel
theorem d9_6 : decode jdk_32_method_2_code 6 = .ok (.putfield 13, 3) := by decide +kernel
theorem d9_9 : decode jdk_32_method_2_code 9 = .ok (.return_, 1) := by decide +kernel
theorem ef9_rm9 (m : MethodId) (x0 : Addr) (x1 : Addr) : entryFrame m #[(.ref x0), (.ref x1)] 2 = mkF m 0 #[.val (.ref x0), .val (.ref x1)] [] := by first | (simp [entryFrame, mkF, argsToLocals, Value.category]; done) | rfl
def Q9 (Z : State) (a : Addr) (x1 : Addr) (h0 : Heap) (n0 : Nat) (v : Option Value) (h : Heap) (L : List Loc) : Prop := v = none ∧ Fr n0 L ∧ Keep h0 h [a] ∧ Exa Z h a "java/util/Optional" ∧ (Fld Z h a "java/util/Optional" "value" "Ljava/lang/Object;" (.ref x1))
set_option maxRecDepth 65536 in
set_option maxHeartbeats 40000000 in
theorem rm9 (l : Launch) (Z : State) (a0 : Array Value) (hw : ∀ d ∈ tables_1, d.before a0 Z = true) (ws : List Jvm.Cond) (a : Addr) (x1 : Addr) (h0 : Heap) (n0 : Nat) (Z0 : n0 ≤ h0.size) (ga : n0 ≤ a) (Ea : Exa Z h0 a "java/util/Optional") (F0 : Fld Z h0 a "java/util/Optional" "value" "Ljava/lang/Object;" .null) :
    MetFree l (⟨"java/util/Optional", "<init>", "(Ljava/lang/Object;)V"⟩ : MethodName) (head1 (Jvm.Cond.code (⟨"java/util/Optional", "<init>", "(Ljava/lang/Object;)V"⟩ : MethodName) jdk_32_method_2_code 2 none :: ws) ({ frames := 1, cells := 0, slots := 0, locals := 12 } : Room)) (fun aa UU => aa = #[(.ref a), (.ref x1)] ∧ Z.Warmed39 UU.vm ∧ UU.heap = h0) (fun _ _ _ _ _ => True) (fun _ UU oo UU' => ∃ vv LL, oo = .returned vv ∧ Q9 Z a x1 h0 n0 vv UU'.heap LL ∧ FrameEnd UU oo UU' LL ({ frames := 1, cells := 0, slots := 0, locals := 12 } : Room).cells ({ frames := 1, cells := 0, slots := 0, locals := 12 } : Room).slots) := by
  refine MetFree.of_bodySF (plainFor_of_name pn1) hisR ?_
  intro p e s m args below meth c s₁ Bd hml0 hP hK
  obtain ⟨rfl, hZ, hh⟩ := hP
  have hx := Bd.exec
  have hby := Bd.bytes
  have hlk : meth.locks = false := BodyLoose.notSynchronized Bd
  have hret := Bd.returns
  have hml : c.maxLocals = 2 := hml0
  have hown : s.vm.findClass "java/util/Optional" = some m.cls := findClass_of_methodNamed Bd.named
  have hnm := (name_of_methodNamed Bd.named Bd.method).1
  have X0 : Stand p l e ({ frames := 1, cells := 0, slots := 0, locals := 12 } : Room) s m #[(.ref a), (.ref x1)] below meth c s₁ [] 0 0 := Stand.of_body Bd
  have e0 : s₁.heap = h0 := by rw [← hh, Bd.state]; rfl
  have N0 := Fr.nil n0
  show Dn p e below s (Q9 Z a x1 h0 n0) ({ frames := 1, cells := 0, slots := 0, locals := 12 } : Room).cells ({ frames := 1, cells := 0, slots := 0, locals := 12 } : Room).slots (s₁.setTop (entryFrame m #[(.ref a), (.ref x1)] 2))
  refine Dn.st (fun _ kk => castTop (ef9_rm9 m a x1) kk) ?_
  show Dn p e below s _ _ _ (s₁.setTop (mkF m 0 #[.val (.ref a), .val (.ref x1)] []))
  refine Dn.st (fun _ kk => XS.aloadN X0.here hx rfl (hb hby d9_0) rfl rfl (kk)) ?_
  show Dn p e below s _ _ _ (s₁.setTop (mkF m 1 #[.val (.ref a), .val (.ref x1)] [(.ref a)]))
  obtain ⟨T1, X1, e1, st1⟩ := initO X0 hx hZ hown (hw _ (List.mem_of_getElem? (i := 59) rfl)) (hw _ (List.mem_of_getElem? (i := 40) rfl)) (hw _ (List.mem_of_getElem? (i := 41) rfl)) e0 (g := (mkF m 1 #[.val (.ref a), .val (.ref x1)] [(.ref a)])) rfl (by rw [hml]; rfl) rfl (hb hby d9_1) (by decide) (W := 0) (by show 2 * 0 + _ ≤ _; exact Nat.le_of_eq rfl) (by decide)
  refine Dn.st st1 ?_
  show Dn p e below s _ _ _ (T1.setTop (mkF m 4 #[.val (.ref a), .val (.ref x1)] []))
  refine Dn.st (fun _ kk => XS.aloadN X1.here hx rfl (hb hby d9_4) rfl rfl (XS.aloadN X1.here hx rfl (hb hby d9_5) rfl rfl (kk))) ?_
  show Dn p e below s _ _ _ (T1.setTop (mkF m 6 #[.val (.ref a), .val (.ref x1)] [(.ref x1), (.ref a)]))
  obtain ⟨T6, h6, X6, e6, W6, st6⟩ := putF X1 hx hZ hown (host := "") (Or.inl (hw _ (List.mem_of_getElem? (i := 60) rfl))) Via.refl e1 F0 Ea (Or.inr ⟨(hw _ (List.mem_of_getElem? (i := 61) rfl)), rfl, hnm⟩) (hw _ (List.mem_of_getElem? (i := 50) rfl)) (ty := (.object "java/lang/Object")) (by decide) rfl rfl (g := (mkF m 6 #[.val (.ref a), .val (.ref x1)] [(.ref x1), (.ref a)])) rfl rfl (hb hby d9_6)
  have E_a_6 := Ea.wr W6
  have F_a_value_6 := F0.same W6
  have K6 := (Keep.refl h0 [a]).wr W6 (Or.inl (List.mem_of_getElem? (i := 0) rfl))
  have N6 := Fr.snoc X6 N0 ga
  have Z6 : n0 ≤ h6.size := Nat.le_trans Z0 (Keep.of_wr W6).1
  refine Dn.st st6 ?_
  show Dn p e below s _ _ _ (T6.setTop (mkF m 9 #[.val (.ref a), .val (.ref x1)] []))
  exact Dn.ret0 X6 hlk hx hret (hb hby d9_9) (by rw [e6]; exact ⟨rfl, N6, K6, E_a_6, F_a_value_6⟩) (by decide) (by decide)

theorem d7_0 : decode jdk_32_method_3_code 0 = .ok (.new 2, 3) := by decide +kernel
theorem d7_3 : decode jdk_32_method_3_code 3 = .ok (.dup, 1) := by decide +kernel
theorem d7_4 : decode jdk_32_method_3_code 4 = .ok (.aload_n 0, 1) := by decide +kernel
theorem d7_5 : decode jdk_32_method_3_code 5 = .ok (.invokestatic 17, 3) := by decide +kernel
theorem d7_8 : decode jdk_32_method_3_code 8 = .ok (.invokespecial 23, 3) := by decide +kernel
theorem d7_11 : decode jdk_32_method_3_code 11 = .ok (.areturn, 1) := by decide +kernel
theorem pd1 : parseMethodDescriptor "(Ljava/lang/Object;)Ljava/lang/Object;" = some ⟨[(.object "java/lang/Object")], some (.object "java/lang/Object")⟩ := by decide +kernel
theorem pd2 : parseMethodDescriptor "(Ljava/lang/Object;)V" = some ⟨[(.object "java/lang/Object")], none⟩ := by decide +kernel
theorem ef7_rm7 (m : MethodId) (x0 : Addr) : entryFrame m #[(.ref x0)] 1 = mkF m 0 #[.val (.ref x0)] [] := by first | (simp [entryFrame, mkF, argsToLocals, Value.category]; done) | rfl
def Q7 (Z : State) (x1 : Addr) (h0 : Heap) (n0 : Nat) (v : Option Value) (h : Heap) (L : List Loc) : Prop := ∃ b, v = some (.ref b) ∧ h0.size ≤ b ∧ Fr n0 L ∧ Keep h0 h [] ∧ Exa Z h b "java/util/Optional" ∧ Fld Z h b "java/util/Optional" "value" "Ljava/lang/Object;" (.ref x1)
set_option maxRecDepth 65536 in
set_option maxHeartbeats 40000000 in
theorem rm7 (l : Launch) (Z : State) (a0 : Array Value) (hw : ∀ d ∈ tables_1, d.before a0 Z = true) (ws : List Jvm.Cond) (x1 : Addr) (h0 : Heap) (n0 : Nat) (Z0 : n0 ≤ h0.size) :
    MetFree l (⟨"java/util/Optional", "of", "(Ljava/lang/Object;)Ljava/util/Optional;"⟩ : MethodName) (head1 (Jvm.Cond.code (⟨"java/util/Optional", "of", "(Ljava/lang/Object;)Ljava/util/Optional;"⟩ : MethodName) jdk_32_method_3_code 1 (some (.object "java/util/Optional")) :: ws) ({ frames := 2, cells := 1, slots := 1, locals := 26 } : Room)) (fun aa UU => aa = #[(.ref x1)] ∧ Z.Warmed39 UU.vm ∧ UU.heap = h0) (fun _ _ _ _ _ => True) (fun _ UU oo UU' => ∃ vv LL, oo = .returned vv ∧ Q7 Z x1 h0 n0 vv UU'.heap LL ∧ FrameEnd UU oo UU' LL ({ frames := 2, cells := 1, slots := 1, locals := 26 } : Room).cells ({ frames := 2, cells := 1, slots := 1, locals := 26 } : Room).slots) := by
  refine MetFree.of_bodySF (plainFor_of_name pn1) hisR ?_
  intro p e s m args below meth c s₁ Bd hml0 hP hK
  obtain ⟨rfl, hZ, hh⟩ := hP
  have hx := Bd.exec
  have hby := Bd.bytes
  have hlk : meth.locks = false := BodyLoose.notSynchronized Bd
  have hret := Bd.returns
  have hml : c.maxLocals = 1 := hml0
  have hown : s.vm.findClass "java/util/Optional" = some m.cls := findClass_of_methodNamed Bd.named
  have hnm := (name_of_methodNamed Bd.named Bd.method).1
  have X0 : Stand p l e ({ frames := 2, cells := 1, slots := 1, locals := 26 } : Room) s m #[(.ref x1)] below meth c s₁ [] 0 0 := Stand.of_body Bd
  have e0 : s₁.heap = h0 := by rw [← hh, Bd.state]; rfl
  have N0 := Fr.nil n0
  show Dn p e below s (Q7 Z x1 h0 n0) ({ frames := 2, cells := 1, slots := 1, locals := 26 } : Room).cells ({ frames := 2, cells := 1, slots := 1, locals := 26 } : Room).slots (s₁.setTop (entryFrame m #[(.ref x1)] 1))
  refine Dn.st (fun _ kk => castTop (ef7_rm7 m x1) kk) ?_
  show Dn p e below s _ _ _ (s₁.setTop (mkF m 0 #[.val (.ref x1)] []))
  obtain ⟨T0z, h0z, X0z, e0z, E0z, A0z, D0z, -, st0z⟩ := newO X0 hx hZ hown (hw _ (List.mem_of_getElem? (i := 49) rfl)) (hw _ (List.mem_of_getElem? (i := 50) rfl)) (hw _ (List.mem_of_getElem? (i := 25) rfl)) e0 (g := (mkF m 0 #[.val (.ref x1)] [])) rfl (hb hby d7_0) (by decide) (by decide)
  obtain ⟨b0z, g0z⟩ : ∃ z, z = h0.size := ⟨_, rfl⟩
  rw [← g0z] at A0z D0z st0z
  have gz_b0z : h0.size ≤ b0z := Nat.le_trans (Keep.refl h0 []).1 (Nat.le_of_eq g0z.symm)
  have K0z := (Keep.refl h0 []).ext E0z
  have gn_b0z : n0 ≤ b0z := Nat.le_trans Z0 (Nat.le_of_eq g0z.symm)
  have Z0z : n0 ≤ h0z.size := Nat.le_trans Z0 E0z.1
  have F_b0z_value : Fld Z h0z b0z "java/util/Optional" "value" "Ljava/lang/Object;" .null := D0z (Or.inr (hw _ (List.mem_of_getElem? (i := 61) rfl))) (ty := (.object "java/lang/Object")) (by decide)
  refine Dn.st st0z ?_
  show Dn p e below s _ _ _ (T0z.setTop (mkF m 3 #[.val (.ref x1)] [(.ref b0z)]))
  refine Dn.st (fun _ kk => XS.dup X0z.here hx rfl (hb hby d7_3) rfl rfl (XS.aloadN X0z.here hx rfl (hb hby d7_4) rfl rfl (kk))) ?_
  show Dn p e below s _ _ _ (T0z.setTop (mkF m 5 #[.val (.ref x1)] [(.ref x1), (.ref b0z), (.ref b0z)]))
  obtain ⟨_, _, ⟨T5, L5, k5, n5⟩, -, X5, ⟨Lc5, hQ5, l5, y5, z5⟩, st5⟩ := Jvm.LawKit.callS X0z hx (y := (⟨"java/util/Objects", "requireNonNull", "(Ljava/lang/Object;)Ljava/lang/Object;"⟩ : MethodName)) hown (mvT hZ (hw _ (List.mem_of_getElem? (i := 51) rfl))) (mvT hZ (hw _ (List.mem_of_getElem? (i := 52) rfl))) (mvT hZ (hw _ (List.mem_of_getElem? (i := 53) rfl))) (mvT hZ (hw _ (List.mem_of_getElem? (i := 54) rfl))) (by decide) (backOf (W := 2) (rm8 l Z a0 hw [] x1  h0z n0 Z0z ) hZ (hw _ (List.mem_of_getElem? (i := 54) rfl)) (hw _ (List.mem_of_getElem? (i := 53) rfl)) (by decide) (by decide)) (g := (mkF m 5 #[.val (.ref x1)] [(.ref x1), (.ref b0z), (.ref b0z)])) rfl (by rw [hml]; rfl) (argsL := [(.ref x1)]) (rest := [(.ref b0z), (.ref b0z)]) (lenOf pd1 rfl) rfl (by show 2 * 0 + _ ≤ _; exact Nat.le_of_eq rfl) (hb hby d7_5) (fun _ _ => ⟨rfl, e0z, (by decide : 1 + 0 ≤ _), (by decide : 1 + 0 ≤ _)⟩)
  dsimp only [Pt.U, Pt.locs, Pt.cells, Pt.slots] at X5 l5 y5 z5 st5 hQ5
  subst l5 y5 z5
  obtain ⟨rfl, Nq5, hh5⟩ := hQ5
  have N5 := Fr.app N0 Nq5
  refine Dn.st st5 ?_
  show Dn p e below s _ _ _ (T5.setTop (mkF m 8 #[.val (.ref x1)] [(.ref x1), (.ref b0z), (.ref b0z)]))
  obtain ⟨_, _, ⟨T8, L8, k8, n8⟩, -, X8, ⟨Lc8, hQ8, l8, y8, z8⟩, st8⟩ := X5.specialBack hx (y := (⟨"java/util/Optional", "<init>", "(Ljava/lang/Object;)V"⟩ : MethodName)) rfl hown (mvT hZ (hw _ (List.mem_of_getElem? (i := 55) rfl))) (mvT hZ (hw _ (List.mem_of_getElem? (i := 56) rfl))) (mvT hZ (hw _ (List.mem_of_getElem? (i := 58) rfl))) (by decide) (backOf (W := 1) (rm9 l Z a0 hw [] b0z x1  h0z n0 Z0z gn_b0z A0z F_b0z_value ) hZ (hw _ (List.mem_of_getElem? (i := 58) rfl)) (hw _ (List.mem_of_getElem? (i := 25) rfl)) (by decide) (by decide)) (g := (mkF m 8 #[.val (.ref x1)] [(.ref x1), (.ref b0z), (.ref b0z)])) rfl (by rw [hml]; rfl) (Steps.refl _) (a := b0z) (argsL := [(.ref x1)]) (rest := [(.ref b0z)]) (lenOf pd2 rfl) rfl (by show 2 * 0 + _ ≤ _; exact Nat.le_of_eq rfl) (hb hby d7_8) (fun _ _ => ⟨rfl, hh5, (by decide : 1 + 0 ≤ _), (by decide : 1 + 0 ≤ _)⟩)
  dsimp only [Pt.U, Pt.locs, Pt.cells, Pt.slots] at X8 l8 y8 z8 st8 hQ8
  subst l8 y8 z8
  obtain ⟨rfl, Nq8, K8, E_b0z_8, F_b0z_value_8⟩ := hQ8
  have N8 := Fr.app N5 Nq8
  refine Dn.tr st8 ?_
  have Z8 : n0 ≤ T8.heap.size := Nat.le_trans Z0z K8.1
  have KK8 := K0z.trans K8 (allS (Or.inr gz_b0z) all0)
  show Dn p e below s _ _ _ (T8.setTop (mkF m 11 #[.val (.ref x1)] [(.ref b0z)]))
  exact Dn.ret X8 hlk hx hret rfl (Or.inr (Or.inr (Or.inr (Or.inr ⟨rfl, rfl, rfl⟩)))) (hb hby d7_11) ⟨b0z, rfl, gz_b0z, N8, KK8, E_b0z_8, F_b0z_value_8⟩ (by decide) (by decide)

theorem d11_0 : decode jdk_32_method_7_code 0 = .ok (.aload_n 0, 1) := by decide +kernel
theorem d11_1 : decode jdk_32_method_7_code 1 = .ok (.getfield 13, 3) := by decide +kernel
theorem d11_4 : decode jdk_32_method_7_code 4 = .ok (.ifnonnull 7, 3) := by decide +kernel
theorem d11_11 : decode jdk_32_method_7_code 11 = .ok (.iconst 0, 1) := by decide +kernel
theorem d11_12 : decode jdk_32_method_7_code 12 = .ok (.ireturn, 1) := by decide +kernel
theorem ef11_rm11 (m : MethodId) (x0 : Addr) : entryFrame m #[(.ref x0)] 1 = mkF m 0 #[.val (.ref x0)] [] := by first | (simp [entryFrame, mkF, argsToLocals, Value.category]; done) | rfl
def Q11 (Z : State) (a : Addr) (x1 : Addr) (h0 : Heap) (n0 : Nat) (v : Option Value) (h : Heap) (L : List Loc) : Prop := v = some (.int 0) ∧ Fr n0 L ∧ h = h0
set_option maxRecDepth 65536 in
set_option maxHeartbeats 40000000 in
theorem rm11 (l : Launch) (Z : State) (a0 : Array Value) (hw : ∀ d ∈ tables_1, d.before a0 Z = true) (ws : List Jvm.Cond) (a : Addr) (x1 : Addr) (h0 : Heap) (n0 : Nat) (Z0 : n0 ≤ h0.size) (F0 : Fld Z h0 a "java/util/Optional" "value" "Ljava/lang/Object;" (.ref x1)) :
    MetFree l (⟨"java/util/Optional", "isEmpty", "()Z"⟩ : MethodName) (head1 (Jvm.Cond.code (⟨"java/util/Optional", "isEmpty", "()Z"⟩ : MethodName) jdk_32_method_7_code 1 (some .boolean) :: ws) ({ frames := 0, cells := 0, slots := 0, locals := 0 } : Room)) (fun aa UU => aa = #[(.ref a)] ∧ Z.Warmed39 UU.vm ∧ UU.heap = h0) (fun _ _ _ _ _ => True) (fun _ UU oo UU' => ∃ vv LL, oo = .returned vv ∧ Q11 Z a x1 h0 n0 vv UU'.heap LL ∧ FrameEnd UU oo UU' LL ({ frames := 0, cells := 0, slots := 0, locals := 0 } : Room).cells ({ frames := 0, cells := 0, slots := 0, locals := 0 } : Room).slots) := by
  refine MetFree.of_bodySF (plainFor_of_name pn1) hisR ?_
  intro p e s m args below meth c s₁ Bd hml0 hP hK
  obtain ⟨rfl, hZ, hh⟩ := hP
  have hx := Bd.exec
  have hby := Bd.bytes
  have hlk : meth.locks = false := BodyLoose.notSynchronized Bd
  have hret := Bd.returns
  have hml : c.maxLocals = 1 := hml0
  have hown : s.vm.findClass "java/util/Optional" = some m.cls := findClass_of_methodNamed Bd.named
  have hnm := (name_of_methodNamed Bd.named Bd.method).1
  have X0 : Stand p l e ({ frames := 0, cells := 0, slots := 0, locals := 0 } : Room) s m #[(.ref a)] below meth c s₁ [] 0 0 := Stand.of_body Bd
  have e0 : s₁.heap = h0 := by rw [← hh, Bd.state]; rfl
  have N0 := Fr.nil n0
  show Dn p e below s (Q11 Z a x1 h0 n0) ({ frames := 0, cells := 0, slots := 0, locals := 0 } : Room).cells ({ frames := 0, cells := 0, slots := 0, locals := 0 } : Room).slots (s₁.setTop (entryFrame m #[(.ref a)] 1))
  refine Dn.st (fun _ kk => castTop (ef11_rm11 m a) kk) ?_
  show Dn p e below s _ _ _ (s₁.setTop (mkF m 0 #[.val (.ref a)] []))
  refine Dn.st (fun _ kk => XS.aloadN X0.here hx rfl (hb hby d11_0) rfl rfl (kk)) ?_
  show Dn p e below s _ _ _ (s₁.setTop (mkF m 1 #[.val (.ref a)] [(.ref a)]))
  obtain ⟨T1, X1, e1, st1⟩ := getF X0 hx hZ hown (host := "") (Or.inl (hw _ (List.mem_of_getElem? (i := 60) rfl))) Via.refl e0 F0 (g := (mkF m 1 #[.val (.ref a)] [(.ref a)])) rfl rfl (hb hby d11_1)
  refine Dn.st st1 ?_
  show Dn p e below s _ _ _ (T1.setTop (mkF m 4 #[.val (.ref a)] [(.ref x1)]))
  refine Dn.st (fun _ kk => XS.ifnonnullYes X1.here hx rfl (pc0 := 4) (pc' := 11) rfl (hb hby d11_4) rfl (by decide) (by decide) (XS.iconst X1.here hx rfl (hb hby d11_11) (kk))) ?_
  show Dn p e below s _ _ _ (T1.setTop (mkF m 12 #[.val (.ref a)] [(.int (0 : Int32))]))
  exact Dn.ret X1 hlk hx hret rfl (Or.inl ⟨rfl, Or.inr (Or.inl rfl), _, rfl⟩) (hb hby d11_12) (by rw [e1]; exact ⟨rfl, N0, rfl⟩) (by decide) (by decide)

theorem d12_0 : decode jdk_32_method_5_code 0 = .ok (.aload_n 0, 1) := by decide +kernel
theorem d12_1 : decode jdk_32_method_5_code 1 = .ok (.getfield 13, 3) := by decide +kernel
theorem d12_4 : decode jdk_32_method_5_code 4 = .ok (.ifnonnull 13, 3) := by decide +kernel
theorem d12_17 : decode jdk_32_method_5_code 17 = .ok (.aload_n 0, 1) := by decide +kernel
theorem d12_18 : decode jdk_32_method_5_code 18 = .ok (.getfield 13, 3) := by decide +kernel
theorem d12_21 : decode jdk_32_method_5_code 21 = .ok (.areturn, 1) := by decide +kernel
theorem ef12_rm12 (m : MethodId) (x0 : Addr) : entryFrame m #[(.ref x0)] 1 = mkF m 0 #[.val (.ref x0)] [] := by first | (simp [entryFrame, mkF, argsToLocals, Value.category]; done) | rfl
def Q12 (Z : State) (a : Addr) (x1 : Addr) (h0 : Heap) (n0 : Nat) (v : Option Value) (h : Heap) (L : List Loc) : Prop := v = some (.ref x1) ∧ Fr n0 L ∧ h = h0
set_option maxRecDepth 65536 in
set_option maxHeartbeats 40000000 in
theorem rm12 (l : Launch) (Z : State) (a0 : Array Value) (hw : ∀ d ∈ tables_1, d.before a0 Z = true) (ws : List Jvm.Cond) (a : Addr) (x1 : Addr) (h0 : Heap) (n0 : Nat) (Z0 : n0 ≤ h0.size) (F0 : Fld Z h0 a "java/util/Optional" "value" "Ljava/lang/Object;" (.ref x1)) :
    MetFree l (⟨"java/util/Optional", "get", "()Ljava/lang/Object;"⟩ : MethodName) (head1 (Jvm.Cond.code (⟨"java/util/Optional", "get", "()Ljava/lang/Object;"⟩ : MethodName) jdk_32_method_5_code 1 (some (.object "java/lang/Object")) :: ws) ({ frames := 0, cells := 0, slots := 0, locals := 0 } : Room)) (fun aa UU => aa = #[(.ref a)] ∧ Z.Warmed39 UU.vm ∧ UU.heap = h0) (fun _ _ _ _ _ => True) (fun _ UU oo UU' => ∃ vv LL, oo = .returned vv ∧ Q12 Z a x1 h0 n0 vv UU'.heap LL ∧ FrameEnd UU oo UU' LL ({ frames := 0, cells := 0, slots := 0, locals := 0 } : Room).cells ({ frames := 0, cells := 0, slots := 0, locals := 0 } : Room).slots) := by
  refine MetFree.of_bodySF (plainFor_of_name pn1) hisR ?_
  intro p e s m args below meth c s₁ Bd hml0 hP hK
  obtain ⟨rfl, hZ, hh⟩ := hP
  have hx := Bd.exec
  have hby := Bd.bytes
  have hlk : meth.locks = false := BodyLoose.notSynchronized Bd
  have hret := Bd.returns
  have hml : c.maxLocals = 1 := hml0
  have hown : s.vm.findClass "java/util/Optional" = some m.cls := findClass_of_methodNamed Bd.named
  have hnm := (name_of_methodNamed Bd.named Bd.method).1
  have X0 : Stand p l e ({ frames := 0, cells := 0, slots := 0, locals := 0 } : Room) s m #[(.ref a)] below meth c s₁ [] 0 0 := Stand.of_body Bd
  have e0 : s₁.heap = h0 := by rw [← hh, Bd.state]; rfl
  have N0 := Fr.nil n0
  show Dn p e below s (Q12 Z a x1 h0 n0) ({ frames := 0, cells := 0, slots := 0, locals := 0 } : Room).cells ({ frames := 0, cells := 0, slots := 0, locals := 0 } : Room).slots (s₁.setTop (entryFrame m #[(.ref a)] 1))
  refine Dn.st (fun _ kk => castTop (ef12_rm12 m a) kk) ?_
  show Dn p e below s _ _ _ (s₁.setTop (mkF m 0 #[.val (.ref a)] []))
  refine Dn.st (fun _ kk => XS.aloadN X0.here hx rfl (hb hby d12_0) rfl rfl (kk)) ?_
  show Dn p e below s _ _ _ (s₁.setTop (mkF m 1 #[.val (.ref a)] [(.ref a)]))
  obtain ⟨T1, X1, e1, st1⟩ := getF X0 hx hZ hown (host := "") (Or.inl (hw _ (List.mem_of_getElem? (i := 60) rfl))) Via.refl e0 F0 (g := (mkF m 1 #[.val (.ref a)] [(.ref a)])) rfl rfl (hb hby d12_1)
  refine Dn.st st1 ?_
  show Dn p e below s _ _ _ (T1.setTop (mkF m 4 #[.val (.ref a)] [(.ref x1)]))
  refine Dn.st (fun _ kk => XS.ifnonnullYes X1.here hx rfl (pc0 := 4) (pc' := 17) rfl (hb hby d12_4) rfl (by decide) (by decide) (XS.aloadN X1.here hx rfl (hb hby d12_17) rfl rfl (kk))) ?_
  show Dn p e below s _ _ _ (T1.setTop (mkF m 18 #[.val (.ref a)] [(.ref a)]))
  obtain ⟨T18, X18, e18, st18⟩ := getF X1 hx hZ hown (host := "") (Or.inl (hw _ (List.mem_of_getElem? (i := 60) rfl))) Via.refl e1 F0 (g := (mkF m 18 #[.val (.ref a)] [(.ref a)])) rfl rfl (hb hby d12_18)
  refine Dn.st st18 ?_
  show Dn p e below s _ _ _ (T18.setTop (mkF m 21 #[.val (.ref a)] [(.ref x1)]))
  exact Dn.ret X18 hlk hx hret rfl (Or.inr (Or.inr (Or.inr (Or.inr ⟨rfl, rfl, rfl⟩)))) (hb hby d12_21) (by rw [e18]; exact ⟨rfl, N0, rfl⟩) (by decide) (by decide)

theorem d13_0 : decode prog_41_method_5_code 0 = .ok (.aload_n 0, 1) := by decide +kernel
theorem d13_1 : decode prog_41_method_5_code 1 = .ok (.getfield 7, 3) := by decide +kernel
theorem d13_4 : decode prog_41_method_5_code 4 = .ok (.dreturn, 1) := by decide +kernel
theorem ef13_rm13 (m : MethodId) (x0 : Addr) : entryFrame m #[(.ref x0)] 1 = mkF m 0 #[.val (.ref x0)] [] := by first | (simp [entryFrame, mkF, argsToLocals, Value.category]; done) | rfl
def Q13 (Z : State) (a : Addr) (mu : UInt64) (h0 : Heap) (n0 : Nat) (v : Option Value) (h : Heap) (L : List Loc) : Prop := v = some (.double mu) ∧ Fr n0 L ∧ h = h0
set_option maxRecDepth 65536 in
set_option maxHeartbeats 40000000 in
theorem rm13 (l : Launch) (Z : State) (a0 : Array Value) (hw : ∀ d ∈ tables_1, d.before a0 Z = true) (ws : List Jvm.Cond) (a : Addr) (mu : UInt64) (h0 : Heap) (n0 : Nat) (Z0 : n0 ≤ h0.size) (F0 : Fld Z h0 a "com/example/tieline/tieline/wavelet/Registration$ShiftPrior" "meanMs" "D" (.double mu)) :
    MetFree l (⟨"com/example/tieline/tieline/wavelet/Registration$ShiftPrior", "meanMs", "()D"⟩ : MethodName) (head1 (Jvm.Cond.code (⟨"com/example/tieline/tieline/wavelet/Registration$ShiftPrior", "meanMs", "()D"⟩ : MethodName) prog_41_method_5_code 1 (some .double) :: ws) ({ frames := 0, cells := 0, slots := 0, locals := 0 } : Room)) (fun aa UU => aa = #[(.ref a)] ∧ Z.Warmed39 UU.vm ∧ UU.heap = h0) (fun _ _ _ _ _ => True) (fun _ UU oo UU' => ∃ vv LL, oo = .returned vv ∧ Q13 Z a mu h0 n0 vv UU'.heap LL ∧ FrameEnd UU oo UU' LL ({ frames := 0, cells := 0, slots := 0, locals := 0 } : Room).cells ({ frames := 0, cells := 0, slots := 0, locals := 0 } : Room).slots) := by
  refine MetFree.of_bodySF (plainFor_of_name pn3) hisR ?_
  intro p e s m args below meth c s₁ Bd hml0 hP hK
  obtain ⟨rfl, hZ, hh⟩ := hP
  have hx := Bd.exec
  have hby := Bd.bytes
  have hlk : meth.locks = false := BodyLoose.notSynchronized Bd
  have hret := Bd.returns
  have hml : c.maxLocals = 1 := hml0
  have hown : s.vm.findClass "com/example/tieline/tieline/wavelet/Registration$ShiftPrior" = some m.cls := findClass_of_methodNamed Bd.named
  have hnm := (name_of_methodNamed Bd.named Bd.method).1
  have X0 : Stand p l e ({ frames := 0, cells := 0, slots := 0, locals := 0 } : Room) s m #[(.ref a)] below meth c s₁ [] 0 0 := Stand.of_body Bd
  have e0 : s₁.heap = h0 := by rw [← hh, Bd.state]; rfl
  have N0 := Fr.nil n0
  show Dn p e below s (Q13 Z a mu h0 n0) ({ frames := 0, cells := 0, slots := 0, locals := 0 } : Room).cells ({ frames := 0, cells := 0, slots := 0, locals := 0 } : Room).slots (s₁.setTop (entryFrame m #[(.ref a)] 1))
  refine Dn.st (fun _ kk => castTop (ef13_rm13 m a) kk) ?_
  show Dn p e below s _ _ _ (s₁.setTop (mkF m 0 #[.val (.ref a)] []))
  refine Dn.st (fun _ kk => XS.aloadN X0.here hx rfl (hb hby d13_0) rfl rfl (kk)) ?_
  show Dn p e below s _ _ _ (s₁.setTop (mkF m 1 #[.val (.ref a)] [(.ref a)]))
  obtain ⟨T1, X1, e1, st1⟩ := getF X0 hx hZ hown (host := "") (Or.inl (hw _ (List.mem_of_getElem? (i := 42) rfl))) Via.refl e0 F0 (g := (mkF m 1 #[.val (.ref a)] [(.ref a)])) rfl rfl (hb hby d13_1)
  refine Dn.st st1 ?_
  show Dn p e below s _ _ _ (T1.setTop (mkF m 4 #[.val (.ref a)] [(.double mu)]))
  exact Dn.ret X1 hlk hx hret rfl (Or.inr (Or.inr (Or.inl ⟨rfl, rfl, _, rfl⟩))) (hb hby d13_4) (by rw [e1]; exact ⟨rfl, N0, rfl⟩) (by decide) (by decide)

theorem d16_0 : decode prog_41_method_6_code 0 = .ok (.aload_n 0, 1) := by decide +kernel
theorem d16_1 : decode prog_41_method_6_code 1 = .ok (.getfield 13, 3) := by decide +kernel
theorem d16_4 : decode prog_41_method_6_code 4 = .ok (.dreturn, 1) := by decide +kernel
theorem ef16_rm16 (m : MethodId) (x0 : Addr) : entryFrame m #[(.ref x0)] 1 = mkF m 0 #[.val (.ref x0)] [] := by first | (simp [entryFrame, mkF, argsToLocals, Value.category]; done) | rfl
def Q16 (Z : State) (a : Addr) (sd : UInt64) (h0 : Heap) (n0 : Nat) (v : Option Value) (h : Heap) (L : List Loc) : Prop := v = some (.double sd) ∧ Fr n0 L ∧ h = h0
set_option maxRecDepth 65536 in
set_option maxHeartbeats 40000000 in
theorem rm16 (l : Launch) (Z : State) (a0 : Array Value) (hw : ∀ d ∈ tables_1, d.before a0 Z = true) (ws : List Jvm.Cond) (a : Addr) (sd : UInt64) (h0 : Heap) (n0 : Nat) (Z0 : n0 ≤ h0.size) (F0 : Fld Z h0 a "com/example/tieline/tieline/wavelet/Registration$ShiftPrior" "sdMs" "D" (.double sd)) :
    MetFree l (⟨"com/example/tieline/tieline/wavelet/Registration$ShiftPrior", "sdMs", "()D"⟩ : MethodName) (head1 (Jvm.Cond.code (⟨"com/example/tieline/tieline/wavelet/Registration$ShiftPrior", "sdMs", "()D"⟩ : MethodName) prog_41_method_6_code 1 (some .double) :: ws) ({ frames := 0, cells := 0, slots := 0, locals := 0 } : Room)) (fun aa UU => aa = #[(.ref a)] ∧ Z.Warmed39 UU.vm ∧ UU.heap = h0) (fun _ _ _ _ _ => True) (fun _ UU oo UU' => ∃ vv LL, oo = .returned vv ∧ Q16 Z a sd h0 n0 vv UU'.heap LL ∧ FrameEnd UU oo UU' LL ({ frames := 0, cells := 0, slots := 0, locals := 0 } : Room).cells ({ frames := 0, cells := 0, slots := 0, locals := 0 } : Room).slots) := by
  refine MetFree.of_bodySF (plainFor_of_name pn3) hisR ?_
  intro p e s m args below meth c s₁ Bd hml0 hP hK
  obtain ⟨rfl, hZ, hh⟩ := hP
  have hx := Bd.exec
  have hby := Bd.bytes
  have hlk : meth.locks = false := BodyLoose.notSynchronized Bd
  have hret := Bd.returns
  have hml : c.maxLocals = 1 := hml0
  have hown : s.vm.findClass "com/example/tieline/tieline/wavelet/Registration$ShiftPrior" = some m.cls := findClass_of_methodNamed Bd.named
  have hnm := (name_of_methodNamed Bd.named Bd.method).1
  have X0 : Stand p l e ({ frames := 0, cells := 0, slots := 0, locals := 0 } : Room) s m #[(.ref a)] below meth c s₁ [] 0 0 := Stand.of_body Bd
  have e0 : s₁.heap = h0 := by rw [← hh, Bd.state]; rfl
  have N0 := Fr.nil n0
  show Dn p e below s (Q16 Z a sd h0 n0) ({ frames := 0, cells := 0, slots := 0, locals := 0 } : Room).cells ({ frames := 0, cells := 0, slots := 0, locals := 0 } : Room).slots (s₁.setTop (entryFrame m #[(.ref a)] 1))
  refine Dn.st (fun _ kk => castTop (ef16_rm16 m a) kk) ?_
  show Dn p e below s _ _ _ (s₁.setTop (mkF m 0 #[.val (.ref a)] []))
  refine Dn.st (fun _ kk => XS.aloadN X0.here hx rfl (hb hby d16_0) rfl rfl (kk)) ?_
  show Dn p e below s _ _ _ (s₁.setTop (mkF m 1 #[.val (.ref a)] [(.ref a)]))
  obtain ⟨T1, X1, e1, st1⟩ := getF X0 hx hZ hown (host := "") (Or.inl (hw _ (List.mem_of_getElem? (i := 44) rfl))) Via.refl e0 F0 (g := (mkF m 1 #[.val (.ref a)] [(.ref a)])) rfl rfl (hb hby d16_1)
  refine Dn.st st1 ?_
  show Dn p e below s _ _ _ (T1.setTop (mkF m 4 #[.val (.ref a)] [(.double sd)]))
  exact Dn.ret X1 hlk hx hret rfl (Or.inr (Or.inr (Or.inl ⟨rfl, rfl, _, rfl⟩))) (hb hby d16_4) (by rw [e1]; exact ⟨rfl, N0, rfl⟩) (by decide) (by decide)

theorem d10_0 : decode prog_38_method_3_code 0 = .ok (.aload_n 0, 1) := by decide +kernel
theorem d10_1 : decode prog_38_method_3_code 1 = .ok (.invokespecial 44, 3) := by decide +kernel
theorem d10_4 : decode prog_38_method_3_code 4 = .ok (.aload 7, 2) := by decide +kernel
theorem d10_6 : decode prog_38_method_3_code 6 = .ok (.invokevirtual 49, 3) := by decide +kernel
theorem d10_9 : decode prog_38_method_3_code 9 = .ok (.ifCond .ne 53, 3) := by decide +kernel
theorem d10_12 : decode prog_38_method_3_code 12 = .ok (.aload 7, 2) := by decide +kernel
theorem d10_14 : decode prog_38_method_3_code 14 = .ok (.invokevirtual 53, 3) := by decide +kernel
theorem d10_17 : decode prog_38_method_3_code 17 = .ok (.checkcast 13, 3) := by decide +kernel
theorem d10_20 : decode prog_38_method_3_code 20 = .ok (.invokevirtual 56, 3) := by decide +kernel
theorem d10_23 : decode prog_38_method_3_code 23 = .ok (.invokestatic 60, 3) := by decide +kernel
theorem d10_26 : decode prog_38_method_3_code 26 = .ok (.ifCond .eq 40, 3) := by decide +kernel
theorem d10_29 : decode prog_38_method_3_code 29 = .ok (.aload 7, 2) := by decide +kernel
theorem d10_31 : decode prog_38_method_3_code 31 = .ok (.invokevirtual 53, 3) := by decide +kernel
theorem d10_34 : decode prog_38_method_3_code 34 = .ok (.checkcast 13, 3) := by decide +kernel
theorem d10_37 : decode prog_38_method_3_code 37 = .ok (.invokevirtual 66, 3) := by decide +kernel
theorem d10_40 : decode prog_38_method_3_code 40 = .ok (.dconst 0, 1) := by decide +kernel
theorem d10_41 : decode prog_38_method_3_code 41 = .ok (.dcmp .l, 1) := by decide +kernel
theorem d10_42 : decode prog_38_method_3_code 42 = .ok (.ifCond .le 24, 3) := by decide +kernel
theorem d10_45 : decode prog_38_method_3_code 45 = .ok (.aload 7, 2) := by decide +kernel
theorem d10_47 : decode prog_38_method_3_code 47 = .ok (.invokevirtual 53, 3) := by decide +kernel
theorem d10_50 : decode prog_38_method_3_code 50 = .ok (.checkcast 13, 3) := by decide +kernel
theorem d10_53 : decode prog_38_method_3_code 53 = .ok (.invokevirtual 66, 3) := by decide +kernel
theorem d10_56 : decode prog_38_method_3_code 56 = .ok (.invokestatic 60, 3) := by decide +kernel
theorem d10_59 : decode prog_38_method_3_code 59 = .ok (.ifCond .eq 7, 3) := by decide +kernel
theorem d10_62 : decode prog_38_method_3_code 62 = .ok (.iconst 1, 1) := by decide +kernel
theorem d10_63 : decode prog_38_method_3_code 63 = .ok (.goto 4, 3) := by decide +kernel
theorem d10_67 : decode prog_38_method_3_code 67 = .ok (.istore 8, 2) := by decide +kernel
theorem d10_69 : decode prog_38_method_3_code 69 = .ok (.iload 4, 2) := by decide +kernel
theorem d10_71 : decode prog_38_method_3_code 71 = .ok (.iconst 1, 1) := by decide +kernel
theorem d10_72 : decode prog_38_method_3_code 72 = .ok (.if_icmp .lt 15, 3) := by decide +kernel
theorem d10_75 : decode prog_38_method_3_code 75 = .ok (.dload 5, 2) := by decide +kernel
theorem d10_77 : decode prog_38_method_3_code 77 = .ok (.dconst 0, 1) := by decide +kernel
theorem d10_78 : decode prog_38_method_3_code 78 = .ok (.dcmp .l, 1) := by decide +kernel
theorem d10_79 : decode prog_38_method_3_code 79 = .ok (.ifCond .le 8, 3) := by decide +kernel
theorem d10_82 : decode prog_38_method_3_code 82 = .ok (.iload 8, 2) := by decide +kernel
theorem d10_84 : decode prog_38_method_3_code 84 = .ok (.ifCond .ne 28, 3) := by decide +kernel
theorem d10_112 : decode prog_38_method_3_code 112 = .ok (.aload_n 0, 1) := by decide +kernel
theorem d10_113 : decode prog_38_method_3_code 113 = .ok (.aload_n 1, 1) := by decide +kernel
theorem d10_114 : decode prog_38_method_3_code 114 = .ok (.putfield 84, 3) := by decide +kernel
theorem d10_117 : decode prog_38_method_3_code 117 = .ok (.aload_n 0, 1) := by decide +kernel
theorem d10_118 : decode prog_38_method_3_code 118 = .ok (.aload_n 2, 1) := by decide +kernel
theorem d10_119 : decode prog_38_method_3_code 119 = .ok (.putfield 86, 3) := by decide +kernel
theorem d10_122 : decode prog_38_method_3_code 122 = .ok (.aload_n 0, 1) := by decide +kernel
theorem d10_123 : decode prog_38_method_3_code 123 = .ok (.iload_n 3, 1) := by decide +kernel
theorem d10_124 : decode prog_38_method_3_code 124 = .ok (.putfield 90, 3) := by decide +kernel
theorem d10_127 : decode prog_38_method_3_code 127 = .ok (.aload_n 0, 1) := by decide +kernel
theorem d10_128 : decode prog_38_method_3_code 128 = .ok (.iload 4, 2) := by decide +kernel
theorem d10_130 : decode prog_38_method_3_code 130 = .ok (.putfield 94, 3) := by decide +kernel
theorem d10_133 : decode prog_38_method_3_code 133 = .ok (.aload_n 0, 1) := by decide +kernel
theorem d10_134 : decode prog_38_method_3_code 134 = .ok (.dload 5, 2) := by decide +kernel
theorem d10_136 : decode prog_38_method_3_code 136 = .ok (.putfield 97, 3) := by decide +kernel
theorem d10_139 : decode prog_38_method_3_code 139 = .ok (.aload_n 0, 1) := by decide +kernel
theorem d10_140 : decode prog_38_method_3_code 140 = .ok (.aload 7, 2) := by decide +kernel
theorem d10_142 : decode prog_38_method_3_code 142 = .ok (.putfield 101, 3) := by decide +kernel
theorem d10_145 : decode prog_38_method_3_code 145 = .ok (.iconst 0, 1) := by decide +kernel
theorem d10_146 : decode prog_38_method_3_code 146 = .ok (.istore 9, 2) := by decide +kernel
theorem d10_148 : decode prog_38_method_3_code 148 = .ok (.iload 9, 2) := by decide +kernel
theorem d10_150 : decode prog_38_method_3_code 150 = .ok (.aload_n 1, 1) := by decide +kernel
theorem d10_151 : decode prog_38_method_3_code 151 = .ok (.arraylength, 1) := by decide +kernel
theorem d10_152 : decode prog_38_method_3_code 152 = .ok (.if_icmp .ge 18, 3) := by decide +kernel
theorem d10_155 : decode prog_38_method_3_code 155 = .ok (.aload_n 1, 1) := by decide +kernel
theorem d10_156 : decode prog_38_method_3_code 156 = .ok (.iload 9, 2) := by decide +kernel
theorem d10_158 : decode prog_38_method_3_code 158 = .ok (.daload, 1) := by decide +kernel
theorem d10_159 : decode prog_38_method_3_code 159 = .ok (.dconst 0, 1) := by decide +kernel
theorem d10_160 : decode prog_38_method_3_code 160 = .ok (.dcmp .l, 1) := by decide +kernel
theorem d10_161 : decode prog_38_method_3_code 161 = .ok (.ifCond .ne 9, 3) := by decide +kernel
theorem d10_164 : decode prog_38_method_3_code 164 = .ok (.iinc 9 1, 3) := by decide +kernel
theorem d10_167 : decode prog_38_method_3_code 167 = .ok (.goto (-19), 3) := by decide +kernel
theorem d10_170 : decode prog_38_method_3_code 170 = .ok (.aload_n 1, 1) := by decide +kernel
theorem d10_171 : decode prog_38_method_3_code 171 = .ok (.arraylength, 1) := by decide +kernel
theorem d10_172 : decode prog_38_method_3_code 172 = .ok (.iconst 1, 1) := by decide +kernel
theorem d10_173 : decode prog_38_method_3_code 173 = .ok (.isub, 1) := by decide +kernel
theorem d10_174 : decode prog_38_method_3_code 174 = .ok (.istore 10, 2) := by decide +kernel
theorem d10_176 : decode prog_38_method_3_code 176 = .ok (.iload 10, 2) := by decide +kernel
theorem d10_178 : decode prog_38_method_3_code 178 = .ok (.iload 9, 2) := by decide +kernel
theorem d10_180 : decode prog_38_method_3_code 180 = .ok (.if_icmp .lt 18, 3) := by decide +kernel
theorem d10_183 : decode prog_38_method_3_code 183 = .ok (.aload_n 1, 1) := by decide +kernel
theorem d10_184 : decode prog_38_method_3_code 184 = .ok (.iload 10, 2) := by decide +kernel
theorem d10_186 : decode prog_38_method_3_code 186 = .ok (.daload, 1) := by decide +kernel
theorem d10_187 : decode prog_38_method_3_code 187 = .ok (.dconst 0, 1) := by decide +kernel
theorem d10_188 : decode prog_38_method_3_code 188 = .ok (.dcmp .l, 1) := by decide +kernel
theorem d10_189 : decode prog_38_method_3_code 189 = .ok (.ifCond .ne 9, 3) := by decide +kernel
theorem d10_192 : decode prog_38_method_3_code 192 = .ok (.iinc 10 (-1), 3) := by decide +kernel
theorem d10_195 : decode prog_38_method_3_code 195 = .ok (.goto (-19), 3) := by decide +kernel
theorem d10_198 : decode prog_38_method_3_code 198 = .ok (.aload_n 0, 1) := by decide +kernel
theorem d10_199 : decode prog_38_method_3_code 199 = .ok (.iload 9, 2) := by decide +kernel
theorem d10_201 : decode prog_38_method_3_code 201 = .ok (.putfield 104, 3) := by decide +kernel
theorem d10_204 : decode prog_38_method_3_code 204 = .ok (.aload_n 0, 1) := by decide +kernel
theorem d10_205 : decode prog_38_method_3_code 205 = .ok (.iload 10, 2) := by decide +kernel
theorem d10_207 : decode prog_38_method_3_code 207 = .ok (.putfield 107, 3) := by decide +kernel
theorem d10_210 : decode prog_38_method_3_code 210 = .ok (.return_, 1) := by decide +kernel
theorem dc_0 : DS 0 0 (0 : UInt64) := DS.lit (s := false) (c := 0) (q := -1074) (by decide +kernel) (by decide +kernel)
theorem pd3 : parseMethodDescriptor "()Z" = some ⟨[], some .boolean⟩ := by decide +kernel
theorem pd4 : parseMethodDescriptor "()Ljava/lang/Object;" = some ⟨[], some (.object "java/lang/Object")⟩ := by decide +kernel
theorem pd5 : parseMethodDescriptor "()D" = some ⟨[], some .double⟩ := by decide +kernel
theorem pd6 : parseMethodDescriptor "(D)Z" = some ⟨[.double], some .boolean⟩ := by decide +kernel
theorem pn5 : plainName "com/example/tieline/tieline/wavelet/Registration" = true := by first | (simp [plainName, overriddenIn]; done) | decide +kernel
theorem ef10_rm10 (m : MethodId) (x0 : Addr) (x1 : Addr) (x2 : Addr) (x3 : Int32) (x4 : Int32) (x5 : UInt64) (x6 : Addr) : entryFrame m #[(.ref x0), (.ref x1), (.ref x2), (.int x3), (.int x4), (.double x5), (.ref x6)] 11 = mkF m 0 #[.val (.ref x0), .val (.ref x1), .val (.ref x2), .val (.int x3), .val (.int x4), .val (.double x5), .second, .val (.ref x6), .unset, .unset, .unset] [] := by first | (simp [entryFrame, mkF, argsToLocals, Value.category]; done) | rfl
def Q10 (Z : State) (a : Addr) (ar : Addr) (lv : Addr) (fi : Int32) (cn : Int32) (dt : UInt64) (sh : Addr) (kr : ClassId) (z0 z1 z2 z3 z4 mu sd : UInt64) (sp : Addr) (i0 i1 i2 i3 i4 it : Int) (h0 : Heap) (n0 : Nat) (v : Option Value) (h : Heap) (L : List Loc) : Prop := v = none ∧ Fr n0 L ∧ Keep h0 h [a] ∧ Exa Z h a "com/example/tieline/tieline/wavelet/Registration" ∧ (Fld Z h a "com/example/tieline/tieline/wavelet/Registration" "first" "I" (.int fi)) ∧ (Fld Z h a "com/example/tieline/tieline/wavelet/Registration" "count" "I" (.int cn)) ∧ (Fld Z h a "com/example/tieline/tieline/wavelet/Registration" "intervalMs" "D" (.double dt)) ∧ (Fld Z h a "com/example/tieline/tieline/wavelet/Registration" "lowest" "I" (.int (own_low i0 i1 i2 i3 i4))) ∧ (Fld Z h a "com/example/tieline/tieline/wavelet/Registration" "highest" "I" (.int (own_high i0 i1 i2 i3 i4)))
set_option maxRecDepth 65536 in
set_option maxHeartbeats 40000000 in
theorem rm10 (l : Launch) (Z : State) (a0 : Array Value) (hw : ∀ d ∈ tables_1, d.before a0 Z = true) (ws : List Jvm.Cond) (a : Addr) (ar : Addr) (lv : Addr) (fi : Int32) (cn : Int32) (dt : UInt64) (sh : Addr) (kr : ClassId) (z0 z1 z2 z3 z4 mu sd : UInt64) (sp : Addr) (i0 i1 i2 i3 i4 it : Int) (h0 : Heap) (n0 : Nat) (Z0 : n0 ≤ h0.size) (ga : n0 ≤ a) (Ea : Exa Z h0 a "com/example/tieline/tieline/wavelet/Registration") (F_reflectivity : Fld Z h0 a "com/example/tieline/tieline/wavelet/Registration" "reflectivity" "[D" .null) (F_levels : Fld Z h0 a "com/example/tieline/tieline/wavelet/Registration" "levels" "Ljava/util/Optional;" .null) (F_first : Fld Z h0 a "com/example/tieline/tieline/wavelet/Registration" "first" "I" (.int 0)) (F_count : Fld Z h0 a "com/example/tieline/tieline/wavelet/Registration" "count" "I" (.int 0)) (F_intervalMs : Fld Z h0 a "com/example/tieline/tieline/wavelet/Registration" "intervalMs" "D" (.double 0)) (F_shift : Fld Z h0 a "com/example/tieline/tieline/wavelet/Registration" "shift" "Ljava/util/Optional;" .null) (F_lowest : Fld Z h0 a "com/example/tieline/tieline/wavelet/Registration" "lowest" "I" (.int 0)) (F_highest : Fld Z h0 a "com/example/tieline/tieline/wavelet/Registration" "highest" "I" (.int 0)) (Va : Arv Z h0 ar kr .double 5 [(.double z0), (.double z1), (.double z2), (.double z3), (.double z4)] (.double 0)) (ne_ar : ar ≠ a) (ne_sh : sh ≠ a) (ne_sp : sp ≠ a) (Eh : Exa Z h0 sh "java/util/Optional") (Fh : Fld Z h0 sh "java/util/Optional" "value" "Ljava/lang/Object;" (.ref sp)) (Ep : Exa Z h0 sp "com/example/tieline/tieline/wavelet/Registration$ShiftPrior") (Fm : Fld Z h0 sp "com/example/tieline/tieline/wavelet/Registration$ShiftPrior" "meanMs" "D" (.double mu)) (Fs : Fld Z h0 sp "com/example/tieline/tieline/wavelet/Registration$ShiftPrior" "sdMs" "D" (.double sd)) (hfm : Jvm.Free.Fl.Fin64 mu) (hfs : Jvm.Free.Fl.Fin64 sd) (hc1 : 1 ≤ cn.toInt) (ddt : DS 0 it dt) (hit : 1 ≤ it) (dsd : DS 0 1 sd) (d_z0 : DS 0 i0 z0) (d_z1 : DS 0 i1 z1) (d_z2 : DS 0 i2 z2) (d_z3 : DS 0 i3 z3) (d_z4 : DS 0 i4 z4) :
    MetFree l (⟨"com/example/tieline/tieline/wavelet/Registration", "<init>", "([DLjava/util/Optional;IIDLjava/util/Optional;)V"⟩ : MethodName) (head1 (Jvm.Cond.code (⟨"com/example/tieline/tieline/wavelet/Registration", "<init>", "([DLjava/util/Optional;IIDLjava/util/Optional;)V"⟩ : MethodName) prog_38_method_3_code 11 none :: ws) ({ frames := 3, cells := 0, slots := 0, locals := 60 } : Room)) (fun aa UU => aa = #[(.ref a), (.ref ar), (.ref lv), (.int fi), (.int cn), (.double dt), (.ref sh)] ∧ Z.Warmed39 UU.vm ∧ UU.heap = h0) (fun _ _ _ _ _ => True) (fun _ UU oo UU' => ∃ vv LL, oo = .returned vv ∧ Q10 Z a ar lv fi cn dt sh kr z0 z1 z2 z3 z4 mu sd sp i0 i1 i2 i3 i4 it h0 n0 vv UU'.heap LL ∧ FrameEnd UU oo UU' LL ({ frames := 3, cells := 0, slots := 0, locals := 60 } : Room).cells ({ frames := 3, cells := 0, slots := 0, locals := 60 } : Room).slots) := by
  refine MetFree.of_bodySF (plainFor_of_name pn5) hisR ?_
  intro p e s m args below meth c s₁ Bd hml0 hP hK
  obtain ⟨rfl, hZ, hh⟩ := hP
  have hx := Bd.exec
  have hby := Bd.bytes
  have hlk : meth.locks = false := BodyLoose.notSynchronized Bd
  have hret := Bd.returns
  have hml : c.maxLocals = 11 := hml0
  have hown : s.vm.findClass "com/example/tieline/tieline/wavelet/Registration" = some m.cls := findClass_of_methodNamed Bd.named
  have hnm := (name_of_methodNamed Bd.named Bd.method).1
  have X0 : Stand p l e ({ frames := 3, cells := 0, slots := 0, locals := 60 } : Room) s m #[(.ref a), (.ref ar), (.ref lv), (.int fi), (.int cn), (.double dt), (.ref sh)] below meth c s₁ [] 0 0 := Stand.of_body Bd
  have e0 : s₁.heap = h0 := by rw [← hh, Bd.state]; rfl
  have N0 := Fr.nil n0
  have r_fi := rng32 fi
  have r_cn := rng32 cn
  show Dn p e below s (Q10 Z a ar lv fi cn dt sh kr z0 z1 z2 z3 z4 mu sd sp i0 i1 i2 i3 i4 it h0 n0) ({ frames := 3, cells := 0, slots := 0, locals := 60 } : Room).cells ({ frames := 3, cells := 0, slots := 0, locals := 60 } : Room).slots (s₁.setTop (entryFrame m #[(.ref a), (.ref ar), (.ref lv), (.int fi), (.int cn), (.double dt), (.ref sh)] 11))
  refine Dn.st (fun _ kk => castTop (ef10_rm10 m a ar lv fi cn dt sh) kk) ?_
  show Dn p e below s _ _ _ (s₁.setTop (mkF m 0 #[.val (.ref a), .val (.ref ar), .val (.ref lv), .val (.int fi), .val (.int cn), .val (.double dt), .second, .val (.ref sh), .unset, .unset, .unset] []))
  refine Dn.st (fun _ kk => XS.aloadN X0.here hx rfl (hb hby d10_0) rfl rfl (kk)) ?_
  show Dn p e below s _ _ _ (s₁.setTop (mkF m 1 #[.val (.ref a), .val (.ref ar), .val (.ref lv), .val (.int fi), .val (.int cn), .val (.double dt), .second, .val (.ref sh), .unset, .unset, .unset] [(.ref a)]))
  obtain ⟨T1, X1, e1, st1⟩ := initO X0 hx hZ hown (hw _ (List.mem_of_getElem? (i := 65) rfl)) (hw _ (List.mem_of_getElem? (i := 40) rfl)) (hw _ (List.mem_of_getElem? (i := 41) rfl)) e0 (g := (mkF m 1 #[.val (.ref a), .val (.ref ar), .val (.ref lv), .val (.int fi), .val (.int cn), .val (.double dt), .second, .val (.ref sh), .unset, .unset, .unset] [(.ref a)])) rfl (by rw [hml]; rfl) rfl (hb hby d10_1) (by decide) (W := 0) (by show 2 * 0 + _ ≤ _; exact Nat.le_of_eq rfl) (by decide)
  refine Dn.st st1 ?_
  show Dn p e below s _ _ _ (T1.setTop (mkF m 4 #[.val (.ref a), .val (.ref ar), .val (.ref lv), .val (.int fi), .val (.int cn), .val (.double dt), .second, .val (.ref sh), .unset, .unset, .unset] []))
  refine Dn.st (fun _ kk => XS.aload X1.here hx rfl (hb hby d10_4) rfl rfl (kk)) ?_
  show Dn p e below s _ _ _ (T1.setTop (mkF m 6 #[.val (.ref a), .val (.ref ar), .val (.ref lv), .val (.int fi), .val (.int cn), .val (.double dt), .second, .val (.ref sh), .unset, .unset, .unset] [(.ref sh)]))
  obtain ⟨cq6, kq6, q6a, q6b, q6c⟩ := isOf hZ e1 Eh
  obtain ⟨_, _, ⟨T6, L6, k6, n6⟩, -, X6, ⟨Lc6, hQ6, l6, y6, z6⟩, st6⟩ := X1.virtualBack hx (y := (⟨"java/util/Optional", "isEmpty", "()Z"⟩ : MethodName)) (z := (⟨"java/util/Optional", "isEmpty", "()Z"⟩ : MethodName)) hown (mvT hZ (hw _ (List.mem_of_getElem? (i := 66) rfl))) (mvT hZ (hw _ (List.mem_of_getElem? (i := 67) rfl))) (notFace_of_selects (args := #[]) (mvT hZ (hw _ (List.mem_of_getElem? (i := 69) rfl)))) (mvT hZ (hw _ (List.mem_of_getElem? (i := 69) rfl))) (mvT hZ (hw _ (List.mem_of_getElem? (i := 68) rfl))) (by decide) (backOf (W := 0) (rm11 l Z a0 hw [] sh sp h0 n0 Z0 Fh) hZ (hw _ (List.mem_of_getElem? (i := 70) rfl)) (hw _ (List.mem_of_getElem? (i := 25) rfl)) (by decide) (by decide)) q6a q6c (g := (mkF m 6 #[.val (.ref a), .val (.ref ar), .val (.ref lv), .val (.int fi), .val (.int cn), .val (.double dt), .second, .val (.ref sh), .unset, .unset, .unset] [(.ref sh)])) rfl (by rw [hml]; rfl) (Steps.refl _) (argsL := []) (rest := []) (lenOf pd3 rfl) rfl (by show 2 * 0 + _ ≤ _; exact Nat.le_of_eq rfl) (hb hby d10_6) (fun _ _ => ⟨rfl, e1, (by decide : 0 + 0 ≤ _), (by decide : 0 + 0 ≤ _)⟩)
  dsimp only [Pt.U, Pt.locs, Pt.cells, Pt.slots] at X6 l6 y6 z6 st6 hQ6
  subst l6 y6 z6
  obtain ⟨rfl, Nq6, hh6⟩ := hQ6
  have N6 := Fr.app N0 Nq6
  refine Dn.tr st6 ?_
  show Dn p e below s _ _ _ (T6.setTop (mkF m 9 #[.val (.ref a), .val (.ref ar), .val (.ref lv), .val (.int fi), .val (.int cn), .val (.double dt), .second, .val (.ref sh), .unset, .unset, .unset] [(.int (0 : Int32))]))
  have hc9 : (0 : Int32) = (0 : Int32) := by decide
  refine Dn.st (fun _ kk => XS.ifNo X6.here hx rfl (hb hby d10_9) rfl ((if0 _ _).trans (teq hc9).2) (XS.aload X6.here hx rfl (hb hby d10_12) rfl rfl (kk))) ?_
  show Dn p e below s _ _ _ (T6.setTop (mkF m 14 #[.val (.ref a), .val (.ref ar), .val (.ref lv), .val (.int fi), .val (.int cn), .val (.double dt), .second, .val (.ref sh), .unset, .unset, .unset] [(.ref sh)]))
  obtain ⟨cq14, kq14, q14a, q14b, q14c⟩ := isOf hZ hh6 Eh
  obtain ⟨_, _, ⟨T14, L14, k14, n14⟩, -, X14, ⟨Lc14, hQ14, l14, y14, z14⟩, st14⟩ := X6.virtualBack hx (y := (⟨"java/util/Optional", "get", "()Ljava/lang/Object;"⟩ : MethodName)) (z := (⟨"java/util/Optional", "get", "()Ljava/lang/Object;"⟩ : MethodName)) hown (mvT hZ (hw _ (List.mem_of_getElem? (i := 71) rfl))) (mvT hZ (hw _ (List.mem_of_getElem? (i := 72) rfl))) (notFace_of_selects (args := #[]) (mvT hZ (hw _ (List.mem_of_getElem? (i := 74) rfl)))) (mvT hZ (hw _ (List.mem_of_getElem? (i := 74) rfl))) (mvT hZ (hw _ (List.mem_of_getElem? (i := 73) rfl))) (by decide) (backOf (W := 0) (rm12 l Z a0 hw [] sh sp h0 n0 Z0 Fh) hZ (hw _ (List.mem_of_getElem? (i := 75) rfl)) (hw _ (List.mem_of_getElem? (i := 25) rfl)) (by decide) (by decide)) q14a q14c (g := (mkF m 14 #[.val (.ref a), .val (.ref ar), .val (.ref lv), .val (.int fi), .val (.int cn), .val (.double dt), .second, .val (.ref sh), .unset, .unset, .unset] [(.ref sh)])) rfl (by rw [hml]; rfl) (Steps.refl _) (argsL := []) (rest := []) (lenOf pd4 rfl) rfl (by show 2 * 0 + _ ≤ _; exact Nat.le_of_eq rfl) (hb hby d10_14) (fun _ _ => ⟨rfl, hh6, (by decide : 0 + 0 ≤ _), (by decide : 0 + 0 ≤ _)⟩)
  dsimp only [Pt.U, Pt.locs, Pt.cells, Pt.slots] at X14 l14 y14 z14 st14 hQ14
  subst l14 y14 z14
  obtain ⟨rfl, Nq14, hh14⟩ := hQ14
  have N14 := Fr.app N6 Nq14
  refine Dn.tr st14 ?_
  show Dn p e below s _ _ _ (T14.setTop (mkF m 17 #[.val (.ref a), .val (.ref ar), .val (.ref lv), .val (.int fi), .val (.int cn), .val (.double dt), .second, .val (.ref sh), .unset, .unset, .unset] [(.ref sp)]))
  obtain ⟨T17, X17, e17, st17⟩ := castY X14 hx hZ hown (hw _ (List.mem_of_getElem? (i := 28) rfl)) hh14 (Ins.self Ep) (g := (mkF m 17 #[.val (.ref a), .val (.ref ar), .val (.ref lv), .val (.int fi), .val (.int cn), .val (.double dt), .second, .val (.ref sh), .unset, .unset, .unset] [(.ref sp)])) rfl rfl (hb hby d10_17)
  refine Dn.st st17 ?_
  show Dn p e below s _ _ _ (T17.setTop (mkF m 20 #[.val (.ref a), .val (.ref ar), .val (.ref lv), .val (.int fi), .val (.int cn), .val (.double dt), .second, .val (.ref sh), .unset, .unset, .unset] [(.ref sp)]))
  obtain ⟨cq20, kq20, q20a, q20b, q20c⟩ := isOf hZ e17 Ep
  obtain ⟨_, _, ⟨T20, L20, k20, n20⟩, -, X20, ⟨Lc20, hQ20, l20, y20, z20⟩, st20⟩ := X17.virtualBack hx (y := (⟨"com/example/tieline/tieline/wavelet/Registration$ShiftPrior", "meanMs", "()D"⟩ : MethodName)) (z := (⟨"com/example/tieline/tieline/wavelet/Registration$ShiftPrior", "meanMs", "()D"⟩ : MethodName)) hown (mvT hZ (hw _ (List.mem_of_getElem? (i := 77) rfl))) (mvT hZ (hw _ (List.mem_of_getElem? (i := 78) rfl))) (notFace_of_selects (args := #[]) (mvT hZ (hw _ (List.mem_of_getElem? (i := 80) rfl)))) (mvT hZ (hw _ (List.mem_of_getElem? (i := 80) rfl))) (mvT hZ (hw _ (List.mem_of_getElem? (i := 79) rfl))) (by decide) (backOf (W := 0) (rm13 l Z a0 hw [] sp mu h0 n0 Z0 Fm) hZ (hw _ (List.mem_of_getElem? (i := 81) rfl)) (hw _ (List.mem_of_getElem? (i := 30) rfl)) (by decide) (by decide)) q20a q20c (g := (mkF m 20 #[.val (.ref a), .val (.ref ar), .val (.ref lv), .val (.int fi), .val (.int cn), .val (.double dt), .second, .val (.ref sh), .unset, .unset, .unset] [(.ref sp)])) rfl (by rw [hml]; rfl) (Steps.refl _) (argsL := []) (rest := []) (lenOf pd5 rfl) rfl (by show 2 * 0 + _ ≤ _; exact Nat.le_of_eq rfl) (hb hby d10_20) (fun _ _ => ⟨rfl, e17, (by decide : 0 + 0 ≤ _), (by decide : 0 + 0 ≤ _)⟩)
  dsimp only [Pt.U, Pt.locs, Pt.cells, Pt.slots] at X20 l20 y20 z20 st20 hQ20
  subst l20 y20 z20
  obtain ⟨rfl, Nq20, hh20⟩ := hQ20
  have N20 := Fr.app N14 Nq20
  refine Dn.tr st20 ?_
  show Dn p e below s _ _ _ (T20.setTop (mkF m 23 #[.val (.ref a), .val (.ref ar), .val (.ref lv), .val (.int fi), .val (.int cn), .val (.double dt), .second, .val (.ref sh), .unset, .unset, .unset] [(.double mu)]))
  obtain ⟨vq23, _, ⟨T23, L23, k23, n23⟩, -, X23, ⟨⟨hhq23, l23, y23, z23⟩, hQ23⟩, st23⟩ := Jvm.LawKit.callS X20 hx (y := (⟨"java/lang/Double", "isFinite", "(D)Z"⟩ : MethodName)) hown (mvT hZ (hw _ (List.mem_of_getElem? (i := 82) rfl))) (mvT hZ (hw _ (List.mem_of_getElem? (i := 83) rfl))) (mvT hZ (hw _ (List.mem_of_getElem? (i := 84) rfl))) (mvT hZ (hw _ (List.mem_of_getElem? (i := 85) rfl))) (by decide) (Jvm.Free.Fl.IsFinite.pays (W := 0) (by decide) (by decide) (by simp only [Jvm.Free.Fl.IsFinite.tab, Cond.before_and, Bool.and_eq_true]; exact ⟨mvT hZ (hw _ (List.mem_of_getElem? (i := 85) rfl)), mvT hZ (hw _ (List.mem_of_getElem? (i := 86) rfl)), mvT hZ (hw _ (List.mem_of_getElem? (i := 87) rfl)), mvT hZ (hw _ (List.mem_of_getElem? (i := 88) rfl)), mvT hZ (hw _ (List.mem_of_getElem? (i := 89) rfl)), mvT hZ (hw _ (List.mem_of_getElem? (i := 90) rfl))⟩) (mvT hZ (hw _ (List.mem_of_getElem? (i := 84) rfl)))) (g := (mkF m 23 #[.val (.ref a), .val (.ref ar), .val (.ref lv), .val (.int fi), .val (.int cn), .val (.double dt), .second, .val (.ref sh), .unset, .unset, .unset] [(.double mu)])) rfl (by rw [hml]; rfl) (argsL := [(.double mu)]) (rest := []) (lenOf pd6 rfl) rfl (by show 2 * 0 + _ ≤ _; exact Nat.le_of_eq rfl) (hb hby d10_23) (fun _ _ => ⟨(by decide : 0 ≤ _), (by decide : 0 ≤ _), _, rfl, hfm.noNaN⟩)
  dsimp only [Pt.U, Pt.locs, Pt.cells, Pt.slots] at X23 l23 y23 z23 st23 hQ23
  subst l23 y23 z23
  have hh23 := hhq23.trans hh20
  have hv23 := hQ23 _ ⟨rfl, hfm.noNaN⟩
  rw [if_pos ((Jvm.Free.Fl.le_max_iff hfm.noNaN).mpr hfm)] at hv23
  subst hv23
  refine Dn.st st23 ?_
  show Dn p e below s _ _ _ (T23.setTop (mkF m 26 #[.val (.ref a), .val (.ref ar), .val (.ref lv), .val (.int fi), .val (.int cn), .val (.double dt), .second, .val (.ref sh), .unset, .unset, .unset] [(.int (1 : Int32))]))
  have hc26 : ¬ ((1 : Int32) = (0 : Int32)) := by decide
  refine Dn.st (fun _ kk => XS.ifNo X23.here hx rfl (hb hby d10_26) rfl ((if0 _ _).trans (feq hc26).1) (XS.aload X23.here hx rfl (hb hby d10_29) rfl rfl (kk))) ?_
  show Dn p e below s _ _ _ (T23.setTop (mkF m 31 #[.val (.ref a), .val (.ref ar), .val (.ref lv), .val (.int fi), .val (.int cn), .val (.double dt), .second, .val (.ref sh), .unset, .unset, .unset] [(.ref sh)]))
  obtain ⟨cq31, kq31, q31a, q31b, q31c⟩ := isOf hZ hh23 Eh
  obtain ⟨_, _, ⟨T31, L31, k31, n31⟩, -, X31, ⟨Lc31, hQ31, l31, y31, z31⟩, st31⟩ := X23.virtualBack hx (y := (⟨"java/util/Optional", "get", "()Ljava/lang/Object;"⟩ : MethodName)) (z := (⟨"java/util/Optional", "get", "()Ljava/lang/Object;"⟩ : MethodName)) hown (mvT hZ (hw _ (List.mem_of_getElem? (i := 71) rfl))) (mvT hZ (hw _ (List.mem_of_getElem? (i := 72) rfl))) (notFace_of_selects (args := #[]) (mvT hZ (hw _ (List.mem_of_getElem? (i := 74) rfl)))) (mvT hZ (hw _ (List.mem_of_getElem? (i := 74) rfl))) (mvT hZ (hw _ (List.mem_of_getElem? (i := 73) rfl))) (by decide) (backOf (W := 0) (rm12 l Z a0 hw [] sh sp h0 n0 Z0 Fh) hZ (hw _ (List.mem_of_getElem? (i := 75) rfl)) (hw _ (List.mem_of_getElem? (i := 25) rfl)) (by decide) (by decide)) q31a q31c (g := (mkF m 31 #[.val (.ref a), .val (.ref ar), .val (.ref lv), .val (.int fi), .val (.int cn), .val (.double dt), .second, .val (.ref sh), .unset, .unset, .unset] [(.ref sh)])) rfl (by rw [hml]; rfl) (Steps.refl _) (argsL := []) (rest := []) (lenOf pd4 rfl) rfl (by show 2 * 0 + _ ≤ _; exact Nat.le_of_eq rfl) (hb hby d10_31) (fun _ _ => ⟨rfl, hh23, (by decide : 0 + 0 ≤ _), (by decide : 0 + 0 ≤ _)⟩)
  dsimp only [Pt.U, Pt.locs, Pt.cells, Pt.slots] at X31 l31 y31 z31 st31 hQ31
  subst l31 y31 z31
  obtain ⟨rfl, Nq31, hh31⟩ := hQ31
  have N31 := Fr.app N20 Nq31
  refine Dn.tr st31 ?_
  show Dn p e below s _ _ _ (T31.setTop (mkF m 34 #[.val (.ref a), .val (.ref ar), .val (.ref lv), .val (.int fi), .val (.int cn), .val (.double dt), .second, .val (.ref sh), .unset, .unset, .unset] [(.ref sp)]))
  obtain ⟨T34, X34, e34, st34⟩ := castY X31 hx hZ hown (hw _ (List.mem_of_getElem? (i := 28) rfl)) hh31 (Ins.self Ep) (g := (mkF m 34 #[.val (.ref a), .val (.ref ar), .val (.ref lv), .val (.int fi), .val (.int cn), .val (.double dt), .second, .val (.ref sh), .unset, .unset, .unset] [(.ref sp)])) rfl rfl (hb hby d10_34)
  refine Dn.st st34 ?_
  show Dn p e below s _ _ _ (T34.setTop (mkF m 37 #[.val (.ref a), .val (.ref ar), .val (.ref lv), .val (.int fi), .val (.int cn), .val (.double dt), .second, .val (.ref sh), .unset, .unset, .unset] [(.ref sp)]))
  obtain ⟨cq37, kq37, q37a, q37b, q37c⟩ := isOf hZ e34 Ep
  obtain ⟨_, _, ⟨T37, L37, k37, n37⟩, -, X37, ⟨Lc37, hQ37, l37, y37, z37⟩, st37⟩ := X34.virtualBack hx (y := (⟨"com/example/tieline/tieline/wavelet/Registration$ShiftPrior", "sdMs", "()D"⟩ : MethodName)) (z := (⟨"com/example/tieline/tieline/wavelet/Registration$ShiftPrior", "sdMs", "()D"⟩ : MethodName)) hown (mvT hZ (hw _ (List.mem_of_getElem? (i := 91) rfl))) (mvT hZ (hw _ (List.mem_of_getElem? (i := 92) rfl))) (notFace_of_selects (args := #[]) (mvT hZ (hw _ (List.mem_of_getElem? (i := 94) rfl)))) (mvT hZ (hw _ (List.mem_of_getElem? (i := 94) rfl))) (mvT hZ (hw _ (List.mem_of_getElem? (i := 93) rfl))) (by decide) (backOf (W := 0) (rm16 l Z a0 hw [] sp sd h0 n0 Z0 Fs) hZ (hw _ (List.mem_of_getElem? (i := 95) rfl)) (hw _ (List.mem_of_getElem? (i := 30) rfl)) (by decide) (by decide)) q37a q37c (g := (mkF m 37 #[.val (.ref a), .val (.ref ar), .val (.ref lv), .val (.int fi), .val (.int cn), .val (.double dt), .second, .val (.ref sh), .unset, .unset, .unset] [(.ref sp)])) rfl (by rw [hml]; rfl) (Steps.refl _) (argsL := []) (rest := []) (lenOf pd5 rfl) rfl (by show 2 * 0 + _ ≤ _; exact Nat.le_of_eq rfl) (hb hby d10_37) (fun _ _ => ⟨rfl, e34, (by decide : 0 + 0 ≤ _), (by decide : 0 + 0 ≤ _)⟩)
  dsimp only [Pt.U, Pt.locs, Pt.cells, Pt.slots] at X37 l37 y37 z37 st37 hQ37
  subst l37 y37 z37
  obtain ⟨rfl, Nq37, hh37⟩ := hQ37
  have N37 := Fr.app N31 Nq37
  refine Dn.tr st37 ?_
  show Dn p e below s _ _ _ (T37.setTop (mkF m 40 #[.val (.ref a), .val (.ref ar), .val (.ref lv), .val (.int fi), .val (.int cn), .val (.double dt), .second, .val (.ref sh), .unset, .unset, .unset] [(.double sd)]))
  refine Dn.st (fun _ kk => XS.dconst0 X37.here hx rfl (hb hby d10_40) rfl (XS.dcmpS X37.here hx rfl (hb hby d10_41) rfl (DS.cmpV dsd dc_0 _) (kk))) ?_
  show Dn p e below s _ _ _ (T37.setTop (mkF m 42 #[.val (.ref a), .val (.ref ar), .val (.ref lv), .val (.int fi), .val (.int cn), .val (.double dt), .second, .val (.ref sh), .unset, .unset, .unset] [(.int (c3 1 0))]))
  have hc42 : (0 : Int32) < (c3 1 0) := (c3_gt _ _).mpr (by omega)
  refine Dn.st (fun _ kk => XS.ifNo X37.here hx rfl (hb hby d10_42) rfl ((if0 _ _).trans (tlt hc42).2.2.2) (XS.aload X37.here hx rfl (hb hby d10_45) rfl rfl (kk))) ?_
  show Dn p e below s _ _ _ (T37.setTop (mkF m 47 #[.val (.ref a), .val (.ref ar), .val (.ref lv), .val (.int fi), .val (.int cn), .val (.double dt), .second, .val (.ref sh), .unset, .unset, .unset] [(.ref sh)]))
  obtain ⟨cq47, kq47, q47a, q47b, q47c⟩ := isOf hZ hh37 Eh
  obtain ⟨_, _, ⟨T47, L47, k47, n47⟩, -, X47, ⟨Lc47, hQ47, l47, y47, z47⟩, st47⟩ := X37.virtualBack hx (y := (⟨"java/util/Optional", "get", "()Ljava/lang/Object;"⟩ : MethodName)) (z := (⟨"java/util/Optional", "get", "()Ljava/lang/Object;"⟩ : MethodName)) hown (mvT hZ (hw _ (List.mem_of_getElem? (i := 71) rfl))) (mvT hZ (hw _ (List.mem_of_getElem? (i := 72) rfl))) (notFace_of_selects (args := #[]) (mvT hZ (hw _ (List.mem_of_getElem? (i := 74) rfl)))) (mvT hZ (hw _ (List.mem_of_getElem? (i := 74) rfl))) (mvT hZ (hw _ (List.mem_of_getElem? (i := 73) rfl))) (by decide) (backOf (W := 0) (rm12 l Z a0 hw [] sh sp h0 n0 Z0 Fh) hZ (hw _ (List.mem_of_getElem? (i := 75) rfl)) (hw _ (List.mem_of_getElem? (i := 25) rfl)) (by decide) (by decide)) q47a q47c (g := (mkF m 47 #[.val (.ref a), .val (.ref ar), .val (.ref lv), .val (.int fi), .val (.int cn), .val (.double dt), .second, .val (.ref sh), .unset, .unset, .unset] [(.ref sh)])) rfl (by rw [hml]; rfl) (Steps.refl _) (argsL := []) (rest := []) (lenOf pd4 rfl) rfl (by show 2 * 0 + _ ≤ _; exact Nat.le_of_eq rfl) (hb hby d10_47) (fun _ _ => ⟨rfl, hh37, (by decide : 0 + 0 ≤ _), (by decide : 0 + 0 ≤ _)⟩)
  dsimp only [Pt.U, Pt.locs, Pt.cells, Pt.slots] at X47 l47 y47 z47 st47 hQ47
  subst l47 y47 z47
  obtain ⟨rfl, Nq47, hh47⟩ := hQ47
  have N47 := Fr.app N37 Nq47
  refine Dn.tr st47 ?_
  show Dn p e below s _ _ _ (T47.setTop (mkF m 50 #[.val (.ref a), .val (.ref ar), .val (.ref lv), .val (.int fi), .val (.int cn), .val (.double dt), .second, .val (.ref sh), .unset, .unset, .unset] [(.ref sp)]))
  obtain ⟨T50, X50, e50, st50⟩ := castY X47 hx hZ hown (hw _ (List.mem_of_getElem? (i := 28) rfl)) hh47 (Ins.self Ep) (g := (mkF m 50 #[.val (.ref a), .val (.ref ar), .val (.ref lv), .val (.int fi), .val (.int cn), .val (.double dt), .second, .val (.ref sh), .unset, .unset, .unset] [(.ref sp)])) rfl rfl (hb hby d10_50)
  refine Dn.st st50 ?_
  show Dn p e below s _ _ _ (T50.setTop (mkF m 53 #[.val (.ref a), .val (.ref ar), .val (.ref lv), .val (.int fi), .val (.int cn), .val (.double dt), .second, .val (.ref sh), .unset, .unset, .unset] [(.ref sp)]))
  obtain ⟨cq53, kq53, q53a, q53b, q53c⟩ := isOf hZ e50 Ep
  obtain ⟨_, _, ⟨T53, L53, k53, n53⟩, -, X53, ⟨Lc53, hQ53, l53, y53, z53⟩, st53⟩ := X50.virtualBack hx (y := (⟨"com/example/tieline/tieline/wavelet/Registration$ShiftPrior", "sdMs", "()D"⟩ : MethodName)) (z := (⟨"com/example/tieline/tieline/wavelet/Registration$ShiftPrior", "sdMs", "()D"⟩ : MethodName)) hown (mvT hZ (hw _ (List.mem_of_getElem? (i := 91) rfl))) (mvT hZ (hw _ (List.mem_of_getElem? (i := 92) rfl))) (notFace_of_selects (args := #[]) (mvT hZ (hw _ (List.mem_of_getElem? (i := 94) rfl)))) (mvT hZ (hw _ (List.mem_of_getElem? (i := 94) rfl))) (mvT hZ (hw _ (List.mem_of_getElem? (i := 93) rfl))) (by decide) (backOf (W := 0) (rm16 l Z a0 hw [] sp sd h0 n0 Z0 Fs) hZ (hw _ (List.mem_of_getElem? (i := 95) rfl)) (hw _ (List.mem_of_getElem? (i := 30) rfl)) (by decide) (by decide)) q53a q53c (g := (mkF m 53 #[.val (.ref a), .val (.ref ar), .val (.ref lv), .val (.int fi), .val (.int cn), .val (.double dt), .second, .val (.ref sh), .unset, .unset, .unset] [(.ref sp)])) rfl (by rw [hml]; rfl) (Steps.refl _) (argsL := []) (rest := []) (lenOf pd5 rfl) rfl (by show 2 * 0 + _ ≤ _; exact Nat.le_of_eq rfl) (hb hby d10_53) (fun _ _ => ⟨rfl, e50, (by decide : 0 + 0 ≤ _), (by decide : 0 + 0 ≤ _)⟩)
  dsimp only [Pt.U, Pt.locs, Pt.cells, Pt.slots] at X53 l53 y53 z53 st53 hQ53
  subst l53 y53 z53
  obtain ⟨rfl, Nq53, hh53⟩ := hQ53
  have N53 := Fr.app N47 Nq53
  refine Dn.tr st53 ?_
  show Dn p e below s _ _ _ (T53.setTop (mkF m 56 #[.val (.ref a), .val (.ref ar), .val (.ref lv), .val (.int fi), .val (.int cn), .val (.double dt), .second, .val (.ref sh), .unset, .unset, .unset] [(.double sd)]))
  obtain ⟨vq56, _, ⟨T56, L56, k56, n56⟩, -, X56, ⟨⟨hhq56, l56, y56, z56⟩, hQ56⟩, st56⟩ := Jvm.LawKit.callS X53 hx (y := (⟨"java/lang/Double", "isFinite", "(D)Z"⟩ : MethodName)) hown (mvT hZ (hw _ (List.mem_of_getElem? (i := 82) rfl))) (mvT hZ (hw _ (List.mem_of_getElem? (i := 83) rfl))) (mvT hZ (hw _ (List.mem_of_getElem? (i := 84) rfl))) (mvT hZ (hw _ (List.mem_of_getElem? (i := 85) rfl))) (by decide) (Jvm.Free.Fl.IsFinite.pays (W := 0) (by decide) (by decide) (by simp only [Jvm.Free.Fl.IsFinite.tab, Cond.before_and, Bool.and_eq_true]; exact ⟨mvT hZ (hw _ (List.mem_of_getElem? (i := 85) rfl)), mvT hZ (hw _ (List.mem_of_getElem? (i := 86) rfl)), mvT hZ (hw _ (List.mem_of_getElem? (i := 87) rfl)), mvT hZ (hw _ (List.mem_of_getElem? (i := 88) rfl)), mvT hZ (hw _ (List.mem_of_getElem? (i := 89) rfl)), mvT hZ (hw _ (List.mem_of_getElem? (i := 90) rfl))⟩) (mvT hZ (hw _ (List.mem_of_getElem? (i := 84) rfl)))) (g := (mkF m 56 #[.val (.ref a), .val (.ref ar), .val (.ref lv), .val (.int fi), .val (.int cn), .val (.double dt), .second, .val (.ref sh), .unset, .unset, .unset] [(.double sd)])) rfl (by rw [hml]; rfl) (argsL := [(.double sd)]) (rest := []) (lenOf pd6 rfl) rfl (by show 2 * 0 + _ ≤ _; exact Nat.le_of_eq rfl) (hb hby d10_56) (fun _ _ => ⟨(by decide : 0 ≤ _), (by decide : 0 ≤ _), _, rfl, hfs.noNaN⟩)
  dsimp only [Pt.U, Pt.locs, Pt.cells, Pt.slots] at X56 l56 y56 z56 st56 hQ56
  subst l56 y56 z56
  have hh56 := hhq56.trans hh53
  have hv56 := hQ56 _ ⟨rfl, hfs.noNaN⟩
  rw [if_pos ((Jvm.Free.Fl.le_max_iff hfs.noNaN).mpr hfs)] at hv56
  subst hv56
  refine Dn.st st56 ?_
  show Dn p e below s _ _ _ (T56.setTop (mkF m 59 #[.val (.ref a), .val (.ref ar), .val (.ref lv), .val (.int fi), .val (.int cn), .val (.double dt), .second, .val (.ref sh), .unset, .unset, .unset] [(.int (1 : Int32))]))
  have hc59 : ¬ ((1 : Int32) = (0 : Int32)) := by decide
  refine Dn.st (fun _ kk => XS.ifNo X56.here hx rfl (hb hby d10_59) rfl ((if0 _ _).trans (feq hc59).1) (XS.iconst X56.here hx rfl (hb hby d10_62) (XS.goto X56.here hx rfl (pc0 := 63) (pc' := 67) rfl (hb hby d10_63) (by decide) (by decide) (XS.istore X56.here hx rfl (hb hby d10_67) rfl (l' := #[.val (.ref a), .val (.ref ar), .val (.ref lv), .val (.int fi), .val (.int cn), .val (.double dt), .second, .val (.ref sh), .val (.int (1 : Int32)), .unset, .unset]) rfl (XS.iload X56.here hx rfl (hb hby d10_69) rfl  (XS.iconst X56.here hx rfl (hb hby d10_71) (kk))))))) ?_
  show Dn p e below s _ _ _ (T56.setTop (mkF m 72 #[.val (.ref a), .val (.ref ar), .val (.ref lv), .val (.int fi), .val (.int cn), .val (.double dt), .second, .val (.ref sh), .val (.int (1 : Int32)), .unset, .unset] [(.int (1 : Int32)), (.int cn)]))
  by_cases hc72 : cn < (1 : Int32)
  · have hi72 : cn.toInt < 1 := Int32.lt_iff_toInt_lt.mp hc72
    exfalso
    omega
  · have hi72 : ¬ cn.toInt < 1 := fun qq => hc72 (Int32.lt_iff_toInt_lt.mpr qq)
    refine Dn.st (fun _ kk => XS.icmpNo X56.here hx rfl (hb hby d10_72) rfl (flt hc72).1 (XS.dload X56.here hx rfl (hb hby d10_75) rfl  (XS.dconst0 X56.here hx rfl (hb hby d10_77) rfl (XS.dcmpS X56.here hx rfl (hb hby d10_78) rfl (DS.cmpV ddt dc_0 _) (kk))))) ?_
    show Dn p e below s _ _ _ (T56.setTop (mkF m 79 #[.val (.ref a), .val (.ref ar), .val (.ref lv), .val (.int fi), .val (.int cn), .val (.double dt), .second, .val (.ref sh), .val (.int (1 : Int32)), .unset, .unset] [(.int (c3 it 0))]))
    have hc79 : (0 : Int32) < (c3 it 0) := (c3_gt _ _).mpr (by omega)
    refine Dn.st (fun _ kk => XS.ifNo X56.here hx rfl (hb hby d10_79) rfl ((if0 _ _).trans (tlt hc79).2.2.2) (XS.iload X56.here hx rfl (hb hby d10_82) rfl  (kk))) ?_
    show Dn p e below s _ _ _ (T56.setTop (mkF m 84 #[.val (.ref a), .val (.ref ar), .val (.ref lv), .val (.int fi), .val (.int cn), .val (.double dt), .second, .val (.ref sh), .val (.int (1 : Int32)), .unset, .unset] [(.int (1 : Int32))]))
    have hc84 : ¬ ((1 : Int32) = (0 : Int32)) := by decide
    refine Dn.st (fun _ kk => XS.ifYes X56.here hx rfl (pc0 := 84) (pc' := 112) rfl (hb hby d10_84) rfl ((if0 _ _).trans (feq hc84).2) (by decide) (by decide) (XS.aloadN X56.here hx rfl (hb hby d10_112) rfl rfl (XS.aloadN X56.here hx rfl (hb hby d10_113) rfl rfl (kk)))) ?_
    show Dn p e below s _ _ _ (T56.setTop (mkF m 114 #[.val (.ref a), .val (.ref ar), .val (.ref lv), .val (.int fi), .val (.int cn), .val (.double dt), .second, .val (.ref sh), .val (.int (1 : Int32)), .unset, .unset] [(.ref ar), (.ref a)]))
    obtain ⟨T114, h114, X114, e114, W114, st114⟩ := putF X56 hx hZ hown (host := "") (Or.inl (hw _ (List.mem_of_getElem? (i := 96) rfl))) Via.refl hh56 F_reflectivity Ea (Or.inr ⟨(hw _ (List.mem_of_getElem? (i := 97) rfl)), rfl, hnm⟩) (hw _ (List.mem_of_getElem? (i := 9) rfl)) (ty := (.array .double)) (by decide) rfl rfl (g := (mkF m 114 #[.val (.ref a), .val (.ref ar), .val (.ref lv), .val (.int fi), .val (.int cn), .val (.double dt), .second, .val (.ref sh), .val (.int (1 : Int32)), .unset, .unset] [(.ref ar), (.ref a)])) rfl rfl (hb hby d10_114)
    have E_a_114 := Ea.wr W114
    have F_a_levels_114 := F_levels.other W114 (Or.inr (slot_ne (Or.inr (hw _ (List.mem_of_getElem? (i := 99) rfl))) (Or.inr (hw _ (List.mem_of_getElem? (i := 97) rfl))) (by decide) (t := (.object "java/util/Optional")) (t' := (.array .double)) (by decide) (by decide)))
    have F_a_first_114 := F_first.other W114 (Or.inr (slot_ne (Or.inr (hw _ (List.mem_of_getElem? (i := 101) rfl))) (Or.inr (hw _ (List.mem_of_getElem? (i := 97) rfl))) (by decide) (t := .int) (t' := (.array .double)) (by decide) (by decide)))
    have F_a_count_114 := F_count.other W114 (Or.inr (slot_ne (Or.inr (hw _ (List.mem_of_getElem? (i := 103) rfl))) (Or.inr (hw _ (List.mem_of_getElem? (i := 97) rfl))) (by decide) (t := .int) (t' := (.array .double)) (by decide) (by decide)))
    have F_a_intervalMs_114 := F_intervalMs.other W114 (Or.inr (slot_ne (Or.inr (hw _ (List.mem_of_getElem? (i := 105) rfl))) (Or.inr (hw _ (List.mem_of_getElem? (i := 97) rfl))) (by decide) (t := .double) (t' := (.array .double)) (by decide) (by decide)))
    have F_a_shift_114 := F_shift.other W114 (Or.inr (slot_ne (Or.inr (hw _ (List.mem_of_getElem? (i := 107) rfl))) (Or.inr (hw _ (List.mem_of_getElem? (i := 97) rfl))) (by decide) (t := (.object "java/util/Optional")) (t' := (.array .double)) (by decide) (by decide)))
    have F_a_lowest_114 := F_lowest.other W114 (Or.inr (slot_ne (Or.inr (hw _ (List.mem_of_getElem? (i := 109) rfl))) (Or.inr (hw _ (List.mem_of_getElem? (i := 97) rfl))) (by decide) (t := .int) (t' := (.array .double)) (by decide) (by decide)))
    have F_a_highest_114 := F_highest.other W114 (Or.inr (slot_ne (Or.inr (hw _ (List.mem_of_getElem? (i := 111) rfl))) (Or.inr (hw _ (List.mem_of_getElem? (i := 97) rfl))) (by decide) (t := .int) (t' := (.array .double)) (by decide) (by decide)))
    have V_ar_114 := Va.other W114 ne_ar
    have E_sh_114 := Eh.wr W114
    have F_sh_value_114 := Fh.other W114 (Or.inl ne_sh)
    have E_sp_114 := Ep.wr W114
    have F_sp_meanMs_114 := Fm.other W114 (Or.inl ne_sp)
    have F_sp_sdMs_114 := Fs.other W114 (Or.inl ne_sp)
    have F_a_reflectivity_114 := F_reflectivity.same W114
    have K114 := (Keep.refl h0 [a]).wr W114 (Or.inl (List.mem_of_getElem? (i := 0) rfl))
    have N114 := Fr.snoc X114 N53 ga
    have Z114 : n0 ≤ h114.size := Nat.le_trans Z0 (Keep.of_wr W114).1
    refine Dn.st st114 ?_
    show Dn p e below s _ _ _ (T114.setTop (mkF m 117 #[.val (.ref a), .val (.ref ar), .val (.ref lv), .val (.int fi), .val (.int cn), .val (.double dt), .second, .val (.ref sh), .val (.int (1 : Int32)), .unset, .unset] []))
    refine Dn.st (fun _ kk => XS.aloadN X114.here hx rfl (hb hby d10_117) rfl rfl (XS.aloadN X114.here hx rfl (hb hby d10_118) rfl rfl (kk))) ?_
    show Dn p e below s _ _ _ (T114.setTop (mkF m 119 #[.val (.ref a), .val (.ref ar), .val (.ref lv), .val (.int fi), .val (.int cn), .val (.double dt), .second, .val (.ref sh), .val (.int (1 : Int32)), .unset, .unset] [(.ref lv), (.ref a)]))
    obtain ⟨T119, h119, X119, e119, W119, st119⟩ := putF X114 hx hZ hown (host := "") (Or.inl (hw _ (List.mem_of_getElem? (i := 98) rfl))) Via.refl e114 F_a_levels_114 E_a_114 (Or.inr ⟨(hw _ (List.mem_of_getElem? (i := 99) rfl)), rfl, hnm⟩) (hw _ (List.mem_of_getElem? (i := 9) rfl)) (ty := (.object "java/util/Optional")) (by decide) rfl rfl (g := (mkF m 119 #[.val (.ref a), .val (.ref ar), .val (.ref lv), .val (.int fi), .val (.int cn), .val (.double dt), .second, .val (.ref sh), .val (.int (1 : Int32)), .unset, .unset] [(.ref lv), (.ref a)])) rfl rfl (hb hby d10_119)
    have E_a_119 := E_a_114.wr W119
    have F_a_reflectivity_119 := F_a_reflectivity_114.other W119 (Or.inr (slot_ne (Or.inr (hw _ (List.mem_of_getElem? (i := 97) rfl))) (Or.inr (hw _ (List.mem_of_getElem? (i := 99) rfl))) (by decide) (t := (.array .double)) (t' := (.object "java/util/Optional")) (by decide) (by decide)))
    have F_a_first_119 := F_a_first_114.other W119 (Or.inr (slot_ne (Or.inr (hw _ (List.mem_of_getElem? (i := 101) rfl))) (Or.inr (hw _ (List.mem_of_getElem? (i := 99) rfl))) (by decide) (t := .int) (t' := (.object "java/util/Optional")) (by decide) (by decide)))
    have F_a_count_119 := F_a_count_114.other W119 (Or.inr (slot_ne (Or.inr (hw _ (List.mem_of_getElem? (i := 103) rfl))) (Or.inr (hw _ (List.mem_of_getElem? (i := 99) rfl))) (by decide) (t := .int) (t' := (.object "java/util/Optional")) (by decide) (by decide)))
    have F_a_intervalMs_119 := F_a_intervalMs_114.other W119 (Or.inr (slot_ne (Or.inr (hw _ (List.mem_of_getElem? (i := 105) rfl))) (Or.inr (hw _ (List.mem_of_getElem? (i := 99) rfl))) (by decide) (t := .double) (t' := (.object "java/util/Optional")) (by decide) (by decide)))
    have F_a_shift_119 := F_a_shift_114.other W119 (Or.inr (slot_ne (Or.inr (hw _ (List.mem_of_getElem? (i := 107) rfl))) (Or.inr (hw _ (List.mem_of_getElem? (i := 99) rfl))) (by decide) (t := (.object "java/util/Optional")) (t' := (.object "java/util/Optional")) (by decide) (by decide)))
    have F_a_lowest_119 := F_a_lowest_114.other W119 (Or.inr (slot_ne (Or.inr (hw _ (List.mem_of_getElem? (i := 109) rfl))) (Or.inr (hw _ (List.mem_of_getElem? (i := 99) rfl))) (by decide) (t := .int) (t' := (.object "java/util/Optional")) (by decide) (by decide)))
    have F_a_highest_119 := F_a_highest_114.other W119 (Or.inr (slot_ne (Or.inr (hw _ (List.mem_of_getElem? (i := 111) rfl))) (Or.inr (hw _ (List.mem_of_getElem? (i := 99) rfl))) (by decide) (t := .int) (t' := (.object "java/util/Optional")) (by decide) (by decide)))
    have V_ar_119 := V_ar_114.other W119 ne_ar
    have E_sh_119 := E_sh_114.wr W119
    have F_sh_value_119 := F_sh_value_114.other W119 (Or.inl ne_sh)
    have E_sp_119 := E_sp_114.wr W119
    have F_sp_meanMs_119 := F_sp_meanMs_114.other W119 (Or.inl ne_sp)
    have F_sp_sdMs_119 := F_sp_sdMs_114.other W119 (Or.inl ne_sp)
    have F_a_levels_119 := F_a_levels_114.same W119
    have K119 := K114.wr W119 (Or.inl (List.mem_of_getElem? (i := 0) rfl))
    have N119 := Fr.snoc X119 N114 ga
    have Z119 : n0 ≤ h119.size := Nat.le_trans Z114 (Keep.of_wr W119).1
    refine Dn.st st119 ?_
    show Dn p e below s _ _ _ (T119.setTop (mkF m 122 #[.val (.ref a), .val (.ref ar), .val (.ref lv), .val (.int fi), .val (.int cn), .val (.double dt), .second, .val (.ref sh), .val (.int (1 : Int32)), .unset, .unset] []))
    refine Dn.st (fun _ kk => XS.aloadN X119.here hx rfl (hb hby d10_122) rfl rfl (XS.iloadN X119.here hx rfl (hb hby d10_123) rfl  (kk))) ?_
    show Dn p e below s _ _ _ (T119.setTop (mkF m 124 #[.val (.ref a), .val (.ref ar), .val (.ref lv), .val (.int fi), .val (.int cn), .val (.double dt), .second, .val (.ref sh), .val (.int (1 : Int32)), .unset, .unset] [(.int fi), (.ref a)]))
    obtain ⟨T124, h124, X124, e124, W124, st124⟩ := putF X119 hx hZ hown (host := "") (Or.inl (hw _ (List.mem_of_getElem? (i := 100) rfl))) Via.refl e119 F_a_first_119 E_a_119 (Or.inr ⟨(hw _ (List.mem_of_getElem? (i := 101) rfl)), rfl, hnm⟩) (hw _ (List.mem_of_getElem? (i := 9) rfl)) (ty := .int) (by decide) rfl rfl (g := (mkF m 124 #[.val (.ref a), .val (.ref ar), .val (.ref lv), .val (.int fi), .val (.int cn), .val (.double dt), .second, .val (.ref sh), .val (.int (1 : Int32)), .unset, .unset] [(.int fi), (.ref a)])) rfl rfl (hb hby d10_124)
    have E_a_124 := E_a_119.wr W124
    have F_a_reflectivity_124 := F_a_reflectivity_119.other W124 (Or.inr (slot_ne (Or.inr (hw _ (List.mem_of_getElem? (i := 97) rfl))) (Or.inr (hw _ (List.mem_of_getElem? (i := 101) rfl))) (by decide) (t := (.array .double)) (t' := .int) (by decide) (by decide)))
    have F_a_levels_124 := F_a_levels_119.other W124 (Or.inr (slot_ne (Or.inr (hw _ (List.mem_of_getElem? (i := 99) rfl))) (Or.inr (hw _ (List.mem_of_getElem? (i := 101) rfl))) (by decide) (t := (.object "java/util/Optional")) (t' := .int) (by decide) (by decide)))
    have F_a_count_124 := F_a_count_119.other W124 (Or.inr (slot_ne (Or.inr (hw _ (List.mem_of_getElem? (i := 103) rfl))) (Or.inr (hw _ (List.mem_of_getElem? (i := 101) rfl))) (by decide) (t := .int) (t' := .int) (by decide) (by decide)))
    have F_a_intervalMs_124 := F_a_intervalMs_119.other W124 (Or.inr (slot_ne (Or.inr (hw _ (List.mem_of_getElem? (i := 105) rfl))) (Or.inr (hw _ (List.mem_of_getElem? (i := 101) rfl))) (by decide) (t := .double) (t' := .int) (by decide) (by decide)))
    have F_a_shift_124 := F_a_shift_119.other W124 (Or.inr (slot_ne (Or.inr (hw _ (List.mem_of_getElem? (i := 107) rfl))) (Or.inr (hw _ (List.mem_of_getElem? (i := 101) rfl))) (by decide) (t := (.object "java/util/Optional")) (t' := .int) (by decide) (by decide)))
    have F_a_lowest_124 := F_a_lowest_119.other W124 (Or.inr (slot_ne (Or.inr (hw _ (List.mem_of_getElem? (i := 109) rfl))) (Or.inr (hw _ (List.mem_of_getElem? (i := 101) rfl))) (by decide) (t := .int) (t' := .int) (by decide) (by decide)))
    have F_a_highest_124 := F_a_highest_119.other W124 (Or.inr (slot_ne (Or.inr (hw _ (List.mem_of_getElem? (i := 111) rfl))) (Or.inr (hw _ (List.mem_of_getElem? (i := 101) rfl))) (by decide) (t := .int) (t' := .int) (by decide) (by decide)))
    have V_ar_124 := V_ar_119.other W124 ne_ar
    have E_sh_124 := E_sh_119.wr W124
    have F_sh_value_124 := F_sh_value_119.other W124 (Or.inl ne_sh)
    have E_sp_124 := E_sp_119.wr W124
    have F_sp_meanMs_124 := F_sp_meanMs_119.other W124 (Or.inl ne_sp)
    have F_sp_sdMs_124 := F_sp_sdMs_119.other W124 (Or.inl ne_sp)
    have F_a_first_124 := F_a_first_119.same W124
    have K124 := K119.wr W124 (Or.inl (List.mem_of_getElem? (i := 0) rfl))
    have N124 := Fr.snoc X124 N119 ga
    have Z124 : n0 ≤ h124.size := Nat.le_trans Z119 (Keep.of_wr W124).1
    refine Dn.st st124 ?_
    show Dn p e below s _ _ _ (T124.setTop (mkF m 127 #[.val (.ref a), .val (.ref ar), .val (.ref lv), .val (.int fi), .val (.int cn), .val (.double dt), .second, .val (.ref sh), .val (.int (1 : Int32)), .unset, .unset] []))
    refine Dn.st (fun _ kk => XS.aloadN X124.here hx rfl (hb hby d10_127) rfl rfl (XS.iload X124.here hx rfl (hb hby d10_128) rfl  (kk))) ?_
    show Dn p e below s _ _ _ (T124.setTop (mkF m 130 #[.val (.ref a), .val (.ref ar), .val (.ref lv), .val (.int fi), .val (.int cn), .val (.double dt), .second, .val (.ref sh), .val (.int (1 : Int32)), .unset, .unset] [(.int cn), (.ref a)]))
    obtain ⟨T130, h130, X130, e130, W130, st130⟩ := putF X124 hx hZ hown (host := "") (Or.inl (hw _ (List.mem_of_getElem? (i := 102) rfl))) Via.refl e124 F_a_count_124 E_a_124 (Or.inr ⟨(hw _ (List.mem_of_getElem? (i := 103) rfl)), rfl, hnm⟩) (hw _ (List.mem_of_getElem? (i := 9) rfl)) (ty := .int) (by decide) rfl rfl (g := (mkF m 130 #[.val (.ref a), .val (.ref ar), .val (.ref lv), .val (.int fi), .val (.int cn), .val (.double dt), .second, .val (.ref sh), .val (.int (1 : Int32)), .unset, .unset] [(.int cn), (.ref a)])) rfl rfl (hb hby d10_130)
    have E_a_130 := E_a_124.wr W130
    have F_a_reflectivity_130 := F_a_reflectivity_124.other W130 (Or.inr (slot_ne (Or.inr (hw _ (List.mem_of_getElem? (i := 97) rfl))) (Or.inr (hw _ (List.mem_of_getElem? (i := 103) rfl))) (by decide) (t := (.array .double)) (t' := .int) (by decide) (by decide)))
    have F_a_levels_130 := F_a_levels_124.other W130 (Or.inr (slot_ne (Or.inr (hw _ (List.mem_of_getElem? (i := 99) rfl))) (Or.inr (hw _ (List.mem_of_getElem? (i := 103) rfl))) (by decide) (t := (.object "java/util/Optional")) (t' := .int) (by decide) (by decide)))
    have F_a_first_130 := F_a_first_124.other W130 (Or.inr (slot_ne (Or.inr (hw _ (List.mem_of_getElem? (i := 101) rfl))) (Or.inr (hw _ (List.mem_of_getElem? (i := 103) rfl))) (by decide) (t := .int) (t' := .int) (by decide) (by decide)))
    have F_a_intervalMs_130 := F_a_intervalMs_124.other W130 (Or.inr (slot_ne (Or.inr (hw _ (List.mem_of_getElem? (i := 105) rfl))) (Or.inr (hw _ (List.mem_of_getElem? (i := 103) rfl))) (by decide) (t := .double) (t' := .int) (by decide) (by decide)))
    have F_a_shift_130 := F_a_shift_124.other W130 (Or.inr (slot_ne (Or.inr (hw _ (List.mem_of_getElem? (i := 107) rfl))) (Or.inr (hw _ (List.mem_of_getElem? (i := 103) rfl))) (by decide) (t := (.object "java/util/Optional")) (t' := .int) (by decide) (by decide)))
    have F_a_lowest_130 := F_a_lowest_124.other W130 (Or.inr (slot_ne (Or.inr (hw _ (List.mem_of_getElem? (i := 109) rfl))) (Or.inr (hw _ (List.mem_of_getElem? (i := 103) rfl))) (by decide) (t := .int) (t' := .int) (by decide) (by decide)))
    have F_a_highest_130 := F_a_highest_124.other W130 (Or.inr (slot_ne (Or.inr (hw _ (List.mem_of_getElem? (i := 111) rfl))) (Or.inr (hw _ (List.mem_of_getElem? (i := 103) rfl))) (by decide) (t := .int) (t' := .int) (by decide) (by decide)))
    have V_ar_130 := V_ar_124.other W130 ne_ar
    have E_sh_130 := E_sh_124.wr W130
    have F_sh_value_130 := F_sh_value_124.other W130 (Or.inl ne_sh)
    have E_sp_130 := E_sp_124.wr W130
    have F_sp_meanMs_130 := F_sp_meanMs_124.other W130 (Or.inl ne_sp)
    have F_sp_sdMs_130 := F_sp_sdMs_124.other W130 (Or.inl ne_sp)
    have F_a_count_130 := F_a_count_124.same W130
    have K130 := K124.wr W130 (Or.inl (List.mem_of_getElem? (i := 0) rfl))
    have N130 := Fr.snoc X130 N124 ga
    have Z130 : n0 ≤ h130.size := Nat.le_trans Z124 (Keep.of_wr W130).1
    refine Dn.st st130 ?_
    show Dn p e below s _ _ _ (T130.setTop (mkF m 133 #[.val (.ref a), .val (.ref ar), .val (.ref lv), .val (.int fi), .val (.int cn), .val (.double dt), .second, .val (.ref sh), .val (.int (1 : Int32)), .unset, .unset] []))
    refine Dn.st (fun _ kk => XS.aloadN X130.here hx rfl (hb hby d10_133) rfl rfl (XS.dload X130.here hx rfl (hb hby d10_134) rfl  (kk))) ?_
    show Dn p e below s _ _ _ (T130.setTop (mkF m 136 #[.val (.ref a), .val (.ref ar), .val (.ref lv), .val (.int fi), .val (.int cn), .val (.double dt), .second, .val (.ref sh), .val (.int (1 : Int32)), .unset, .unset] [(.double dt), (.ref a)]))
    obtain ⟨T136, h136, X136, e136, W136, st136⟩ := putF X130 hx hZ hown (host := "") (Or.inl (hw _ (List.mem_of_getElem? (i := 104) rfl))) Via.refl e130 F_a_intervalMs_130 E_a_130 (Or.inr ⟨(hw _ (List.mem_of_getElem? (i := 105) rfl)), rfl, hnm⟩) (hw _ (List.mem_of_getElem? (i := 9) rfl)) (ty := .double) (by decide) rfl rfl (g := (mkF m 136 #[.val (.ref a), .val (.ref ar), .val (.ref lv), .val (.int fi), .val (.int cn), .val (.double dt), .second, .val (.ref sh), .val (.int (1 : Int32)), .unset, .unset] [(.double dt), (.ref a)])) rfl rfl (hb hby d10_136)
    have E_a_136 := E_a_130.wr W136
    have F_a_reflectivity_136 := F_a_reflectivity_130.other W136 (Or.inr (slot_ne (Or.inr (hw _ (List.mem_of_getElem? (i := 97) rfl))) (Or.inr (hw _ (List.mem_of_getElem? (i := 105) rfl))) (by decide) (t := (.array .double)) (t' := .double) (by decide) (by decide)))
    have F_a_levels_136 := F_a_levels_130.other W136 (Or.inr (slot_ne (Or.inr (hw _ (List.mem_of_getElem? (i := 99) rfl))) (Or.inr (hw _ (List.mem_of_getElem? (i := 105) rfl))) (by decide) (t := (.object "java/util/Optional")) (t' := .double) (by decide) (by decide)))
    have F_a_first_136 := F_a_first_130.other W136 (Or.inr (slot_ne (Or.inr (hw _ (List.mem_of_getElem? (i := 101) rfl))) (Or.inr (hw _ (List.mem_of_getElem? (i := 105) rfl))) (by decide) (t := .int) (t' := .double) (by decide) (by decide)))
    have F_a_count_136 := F_a_count_130.other W136 (Or.inr (slot_ne (Or.inr (hw _ (List.mem_of_getElem? (i := 103) rfl))) (Or.inr (hw _ (List.mem_of_getElem? (i := 105) rfl))) (by decide) (t := .int) (t' := .double) (by decide) (by decide)))
    have F_a_shift_136 := F_a_shift_130.other W136 (Or.inr (slot_ne (Or.inr (hw _ (List.mem_of_getElem? (i := 107) rfl))) (Or.inr (hw _ (List.mem_of_getElem? (i := 105) rfl))) (by decide) (t := (.object "java/util/Optional")) (t' := .double) (by decide) (by decide)))
    have F_a_lowest_136 := F_a_lowest_130.other W136 (Or.inr (slot_ne (Or.inr (hw _ (List.mem_of_getElem? (i := 109) rfl))) (Or.inr (hw _ (List.mem_of_getElem? (i := 105) rfl))) (by decide) (t := .int) (t' := .double) (by decide) (by decide)))
    have F_a_highest_136 := F_a_highest_130.other W136 (Or.inr (slot_ne (Or.inr (hw _ (List.mem_of_getElem? (i := 111) rfl))) (Or.inr (hw _ (List.mem_of_getElem? (i := 105) rfl))) (by decide) (t := .int) (t' := .double) (by decide) (by decide)))
    have V_ar_136 := V_ar_130.other W136 ne_ar
    have E_sh_136 := E_sh_130.wr W136
    have F_sh_value_136 := F_sh_value_130.other W136 (Or.inl ne_sh)
    have E_sp_136 := E_sp_130.wr W136
    have F_sp_meanMs_136 := F_sp_meanMs_130.other W136 (Or.inl ne_sp)
    have F_sp_sdMs_136 := F_sp_sdMs_130.other W136 (Or.inl ne_sp)
    have F_a_intervalMs_136 := F_a_intervalMs_130.same W136
    have K136 := K130.wr W136 (Or.inl (List.mem_of_getElem? (i := 0) rfl))
    have N136 := Fr.snoc X136 N130 ga
    have Z136 : n0 ≤ h136.size := Nat.le_trans Z130 (Keep.of_wr W136).1
    refine Dn.st st136 ?_
    show Dn p e below s _ _ _ (T136.setTop (mkF m 139 #[.val (.ref a), .val (.ref ar), .val (.ref lv), .val (.int fi), .val (.int cn), .val (.double dt), .second, .val (.ref sh), .val (.int (1 : Int32)), .unset, .unset] []))
    refine Dn.st (fun _ kk => XS.aloadN X136.here hx rfl (hb hby d10_139) rfl rfl (XS.aload X136.here hx rfl (hb hby d10_140) rfl rfl (kk))) ?_
    show Dn p e below s _ _ _ (T136.setTop (mkF m 142 #[.val (.ref a), .val (.ref ar), .val (.ref lv), .val (.int fi), .val (.int cn), .val (.double dt), .second, .val (.ref sh), .val (.int (1 : Int32)), .unset, .unset] [(.ref sh), (.ref a)]))
    obtain ⟨T142, h142, X142, e142, W142, st142⟩ := putF X136 hx hZ hown (host := "") (Or.inl (hw _ (List.mem_of_getElem? (i := 106) rfl))) Via.refl e136 F_a_shift_136 E_a_136 (Or.inr ⟨(hw _ (List.mem_of_getElem? (i := 107) rfl)), rfl, hnm⟩) (hw _ (List.mem_of_getElem? (i := 9) rfl)) (ty := (.object "java/util/Optional")) (by decide) rfl rfl (g := (mkF m 142 #[.val (.ref a), .val (.ref ar), .val (.ref lv), .val (.int fi), .val (.int cn), .val (.double dt), .second, .val (.ref sh), .val (.int (1 : Int32)), .unset, .unset] [(.ref sh), (.ref a)])) rfl rfl (hb hby d10_142)
    have E_a_142 := E_a_136.wr W142
    have F_a_reflectivity_142 := F_a_reflectivity_136.other W142 (Or.inr (slot_ne (Or.inr (hw _ (List.mem_of_getElem? (i := 97) rfl))) (Or.inr (hw _ (List.mem_of_getElem? (i := 107) rfl))) (by decide) (t := (.array .double)) (t' := (.object "java/util/Optional")) (by decide) (by decide)))
    have F_a_levels_142 := F_a_levels_136.other W142 (Or.inr (slot_ne (Or.inr (hw _ (List.mem_of_getElem? (i := 99) rfl))) (Or.inr (hw _ (List.mem_of_getElem? (i := 107) rfl))) (by decide) (t := (.object "java/util/Optional")) (t' := (.object "java/util/Optional")) (by decide) (by decide)))
    have F_a_first_142 := F_a_first_136.other W142 (Or.inr (slot_ne (Or.inr (hw _ (List.mem_of_getElem? (i := 101) rfl))) (Or.inr (hw _ (List.mem_of_getElem? (i := 107) rfl))) (by decide) (t := .int) (t' := (.object "java/util/Optional")) (by decide) (by decide)))
    have F_a_count_142 := F_a_count_136.other W142 (Or.inr (slot_ne (Or.inr (hw _ (List.mem_of_getElem? (i := 103) rfl))) (Or.inr (hw _ (List.mem_of_getElem? (i := 107) rfl))) (by decide) (t := .int) (t' := (.object "java/util/Optional")) (by decide) (by decide)))
    have F_a_intervalMs_142 := F_a_intervalMs_136.other W142 (Or.inr (slot_ne (Or.inr (hw _ (List.mem_of_getElem? (i := 105) rfl))) (Or.inr (hw _ (List.mem_of_getElem? (i := 107) rfl))) (by decide) (t := .double) (t' := (.object "java/util/Optional")) (by decide) (by decide)))
    have F_a_lowest_142 := F_a_lowest_136.other W142 (Or.inr (slot_ne (Or.inr (hw _ (List.mem_of_getElem? (i := 109) rfl))) (Or.inr (hw _ (List.mem_of_getElem? (i := 107) rfl))) (by decide) (t := .int) (t' := (.object "java/util/Optional")) (by decide) (by decide)))
    have F_a_highest_142 := F_a_highest_136.other W142 (Or.inr (slot_ne (Or.inr (hw _ (List.mem_of_getElem? (i := 111) rfl))) (Or.inr (hw _ (List.mem_of_getElem? (i := 107) rfl))) (by decide) (t := .int) (t' := (.object "java/util/Optional")) (by decide) (by decide)))
    have V_ar_142 := V_ar_136.other W142 ne_ar
    have E_sh_142 := E_sh_136.wr W142
    have F_sh_value_142 := F_sh_value_136.other W142 (Or.inl ne_sh)
    have E_sp_142 := E_sp_136.wr W142
    have F_sp_meanMs_142 := F_sp_meanMs_136.other W142 (Or.inl ne_sp)
    have F_sp_sdMs_142 := F_sp_sdMs_136.other W142 (Or.inl ne_sp)
    have F_a_shift_142 := F_a_shift_136.same W142
    have K142 := K136.wr W142 (Or.inl (List.mem_of_getElem? (i := 0) rfl))
    have N142 := Fr.snoc X142 N136 ga
    have Z142 : n0 ≤ h142.size := Nat.le_trans Z136 (Keep.of_wr W142).1
    refine Dn.st st142 ?_
    show Dn p e below s _ _ _ (T142.setTop (mkF m 145 #[.val (.ref a), .val (.ref ar), .val (.ref lv), .val (.int fi), .val (.int cn), .val (.double dt), .second, .val (.ref sh), .val (.int (1 : Int32)), .unset, .unset] []))
    refine Dn.st (fun _ kk => XS.iconst X142.here hx rfl (hb hby d10_145) (XS.istore X142.here hx rfl (hb hby d10_146) rfl (l' := #[.val (.ref a), .val (.ref ar), .val (.ref lv), .val (.int fi), .val (.int cn), .val (.double dt), .second, .val (.ref sh), .val (.int (1 : Int32)), .val (.int (0 : Int32)), .unset]) rfl (XS.iload X142.here hx rfl (hb hby d10_148) rfl  (XS.aloadN X142.here hx rfl (hb hby d10_150) rfl rfl (kk))))) ?_
    show Dn p e below s _ _ _ (T142.setTop (mkF m 151 #[.val (.ref a), .val (.ref ar), .val (.ref lv), .val (.int fi), .val (.int cn), .val (.double dt), .second, .val (.ref sh), .val (.int (1 : Int32)), .val (.int (0 : Int32)), .unset] [(.ref ar), (.int (0 : Int32))]))
    have Vc_ar_151 := V_ar_142
    obtain ⟨cl_ar_151, Ar_ar_151, q_ar_151, S_ar_151, N_ar_151, H_ar_151, G_ar_151⟩ := Vc_ar_151
    refine Dn.st (fun _ kk => X142.arraylength hx (by rw [e142]; exact Ar_ar_151.1) (State.isArrayOf_alike hZ.alike Ar_ar_151.2.1) (g := (mkF m 151 #[.val (.ref a), .val (.ref ar), .val (.ref lv), .val (.int fi), .val (.int cn), .val (.double dt), .second, .val (.ref sh), .val (.int (1 : Int32)), .val (.int (0 : Int32)), .unset] [(.ref ar), (.int (0 : Int32))])) rfl rfl (hb hby d10_151) _ (kk)) ?_
    show Dn p e below s _ _ _ (T142.setTop (mkF m 152 #[.val (.ref a), .val (.ref ar), .val (.ref lv), .val (.int fi), .val (.int cn), .val (.double dt), .second, .val (.ref sh), .val (.int (1 : Int32)), .val (.int (0 : Int32)), .unset] [(.int cl_ar_151.slots.size.toInt32), (.int (0 : Int32))]))
    rw [len_of S_ar_151 N_ar_151]
    show Dn p e below s _ _ _ (T142.setTop (mkF m 152 #[.val (.ref a), .val (.ref ar), .val (.ref lv), .val (.int fi), .val (.int cn), .val (.double dt), .second, .val (.ref sh), .val (.int (1 : Int32)), .val (.int (0 : Int32)), .unset] [(.int (5 : Int32)), (.int (0 : Int32))]))
    have hc152 : (0 : Int32) < (5 : Int32) := by decide
    refine Dn.st (fun _ kk => XS.icmpNo X142.here hx rfl (hb hby d10_152) rfl (tlt hc152).2.1 (XS.aloadN X142.here hx rfl (hb hby d10_155) rfl rfl (XS.iload X142.here hx rfl (hb hby d10_156) rfl  (kk)))) ?_
    show Dn p e below s _ _ _ (T142.setTop (mkF m 158 #[.val (.ref a), .val (.ref ar), .val (.ref lv), .val (.int fi), .val (.int cn), .val (.double dt), .second, .val (.ref sh), .val (.int (1 : Int32)), .val (.int (0 : Int32)), .unset] [(.int (0 : Int32)), (.ref ar)]))
    have Vc_ar_158 := V_ar_142
    obtain ⟨cl_ar_158, Ar_ar_158, q_ar_158, S_ar_158, N_ar_158, H_ar_158, G_ar_158⟩ := Vc_ar_158
    have hin158 : ¬ ((0 : Int32) < 0 ∨ cl_ar_158.slots.size ≤ ((0 : Int32)).toNatClampNeg) := inb_of S_ar_158 ⟨by decide, by decide⟩
    have hat158 : cl_ar_158.slots[((0 : Int32)).toNatClampNeg]? = some (.double z0) := H_ar_158.at hin158 rfl
    refine Dn.st (fun _ kk => X142.daload hx (j := (0 : Int32)) (v := (.double z0)) (by rw [e142]; exact Ar_ar_158.1) (State.isArrayOf_alike hZ.alike Ar_ar_158.2.1) Ar_ar_158.2.2 hin158 hat158 (g := (mkF m 158 #[.val (.ref a), .val (.ref ar), .val (.ref lv), .val (.int fi), .val (.int cn), .val (.double dt), .second, .val (.ref sh), .val (.int (1 : Int32)), .val (.int (0 : Int32)), .unset] [(.int (0 : Int32)), (.ref ar)])) rfl rfl (hb hby d10_158) _ (XS.dconst0 X142.here hx rfl (hb hby d10_159) rfl (XS.dcmpS X142.here hx rfl (hb hby d10_160) rfl (DS.cmpV d_z0 dc_0 _) (kk)))) ?_
    show Dn p e below s _ _ _ (T142.setTop (mkF m 161 #[.val (.ref a), .val (.ref ar), .val (.ref lv), .val (.int fi), .val (.int cn), .val (.double dt), .second, .val (.ref sh), .val (.int (1 : Int32)), .val (.int (0 : Int32)), .unset] [(.int (c3 i0 0))]))
    by_cases hc161 : (c3 i0 0) = (0 : Int32)
    · have hi161 := (c3_eq _ _).mp hc161
      refine Dn.st (fun _ kk => XS.ifNo X142.here hx rfl (hb hby d10_161) rfl ((if0 _ _).trans (teq hc161).2) (XS.iinc X142.here hx rfl (hb hby d10_164) rfl (l' := #[.val (.ref a), .val (.ref ar), .val (.ref lv), .val (.int fi), .val (.int cn), .val (.double dt), .second, .val (.ref sh), .val (.int (1 : Int32)), .val (.int (1 : Int32)), .unset]) rfl (XS.goto X142.here hx rfl (pc0 := 167) (pc' := 148) rfl (hb hby d10_167) (by decide) (by decide) (XS.iload X142.here hx rfl (hb hby d10_148) rfl  (XS.aloadN X142.here hx rfl (hb hby d10_150) rfl rfl (kk)))))) ?_
      show Dn p e below s _ _ _ (T142.setTop (mkF m 151 #[.val (.ref a), .val (.ref ar), .val (.ref lv), .val (.int fi), .val (.int cn), .val (.double dt), .second, .val (.ref sh), .val (.int (1 : Int32)), .val (.int (1 : Int32)), .unset] [(.ref ar), (.int (1 : Int32))]))
      have Vc_ar_151_2 := V_ar_142
      obtain ⟨cl_ar_151_2, Ar_ar_151_2, q_ar_151_2, S_ar_151_2, N_ar_151_2, H_ar_151_2, G_ar_151_2⟩ := Vc_ar_151_2
      refine Dn.st (fun _ kk => X142.arraylength hx (by rw [e142]; exact Ar_ar_151_2.1) (State.isArrayOf_alike hZ.alike Ar_ar_151_2.2.1) (g := (mkF m 151 #[.val (.ref a), .val (.ref ar), .val (.ref lv), .val (.int fi), .val (.int cn), .val (.double dt), .second, .val (.ref sh), .val (.int (1 : Int32)), .val (.int (1 : Int32)), .unset] [(.ref ar), (.int (1 : Int32))])) rfl rfl (hb hby d10_151) _ (kk)) ?_
      show Dn p e below s _ _ _ (T142.setTop (mkF m 152 #[.val (.ref a), .val (.ref ar), .val (.ref lv), .val (.int fi), .val (.int cn), .val (.double dt), .second, .val (.ref sh), .val (.int (1 : Int32)), .val (.int (1 : Int32)), .unset] [(.int cl_ar_151_2.slots.size.toInt32), (.int (1 : Int32))]))
      rw [len_of S_ar_151_2 N_ar_151_2]
      show Dn p e below s _ _ _ (T142.setTop (mkF m 152 #[.val (.ref a), .val (.ref ar), .val (.ref lv), .val (.int fi), .val (.int cn), .val (.double dt), .second, .val (.ref sh), .val (.int (1 : Int32)), .val (.int (1 : Int32)), .unset] [(.int (5 : Int32)), (.int (1 : Int32))]))
      have hc152_2 : (1 : Int32) < (5 : Int32) := by decide
      refine Dn.st (fun _ kk => XS.icmpNo X142.here hx rfl (hb hby d10_152) rfl (tlt hc152_2).2.1 (XS.aloadN X142.here hx rfl (hb hby d10_155) rfl rfl (XS.iload X142.here hx rfl (hb hby d10_156) rfl  (kk)))) ?_
      show Dn p e below s _ _ _ (T142.setTop (mkF m 158 #[.val (.ref a), .val (.ref ar), .val (.ref lv), .val (.int fi), .val (.int cn), .val (.double dt), .second, .val (.ref sh), .val (.int (1 : Int32)), .val (.int (1 : Int32)), .unset] [(.int (1 : Int32)), (.ref ar)]))
      have Vc_ar_158_2 := V_ar_142
      obtain ⟨cl_ar_158_2, Ar_ar_158_2, q_ar_158_2, S_ar_158_2, N_ar_158_2, H_ar_158_2, G_ar_158_2⟩ := Vc_ar_158_2
      have hin158_2 : ¬ ((1 : Int32) < 0 ∨ cl_ar_158_2.slots.size ≤ ((1 : Int32)).toNatClampNeg) := inb_of S_ar_158_2 ⟨by decide, by decide⟩
      have hat158_2 : cl_ar_158_2.slots[((1 : Int32)).toNatClampNeg]? = some (.double z1) := H_ar_158_2.at hin158_2 rfl
      refine Dn.st (fun _ kk => X142.daload hx (j := (1 : Int32)) (v := (.double z1)) (by rw [e142]; exact Ar_ar_158_2.1) (State.isArrayOf_alike hZ.alike Ar_ar_158_2.2.1) Ar_ar_158_2.2.2 hin158_2 hat158_2 (g := (mkF m 158 #[.val (.ref a), .val (.ref ar), .val (.ref lv), .val (.int fi), .val (.int cn), .val (.double dt), .second, .val (.ref sh), .val (.int (1 : Int32)), .val (.int (1 : Int32)), .unset] [(.int (1 : Int32)), (.ref ar)])) rfl rfl (hb hby d10_158) _ (XS.dconst0 X142.here hx rfl (hb hby d10_159) rfl (XS.dcmpS X142.here hx rfl (hb hby d10_160) rfl (DS.cmpV d_z1 dc_0 _) (kk)))) ?_
      show Dn p e below s _ _ _ (T142.setTop (mkF m 161 #[.val (.ref a), .val (.ref ar), .val (.ref lv), .val (.int fi), .val (.int cn), .val (.double dt), .second, .val (.ref sh), .val (.int (1 : Int32)), .val (.int (1 : Int32)), .unset] [(.int (c3 i1 0))]))
      by_cases hc161_2 : (c3 i1 0) = (0 : Int32)
      · have hi161_2 := (c3_eq _ _).mp hc161_2
        refine Dn.st (fun _ kk => XS.ifNo X142.here hx rfl (hb hby d10_161) rfl ((if0 _ _).trans (teq hc161_2).2) (XS.iinc X142.here hx rfl (hb hby d10_164) rfl (l' := #[.val (.ref a), .val (.ref ar), .val (.ref lv), .val (.int fi), .val (.int cn), .val (.double dt), .second, .val (.ref sh), .val (.int (1 : Int32)), .val (.int (2 : Int32)), .unset]) rfl (XS.goto X142.here hx rfl (pc0 := 167) (pc' := 148) rfl (hb hby d10_167) (by decide) (by decide) (XS.iload X142.here hx rfl (hb hby d10_148) rfl  (XS.aloadN X142.here hx rfl (hb hby d10_150) rfl rfl (kk)))))) ?_
        show Dn p e below s _ _ _ (T142.setTop (mkF m 151 #[.val (.ref a), .val (.ref ar), .val (.ref lv), .val (.int fi), .val (.int cn), .val (.double dt), .second, .val (.ref sh), .val (.int (1 : Int32)), .val (.int (2 : Int32)), .unset] [(.ref ar), (.int (2 : Int32))]))
        have Vc_ar_151_3 := V_ar_142
        obtain ⟨cl_ar_151_3, Ar_ar_151_3, q_ar_151_3, S_ar_151_3, N_ar_151_3, H_ar_151_3, G_ar_151_3⟩ := Vc_ar_151_3
        refine Dn.st (fun _ kk => X142.arraylength hx (by rw [e142]; exact Ar_ar_151_3.1) (State.isArrayOf_alike hZ.alike Ar_ar_151_3.2.1) (g := (mkF m 151 #[.val (.ref a), .val (.ref ar), .val (.ref lv), .val (.int fi), .val (.int cn), .val (.double dt), .second, .val (.ref sh), .val (.int (1 : Int32)), .val (.int (2 : Int32)), .unset] [(.ref ar), (.int (2 : Int32))])) rfl rfl (hb hby d10_151) _ (kk)) ?_
        show Dn p e below s _ _ _ (T142.setTop (mkF m 152 #[.val (.ref a), .val (.ref ar), .val (.ref lv), .val (.int fi), .val (.int cn), .val (.double dt), .second, .val (.ref sh), .val (.int (1 : Int32)), .val (.int (2 : Int32)), .unset] [(.int cl_ar_151_3.slots.size.toInt32), (.int (2 : Int32))]))
        rw [len_of S_ar_151_3 N_ar_151_3]
        show Dn p e below s _ _ _ (T142.setTop (mkF m 152 #[.val (.ref a), .val (.ref ar), .val (.ref lv), .val (.int fi), .val (.int cn), .val (.double dt), .second, .val (.ref sh), .val (.int (1 : Int32)), .val (.int (2 : Int32)), .unset] [(.int (5 : Int32)), (.int (2 : Int32))]))
        have hc152_3 : (2 : Int32) < (5 : Int32) := by decide
        refine Dn.st (fun _ kk => XS.icmpNo X142.here hx rfl (hb hby d10_152) rfl (tlt hc152_3).2.1 (XS.aloadN X142.here hx rfl (hb hby d10_155) rfl rfl (XS.iload X142.here hx rfl (hb hby d10_156) rfl  (kk)))) ?_
        show Dn p e below s _ _ _ (T142.setTop (mkF m 158 #[.val (.ref a), .val (.ref ar), .val (.ref lv), .val (.int fi), .val (.int cn), .val (.double dt), .second, .val (.ref sh), .val (.int (1 : Int32)), .val (.int (2 : Int32)), .unset] [(.int (2 : Int32)), (.ref ar)]))
        have Vc_ar_158_3 := V_ar_142
        obtain ⟨cl_ar_158_3, Ar_ar_158_3, q_ar_158_3, S_ar_158_3, N_ar_158_3, H_ar_158_3, G_ar_158_3⟩ := Vc_ar_158_3
        have hin158_3 : ¬ ((2 : Int32) < 0 ∨ cl_ar_158_3.slots.size ≤ ((2 : Int32)).toNatClampNeg) := inb_of S_ar_158_3 ⟨by decide, by decide⟩
        have hat158_3 : cl_ar_158_3.slots[((2 : Int32)).toNatClampNeg]? = some (.double z2) := H_ar_158_3.at hin158_3 rfl
        refine Dn.st (fun _ kk => X142.daload hx (j := (2 : Int32)) (v := (.double z2)) (by rw [e142]; exact Ar_ar_158_3.1) (State.isArrayOf_alike hZ.alike Ar_ar_158_3.2.1) Ar_ar_158_3.2.2 hin158_3 hat158_3 (g := (mkF m 158 #[.val (.ref a), .val (.ref ar), .val (.ref lv), .val (.int fi), .val (.int cn), .val (.double dt), .second, .val (.ref sh), .val (.int (1 : Int32)), .val (.int (2 : Int32)), .unset] [(.int (2 : Int32)), (.ref ar)])) rfl rfl (hb hby d10_158) _ (XS.dconst0 X142.here hx rfl (hb hby d10_159) rfl (XS.dcmpS X142.here hx rfl (hb hby d10_160) rfl (DS.cmpV d_z2 dc_0 _) (kk)))) ?_
        show Dn p e below s _ _ _ (T142.setTop (mkF m 161 #[.val (.ref a), .val (.ref ar), .val (.ref lv), .val (.int fi), .val (.int cn), .val (.double dt), .second, .val (.ref sh), .val (.int (1 : Int32)), .val (.int (2 : Int32)), .unset] [(.int (c3 i2 0))]))
        by_cases hc161_3 : (c3 i2 0) = (0 : Int32)
        · have hi161_3 := (c3_eq _ _).mp hc161_3
          refine Dn.st (fun _ kk => XS.ifNo X142.here hx rfl (hb hby d10_161) rfl ((if0 _ _).trans (teq hc161_3).2) (XS.iinc X142.here hx rfl (hb hby d10_164) rfl (l' := #[.val (.ref a), .val (.ref ar), .val (.ref lv), .val (.int fi), .val (.int cn), .val (.double dt), .second, .val (.ref sh), .val (.int (1 : Int32)), .val (.int (3 : Int32)), .unset]) rfl (XS.goto X142.here hx rfl (pc0 := 167) (pc' := 148) rfl (hb hby d10_167) (by decide) (by decide) (XS.iload X142.here hx rfl (hb hby d10_148) rfl  (XS.aloadN X142.here hx rfl (hb hby d10_150) rfl rfl (kk)))))) ?_
          show Dn p e below s _ _ _ (T142.setTop (mkF m 151 #[.val (.ref a), .val (.ref ar), .val (.ref lv), .val (.int fi), .val (.int cn), .val (.double dt), .second, .val (.ref sh), .val (.int (1 : Int32)), .val (.int (3 : Int32)), .unset] [(.ref ar), (.int (3 : Int32))]))
          have Vc_ar_151_4 := V_ar_142
          obtain ⟨cl_ar_151_4, Ar_ar_151_4, q_ar_151_4, S_ar_151_4, N_ar_151_4, H_ar_151_4, G_ar_151_4⟩ := Vc_ar_151_4
          refine Dn.st (fun _ kk => X142.arraylength hx (by rw [e142]; exact Ar_ar_151_4.1) (State.isArrayOf_alike hZ.alike Ar_ar_151_4.2.1) (g := (mkF m 151 #[.val (.ref a), .val (.ref ar), .val (.ref lv), .val (.int fi), .val (.int cn), .val (.double dt), .second, .val (.ref sh), .val (.int (1 : Int32)), .val (.int (3 : Int32)), .unset] [(.ref ar), (.int (3 : Int32))])) rfl rfl (hb hby d10_151) _ (kk)) ?_
          show Dn p e below s _ _ _ (T142.setTop (mkF m 152 #[.val (.ref a), .val (.ref ar), .val (.ref lv), .val (.int fi), .val (.int cn), .val (.double dt), .second, .val (.ref sh), .val (.int (1 : Int32)), .val (.int (3 : Int32)), .unset] [(.int cl_ar_151_4.slots.size.toInt32), (.int (3 : Int32))]))
          rw [len_of S_ar_151_4 N_ar_151_4]
          show Dn p e below s _ _ _ (T142.setTop (mkF m 152 #[.val (.ref a), .val (.ref ar), .val (.ref lv), .val (.int fi), .val (.int cn), .val (.double dt), .second, .val (.ref sh), .val (.int (1 : Int32)), .val (.int (3 : Int32)), .unset] [(.int (5 : Int32)), (.int (3 : Int32))]))
          have hc152_4 : (3 : Int32) < (5 : Int32) := by decide
          refine Dn.st (fun _ kk => XS.icmpNo X142.here hx rfl (hb hby d10_152) rfl (tlt hc152_4).2.1 (XS.aloadN X142.here hx rfl (hb hby d10_155) rfl rfl (XS.iload X142.here hx rfl (hb hby d10_156) rfl  (kk)))) ?_
          show Dn p e below s _ _ _ (T142.setTop (mkF m 158 #[.val (.ref a), .val (.ref ar), .val (.ref lv), .val (.int fi), .val (.int cn), .val (.double dt), .second, .val (.ref sh), .val (.int (1 : Int32)), .val (.int (3 : Int32)), .unset] [(.int (3 : Int32)), (.ref ar)]))
          have Vc_ar_158_4 := V_ar_142
          obtain ⟨cl_ar_158_4, Ar_ar_158_4, q_ar_158_4, S_ar_158_4, N_ar_158_4, H_ar_158_4, G_ar_158_4⟩ := Vc_ar_158_4
          have hin158_4 : ¬ ((3 : Int32) < 0 ∨ cl_ar_158_4.slots.size ≤ ((3 : Int32)).toNatClampNeg) := inb_of S_ar_158_4 ⟨by decide, by decide⟩
          have hat158_4 : cl_ar_158_4.slots[((3 : Int32)).toNatClampNeg]? = some (.double z3) := H_ar_158_4.at hin158_4 rfl
          refine Dn.st (fun _ kk => X142.daload hx (j := (3 : Int32)) (v := (.double z3)) (by rw [e142]; exact Ar_ar_158_4.1) (State.isArrayOf_alike hZ.alike Ar_ar_158_4.2.1) Ar_ar_158_4.2.2 hin158_4 hat158_4 (g := (mkF m 158 #[.val (.ref a), .val (.ref ar), .val (.ref lv), .val (.int fi), .val (.int cn), .val (.double dt), .second, .val (.ref sh), .val (.int (1 : Int32)), .val (.int (3 : Int32)), .unset] [(.int (3 : Int32)), (.ref ar)])) rfl rfl (hb hby d10_158) _ (XS.dconst0 X142.here hx rfl (hb hby d10_159) rfl (XS.dcmpS X142.here hx rfl (hb hby d10_160) rfl (DS.cmpV d_z3 dc_0 _) (kk)))) ?_
          show Dn p e below s _ _ _ (T142.setTop (mkF m 161 #[.val (.ref a), .val (.ref ar), .val (.ref lv), .val (.int fi), .val (.int cn), .val (.double dt), .second, .val (.ref sh), .val (.int (1 : Int32)), .val (.int (3 : Int32)), .unset] [(.int (c3 i3 0))]))
          by_cases hc161_4 : (c3 i3 0) = (0 : Int32)
          · have hi161_4 := (c3_eq _ _).mp hc161_4
            refine Dn.st (fun _ kk => XS.ifNo X142.here hx rfl (hb hby d10_161) rfl ((if0 _ _).trans (teq hc161_4).2) (XS.iinc X142.here hx rfl (hb hby d10_164) rfl (l' := #[.val (.ref a), .val (.ref ar), .val (.ref lv), .val (.int fi), .val (.int cn), .val (.double dt), .second, .val (.ref sh), .val (.int (1 : Int32)), .val (.int (4 : Int32)), .unset]) rfl (XS.goto X142.here hx rfl (pc0 := 167) (pc' := 148) rfl (hb hby d10_167) (by decide) (by decide) (XS.iload X142.here hx rfl (hb hby d10_148) rfl  (XS.aloadN X142.here hx rfl (hb hby d10_150) rfl rfl (kk)))))) ?_
            show Dn p e below s _ _ _ (T142.setTop (mkF m 151 #[.val (.ref a), .val (.ref ar), .val (.ref lv), .val (.int fi), .val (.int cn), .val (.double dt), .second, .val (.ref sh), .val (.int (1 : Int32)), .val (.int (4 : Int32)), .unset] [(.ref ar), (.int (4 : Int32))]))
            have Vc_ar_151_5 := V_ar_142
            obtain ⟨cl_ar_151_5, Ar_ar_151_5, q_ar_151_5, S_ar_151_5, N_ar_151_5, H_ar_151_5, G_ar_151_5⟩ := Vc_ar_151_5
            refine Dn.st (fun _ kk => X142.arraylength hx (by rw [e142]; exact Ar_ar_151_5.1) (State.isArrayOf_alike hZ.alike Ar_ar_151_5.2.1) (g := (mkF m 151 #[.val (.ref a), .val (.ref ar), .val (.ref lv), .val (.int fi), .val (.int cn), .val (.double dt), .second, .val (.ref sh), .val (.int (1 : Int32)), .val (.int (4 : Int32)), .unset] [(.ref ar), (.int (4 : Int32))])) rfl rfl (hb hby d10_151) _ (kk)) ?_
            show Dn p e below s _ _ _ (T142.setTop (mkF m 152 #[.val (.ref a), .val (.ref ar), .val (.ref lv), .val (.int fi), .val (.int cn), .val (.double dt), .second, .val (.ref sh), .val (.int (1 : Int32)), .val (.int (4 : Int32)), .unset] [(.int cl_ar_151_5.slots.size.toInt32), (.int (4 : Int32))]))
            rw [len_of S_ar_151_5 N_ar_151_5]
            show Dn p e below s _ _ _ (T142.setTop (mkF m 152 #[.val (.ref a), .val (.ref ar), .val (.ref lv), .val (.int fi), .val (.int cn), .val (.double dt), .second, .val (.ref sh), .val (.int (1 : Int32)), .val (.int (4 : Int32)), .unset] [(.int (5 : Int32)), (.int (4 : Int32))]))
            have hc152_5 : (4 : Int32) < (5 : Int32) := by decide
            refine Dn.st (fun _ kk => XS.icmpNo X142.here hx rfl (hb hby d10_152) rfl (tlt hc152_5).2.1 (XS.aloadN X142.here hx rfl (hb hby d10_155) rfl rfl (XS.iload X142.here hx rfl (hb hby d10_156) rfl  (kk)))) ?_
            show Dn p e below s _ _ _ (T142.setTop (mkF m 158 #[.val (.ref a), .val (.ref ar), .val (.ref lv), .val (.int fi), .val (.int cn), .val (.double dt), .second, .val (.ref sh), .val (.int (1 : Int32)), .val (.int (4 : Int32)), .unset] [(.int (4 : Int32)), (.ref ar)]))
            have Vc_ar_158_5 := V_ar_142
            obtain ⟨cl_ar_158_5, Ar_ar_158_5, q_ar_158_5, S_ar_158_5, N_ar_158_5, H_ar_158_5, G_ar_158_5⟩ := Vc_ar_158_5
            have hin158_5 : ¬ ((4 : Int32) < 0 ∨ cl_ar_158_5.slots.size ≤ ((4 : Int32)).toNatClampNeg) := inb_of S_ar_158_5 ⟨by decide, by decide⟩
            have hat158_5 : cl_ar_158_5.slots[((4 : Int32)).toNatClampNeg]? = some (.double z4) := H_ar_158_5.at hin158_5 rfl
            refine Dn.st (fun _ kk => X142.daload hx (j := (4 : Int32)) (v := (.double z4)) (by rw [e142]; exact Ar_ar_158_5.1) (State.isArrayOf_alike hZ.alike Ar_ar_158_5.2.1) Ar_ar_158_5.2.2 hin158_5 hat158_5 (g := (mkF m 158 #[.val (.ref a), .val (.ref ar), .val (.ref lv), .val (.int fi), .val (.int cn), .val (.double dt), .second, .val (.ref sh), .val (.int (1 : Int32)), .val (.int (4 : Int32)), .unset] [(.int (4 : Int32)), (.ref ar)])) rfl rfl (hb hby d10_158) _ (XS.dconst0 X142.here hx rfl (hb hby d10_159) rfl (XS.dcmpS X142.here hx rfl (hb hby d10_160) rfl (DS.cmpV d_z4 dc_0 _) (kk)))) ?_
            show Dn p e below s _ _ _ (T142.setTop (mkF m 161 #[.val (.ref a), .val (.ref ar), .val (.ref lv), .val (.int fi), .val (.int cn), .val (.double dt), .second, .val (.ref sh), .val (.int (1 : Int32)), .val (.int (4 : Int32)), .unset] [(.int (c3 i4 0))]))
            by_cases hc161_5 : (c3 i4 0) = (0 : Int32)
            · have hi161_5 := (c3_eq _ _).mp hc161_5
              refine Dn.st (fun _ kk => XS.ifNo X142.here hx rfl (hb hby d10_161) rfl ((if0 _ _).trans (teq hc161_5).2) (XS.iinc X142.here hx rfl (hb hby d10_164) rfl (l' := #[.val (.ref a), .val (.ref ar), .val (.ref lv), .val (.int fi), .val (.int cn), .val (.double dt), .second, .val (.ref sh), .val (.int (1 : Int32)), .val (.int (5 : Int32)), .unset]) rfl (XS.goto X142.here hx rfl (pc0 := 167) (pc' := 148) rfl (hb hby d10_167) (by decide) (by decide) (XS.iload X142.here hx rfl (hb hby d10_148) rfl  (XS.aloadN X142.here hx rfl (hb hby d10_150) rfl rfl (kk)))))) ?_
              show Dn p e below s _ _ _ (T142.setTop (mkF m 151 #[.val (.ref a), .val (.ref ar), .val (.ref lv), .val (.int fi), .val (.int cn), .val (.double dt), .second, .val (.ref sh), .val (.int (1 : Int32)), .val (.int (5 : Int32)), .unset] [(.ref ar), (.int (5 : Int32))]))
              have Vc_ar_151_6 := V_ar_142
              obtain ⟨cl_ar_151_6, Ar_ar_151_6, q_ar_151_6, S_ar_151_6, N_ar_151_6, H_ar_151_6, G_ar_151_6⟩ := Vc_ar_151_6
              refine Dn.st (fun _ kk => X142.arraylength hx (by rw [e142]; exact Ar_ar_151_6.1) (State.isArrayOf_alike hZ.alike Ar_ar_151_6.2.1) (g := (mkF m 151 #[.val (.ref a), .val (.ref ar), .val (.ref lv), .val (.int fi), .val (.int cn), .val (.double dt), .second, .val (.ref sh), .val (.int (1 : Int32)), .val (.int (5 : Int32)), .unset] [(.ref ar), (.int (5 : Int32))])) rfl rfl (hb hby d10_151) _ (kk)) ?_
              show Dn p e below s _ _ _ (T142.setTop (mkF m 152 #[.val (.ref a), .val (.ref ar), .val (.ref lv), .val (.int fi), .val (.int cn), .val (.double dt), .second, .val (.ref sh), .val (.int (1 : Int32)), .val (.int (5 : Int32)), .unset] [(.int cl_ar_151_6.slots.size.toInt32), (.int (5 : Int32))]))
              rw [len_of S_ar_151_6 N_ar_151_6]
              show Dn p e below s _ _ _ (T142.setTop (mkF m 152 #[.val (.ref a), .val (.ref ar), .val (.ref lv), .val (.int fi), .val (.int cn), .val (.double dt), .second, .val (.ref sh), .val (.int (1 : Int32)), .val (.int (5 : Int32)), .unset] [(.int (5 : Int32)), (.int (5 : Int32))]))
              have hc152_6 : ¬ ((5 : Int32) < (5 : Int32)) := by decide
              refine Dn.st (fun _ kk => XS.icmpYes X142.here hx rfl (pc0 := 152) (pc' := 170) rfl (hb hby d10_152) rfl (flt hc152_6).2.1 (by decide) (by decide) (XS.aloadN X142.here hx rfl (hb hby d10_170) rfl rfl (kk))) ?_
              show Dn p e below s _ _ _ (T142.setTop (mkF m 171 #[.val (.ref a), .val (.ref ar), .val (.ref lv), .val (.int fi), .val (.int cn), .val (.double dt), .second, .val (.ref sh), .val (.int (1 : Int32)), .val (.int (5 : Int32)), .unset] [(.ref ar)]))
              have Vc_ar_171 := V_ar_142
              obtain ⟨cl_ar_171, Ar_ar_171, q_ar_171, S_ar_171, N_ar_171, H_ar_171, G_ar_171⟩ := Vc_ar_171
              refine Dn.st (fun _ kk => X142.arraylength hx (by rw [e142]; exact Ar_ar_171.1) (State.isArrayOf_alike hZ.alike Ar_ar_171.2.1) (g := (mkF m 171 #[.val (.ref a), .val (.ref ar), .val (.ref lv), .val (.int fi), .val (.int cn), .val (.double dt), .second, .val (.ref sh), .val (.int (1 : Int32)), .val (.int (5 : Int32)), .unset] [(.ref ar)])) rfl rfl (hb hby d10_171) _ (kk)) ?_
              show Dn p e below s _ _ _ (T142.setTop (mkF m 172 #[.val (.ref a), .val (.ref ar), .val (.ref lv), .val (.int fi), .val (.int cn), .val (.double dt), .second, .val (.ref sh), .val (.int (1 : Int32)), .val (.int (5 : Int32)), .unset] [(.int cl_ar_171.slots.size.toInt32)]))
              rw [len_of S_ar_171 N_ar_171]
              show Dn p e below s _ _ _ (T142.setTop (mkF m 172 #[.val (.ref a), .val (.ref ar), .val (.ref lv), .val (.int fi), .val (.int cn), .val (.double dt), .second, .val (.ref sh), .val (.int (1 : Int32)), .val (.int (5 : Int32)), .unset] [(.int (5 : Int32))]))
              refine Dn.st (fun _ kk => XS.iconst X142.here hx rfl (hb hby d10_172) (XS.isub X142.here hx rfl (hb hby d10_173) rfl (XS.istore X142.here hx rfl (hb hby d10_174) rfl (l' := #[.val (.ref a), .val (.ref ar), .val (.ref lv), .val (.int fi), .val (.int cn), .val (.double dt), .second, .val (.ref sh), .val (.int (1 : Int32)), .val (.int (5 : Int32)), .val (.int (4 : Int32))]) rfl (XS.iload X142.here hx rfl (hb hby d10_176) rfl  (XS.iload X142.here hx rfl (hb hby d10_178) rfl  (kk)))))) ?_
              show Dn p e below s _ _ _ (T142.setTop (mkF m 180 #[.val (.ref a), .val (.ref ar), .val (.ref lv), .val (.int fi), .val (.int cn), .val (.double dt), .second, .val (.ref sh), .val (.int (1 : Int32)), .val (.int (5 : Int32)), .val (.int (4 : Int32))] [(.int (5 : Int32)), (.int (4 : Int32))]))
              have hc180 : (4 : Int32) < (5 : Int32) := by decide
              refine Dn.st (fun _ kk => XS.icmpYes X142.here hx rfl (pc0 := 180) (pc' := 198) rfl (hb hby d10_180) rfl (tlt hc180).1 (by decide) (by decide) (XS.aloadN X142.here hx rfl (hb hby d10_198) rfl rfl (XS.iload X142.here hx rfl (hb hby d10_199) rfl  (kk)))) ?_
              show Dn p e below s _ _ _ (T142.setTop (mkF m 201 #[.val (.ref a), .val (.ref ar), .val (.ref lv), .val (.int fi), .val (.int cn), .val (.double dt), .second, .val (.ref sh), .val (.int (1 : Int32)), .val (.int (5 : Int32)), .val (.int (4 : Int32))] [(.int (5 : Int32)), (.ref a)]))
              obtain ⟨T201, h201, X201, e201, W201, st201⟩ := putF X142 hx hZ hown (host := "") (Or.inl (hw _ (List.mem_of_getElem? (i := 108) rfl))) Via.refl e142 F_a_lowest_142 E_a_142 (Or.inr ⟨(hw _ (List.mem_of_getElem? (i := 109) rfl)), rfl, hnm⟩) (hw _ (List.mem_of_getElem? (i := 9) rfl)) (ty := .int) (by decide) rfl rfl (g := (mkF m 201 #[.val (.ref a), .val (.ref ar), .val (.ref lv), .val (.int fi), .val (.int cn), .val (.double dt), .second, .val (.ref sh), .val (.int (1 : Int32)), .val (.int (5 : Int32)), .val (.int (4 : Int32))] [(.int (5 : Int32)), (.ref a)])) rfl rfl (hb hby d10_201)
              have E_a_201 := E_a_142.wr W201
              have F_a_reflectivity_201 := F_a_reflectivity_142.other W201 (Or.inr (slot_ne (Or.inr (hw _ (List.mem_of_getElem? (i := 97) rfl))) (Or.inr (hw _ (List.mem_of_getElem? (i := 109) rfl))) (by decide) (t := (.array .double)) (t' := .int) (by decide) (by decide)))
              have F_a_levels_201 := F_a_levels_142.other W201 (Or.inr (slot_ne (Or.inr (hw _ (List.mem_of_getElem? (i := 99) rfl))) (Or.inr (hw _ (List.mem_of_getElem? (i := 109) rfl))) (by decide) (t := (.object "java/util/Optional")) (t' := .int) (by decide) (by decide)))
              have F_a_first_201 := F_a_first_142.other W201 (Or.inr (slot_ne (Or.inr (hw _ (List.mem_of_getElem? (i := 101) rfl))) (Or.inr (hw _ (List.mem_of_getElem? (i := 109) rfl))) (by decide) (t := .int) (t' := .int) (by decide) (by decide)))
              have F_a_count_201 := F_a_count_142.other W201 (Or.inr (slot_ne (Or.inr (hw _ (List.mem_of_getElem? (i := 103) rfl))) (Or.inr (hw _ (List.mem_of_getElem? (i := 109) rfl))) (by decide) (t := .int) (t' := .int) (by decide) (by decide)))
              have F_a_intervalMs_201 := F_a_intervalMs_142.other W201 (Or.inr (slot_ne (Or.inr (hw _ (List.mem_of_getElem? (i := 105) rfl))) (Or.inr (hw _ (List.mem_of_getElem? (i := 109) rfl))) (by decide) (t := .double) (t' := .int) (by decide) (by decide)))
              have F_a_shift_201 := F_a_shift_142.other W201 (Or.inr (slot_ne (Or.inr (hw _ (List.mem_of_getElem? (i := 107) rfl))) (Or.inr (hw _ (List.mem_of_getElem? (i := 109) rfl))) (by decide) (t := (.object "java/util/Optional")) (t' := .int) (by decide) (by decide)))
              have F_a_highest_201 := F_a_highest_142.other W201 (Or.inr (slot_ne (Or.inr (hw _ (List.mem_of_getElem? (i := 111) rfl))) (Or.inr (hw _ (List.mem_of_getElem? (i := 109) rfl))) (by decide) (t := .int) (t' := .int) (by decide) (by decide)))
              have V_ar_201 := V_ar_142.other W201 ne_ar
              have E_sh_201 := E_sh_142.wr W201
              have F_sh_value_201 := F_sh_value_142.other W201 (Or.inl ne_sh)
              have E_sp_201 := E_sp_142.wr W201
              have F_sp_meanMs_201 := F_sp_meanMs_142.other W201 (Or.inl ne_sp)
              have F_sp_sdMs_201 := F_sp_sdMs_142.other W201 (Or.inl ne_sp)
              have F_a_lowest_201 := F_a_lowest_142.same W201
              have K201 := K142.wr W201 (Or.inl (List.mem_of_getElem? (i := 0) rfl))
              have N201 := Fr.snoc X201 N142 ga
              have Z201 : n0 ≤ h201.size := Nat.le_trans Z142 (Keep.of_wr W201).1
              refine Dn.st st201 ?_
              show Dn p e below s _ _ _ (T201.setTop (mkF m 204 #[.val (.ref a), .val (.ref ar), .val (.ref lv), .val (.int fi), .val (.int cn), .val (.double dt), .second, .val (.ref sh), .val (.int (1 : Int32)), .val (.int (5 : Int32)), .val (.int (4 : Int32))] []))
              refine Dn.st (fun _ kk => XS.aloadN X201.here hx rfl (hb hby d10_204) rfl rfl (XS.iload X201.here hx rfl (hb hby d10_205) rfl  (kk))) ?_
              show Dn p e below s _ _ _ (T201.setTop (mkF m 207 #[.val (.ref a), .val (.ref ar), .val (.ref lv), .val (.int fi), .val (.int cn), .val (.double dt), .second, .val (.ref sh), .val (.int (1 : Int32)), .val (.int (5 : Int32)), .val (.int (4 : Int32))] [(.int (4 : Int32)), (.ref a)]))
              obtain ⟨T207, h207, X207, e207, W207, st207⟩ := putF X201 hx hZ hown (host := "") (Or.inl (hw _ (List.mem_of_getElem? (i := 110) rfl))) Via.refl e201 F_a_highest_201 E_a_201 (Or.inr ⟨(hw _ (List.mem_of_getElem? (i := 111) rfl)), rfl, hnm⟩) (hw _ (List.mem_of_getElem? (i := 9) rfl)) (ty := .int) (by decide) rfl rfl (g := (mkF m 207 #[.val (.ref a), .val (.ref ar), .val (.ref lv), .val (.int fi), .val (.int cn), .val (.double dt), .second, .val (.ref sh), .val (.int (1 : Int32)), .val (.int (5 : Int32)), .val (.int (4 : Int32))] [(.int (4 : Int32)), (.ref a)])) rfl rfl (hb hby d10_207)
              have E_a_207 := E_a_201.wr W207
              have F_a_reflectivity_207 := F_a_reflectivity_201.other W207 (Or.inr (slot_ne (Or.inr (hw _ (List.mem_of_getElem? (i := 97) rfl))) (Or.inr (hw _ (List.mem_of_getElem? (i := 111) rfl))) (by decide) (t := (.array .double)) (t' := .int) (by decide) (by decide)))
              have F_a_levels_207 := F_a_levels_201.other W207 (Or.inr (slot_ne (Or.inr (hw _ (List.mem_of_getElem? (i := 99) rfl))) (Or.inr (hw _ (List.mem_of_getElem? (i := 111) rfl))) (by decide) (t := (.object "java/util/Optional")) (t' := .int) (by decide) (by decide)))
              have F_a_first_207 := F_a_first_201.other W207 (Or.inr (slot_ne (Or.inr (hw _ (List.mem_of_getElem? (i := 101) rfl))) (Or.inr (hw _ (List.mem_of_getElem? (i := 111) rfl))) (by decide) (t := .int) (t' := .int) (by decide) (by decide)))
              have F_a_count_207 := F_a_count_201.other W207 (Or.inr (slot_ne (Or.inr (hw _ (List.mem_of_getElem? (i := 103) rfl))) (Or.inr (hw _ (List.mem_of_getElem? (i := 111) rfl))) (by decide) (t := .int) (t' := .int) (by decide) (by decide)))
              have F_a_intervalMs_207 := F_a_intervalMs_201.other W207 (Or.inr (slot_ne (Or.inr (hw _ (List.mem_of_getElem? (i := 105) rfl))) (Or.inr (hw _ (List.mem_of_getElem? (i := 111) rfl))) (by decide) (t := .double) (t' := .int) (by decide) (by decide)))
              have F_a_shift_207 := F_a_shift_201.other W207 (Or.inr (slot_ne (Or.inr (hw _ (List.mem_of_getElem? (i := 107) rfl))) (Or.inr (hw _ (List.mem_of_getElem? (i := 111) rfl))) (by decide) (t := (.object "java/util/Optional")) (t' := .int) (by decide) (by decide)))
              have F_a_lowest_207 := F_a_lowest_201.other W207 (Or.inr (slot_ne (Or.inr (hw _ (List.mem_of_getElem? (i := 109) rfl))) (Or.inr (hw _ (List.mem_of_getElem? (i := 111) rfl))) (by decide) (t := .int) (t' := .int) (by decide) (by decide)))
              have V_ar_207 := V_ar_201.other W207 ne_ar
              have E_sh_207 := E_sh_201.wr W207
              have F_sh_value_207 := F_sh_value_201.other W207 (Or.inl ne_sh)
              have E_sp_207 := E_sp_201.wr W207
              have F_sp_meanMs_207 := F_sp_meanMs_201.other W207 (Or.inl ne_sp)
              have F_sp_sdMs_207 := F_sp_sdMs_201.other W207 (Or.inl ne_sp)
              have F_a_highest_207 := F_a_highest_201.same W207
              have K207 := K201.wr W207 (Or.inl (List.mem_of_getElem? (i := 0) rfl))
              have N207 := Fr.snoc X207 N201 ga
              have Z207 : n0 ≤ h207.size := Nat.le_trans Z201 (Keep.of_wr W207).1
              refine Dn.st st207 ?_
              show Dn p e below s _ _ _ (T207.setTop (mkF m 210 #[.val (.ref a), .val (.ref ar), .val (.ref lv), .val (.int fi), .val (.int cn), .val (.double dt), .second, .val (.ref sh), .val (.int (1 : Int32)), .val (.int (5 : Int32)), .val (.int (4 : Int32))] []))
              have eL : (own_low i0 i1 i2 i3 i4) = (5 : Int32) := by unfold own_low; rw [if_pos hi161, if_pos hi161_2, if_pos hi161_3, if_pos hi161_4, if_pos hi161_5]
              have eH : (own_high i0 i1 i2 i3 i4) = (4 : Int32) := by unfold own_high; rw [if_pos hi161_5, if_pos hi161_4, if_pos hi161_3, if_pos hi161_2, if_pos hi161]
              exact Dn.ret0 X207 hlk hx hret (hb hby d10_210) (by rw [e207]; exact ⟨rfl, N207, K207, E_a_207, F_a_first_207, F_a_count_207, F_a_intervalMs_207, (eL ▸ F_a_lowest_207), (eH ▸ F_a_highest_207)⟩) (by decide) (by decide)
            · have hi161_5 := mt (c3_eq _ _).mpr hc161_5
              refine Dn.st (fun _ kk => XS.ifYes X142.here hx rfl (pc0 := 161) (pc' := 170) rfl (hb hby d10_161) rfl ((if0 _ _).trans (feq hc161_5).2) (by decide) (by decide) (XS.aloadN X142.here hx rfl (hb hby d10_170) rfl rfl (kk))) ?_
              show Dn p e below s _ _ _ (T142.setTop (mkF m 171 #[.val (.ref a), .val (.ref ar), .val (.ref lv), .val (.int fi), .val (.int cn), .val (.double dt), .second, .val (.ref sh), .val (.int (1 : Int32)), .val (.int (4 : Int32)), .unset] [(.ref ar)]))
              have Vc_ar_171 := V_ar_142
              obtain ⟨cl_ar_171, Ar_ar_171, q_ar_171, S_ar_171, N_ar_171, H_ar_171, G_ar_171⟩ := Vc_ar_171
              refine Dn.st (fun _ kk => X142.arraylength hx (by rw [e142]; exact Ar_ar_171.1) (State.isArrayOf_alike hZ.alike Ar_ar_171.2.1) (g := (mkF m 171 #[.val (.ref a), .val (.ref ar), .val (.ref lv), .val (.int fi), .val (.int cn), .val (.double dt), .second, .val (.ref sh), .val (.int (1 : Int32)), .val (.int (4 : Int32)), .unset] [(.ref ar)])) rfl rfl (hb hby d10_171) _ (kk)) ?_
              show Dn p e below s _ _ _ (T142.setTop (mkF m 172 #[.val (.ref a), .val (.ref ar), .val (.ref lv), .val (.int fi), .val (.int cn), .val (.double dt), .second, .val (.ref sh), .val (.int (1 : Int32)), .val (.int (4 : Int32)), .unset] [(.int cl_ar_171.slots.size.toInt32)]))
              rw [len_of S_ar_171 N_ar_171]
              show Dn p e below s _ _ _ (T142.setTop (mkF m 172 #[.val (.ref a), .val (.ref ar), .val (.ref lv), .val (.int fi), .val (.int cn), .val (.double dt), .second, .val (.ref sh), .val (.int (1 : Int32)), .val (.int (4 : Int32)), .unset] [(.int (5 : Int32))]))
              refine Dn.st (fun _ kk => XS.iconst X142.here hx rfl (hb hby d10_172) (XS.isub X142.here hx rfl (hb hby d10_173) rfl (XS.istore X142.here hx rfl (hb hby d10_174) rfl (l' := #[.val (.ref a), .val (.ref ar), .val (.ref lv), .val (.int fi), .val (.int cn), .val (.double dt), .second, .val (.ref sh), .val (.int (1 : Int32)), .val (.int (4 : Int32)), .val (.int (4 : Int32))]) rfl (XS.iload X142.here hx rfl (hb hby d10_176) rfl  (XS.iload X142.here hx rfl (hb hby d10_178) rfl  (kk)))))) ?_
              show Dn p e below s _ _ _ (T142.setTop (mkF m 180 #[.val (.ref a), .val (.ref ar), .val (.ref lv), .val (.int fi), .val (.int cn), .val (.double dt), .second, .val (.ref sh), .val (.int (1 : Int32)), .val (.int (4 : Int32)), .val (.int (4 : Int32))] [(.int (4 : Int32)), (.int (4 : Int32))]))
              have hc180 : ¬ ((4 : Int32) < (4 : Int32)) := by decide
              refine Dn.st (fun _ kk => XS.icmpNo X142.here hx rfl (hb hby d10_180) rfl (flt hc180).1 (XS.aloadN X142.here hx rfl (hb hby d10_183) rfl rfl (XS.iload X142.here hx rfl (hb hby d10_184) rfl  (kk)))) ?_
              show Dn p e below s _ _ _ (T142.setTop (mkF m 186 #[.val (.ref a), .val (.ref ar), .val (.ref lv), .val (.int fi), .val (.int cn), .val (.double dt), .second, .val (.ref sh), .val (.int (1 : Int32)), .val (.int (4 : Int32)), .val (.int (4 : Int32))] [(.int (4 : Int32)), (.ref ar)]))
              have Vc_ar_186 := V_ar_142
              obtain ⟨cl_ar_186, Ar_ar_186, q_ar_186, S_ar_186, N_ar_186, H_ar_186, G_ar_186⟩ := Vc_ar_186
              have hin186 : ¬ ((4 : Int32) < 0 ∨ cl_ar_186.slots.size ≤ ((4 : Int32)).toNatClampNeg) := inb_of S_ar_186 ⟨by decide, by decide⟩
              have hat186 : cl_ar_186.slots[((4 : Int32)).toNatClampNeg]? = some (.double z4) := H_ar_186.at hin186 rfl
              refine Dn.st (fun _ kk => X142.daload hx (j := (4 : Int32)) (v := (.double z4)) (by rw [e142]; exact Ar_ar_186.1) (State.isArrayOf_alike hZ.alike Ar_ar_186.2.1) Ar_ar_186.2.2 hin186 hat186 (g := (mkF m 186 #[.val (.ref a), .val (.ref ar), .val (.ref lv), .val (.int fi), .val (.int cn), .val (.double dt), .second, .val (.ref sh), .val (.int (1 : Int32)), .val (.int (4 : Int32)), .val (.int (4 : Int32))] [(.int (4 : Int32)), (.ref ar)])) rfl rfl (hb hby d10_186) _ (XS.dconst0 X142.here hx rfl (hb hby d10_187) rfl (XS.dcmpS X142.here hx rfl (hb hby d10_188) rfl (DS.cmpV d_z4 dc_0 _) (kk)))) ?_
              show Dn p e below s _ _ _ (T142.setTop (mkF m 189 #[.val (.ref a), .val (.ref ar), .val (.ref lv), .val (.int fi), .val (.int cn), .val (.double dt), .second, .val (.ref sh), .val (.int (1 : Int32)), .val (.int (4 : Int32)), .val (.int (4 : Int32))] [(.int (c3 i4 0))]))
              by_cases hc189 : (c3 i4 0) = (0 : Int32)
              · have hi189 := (c3_eq _ _).mp hc189
                exfalso
                exact hi161_5 hi189
              · have hi189 := mt (c3_eq _ _).mpr hc189
                refine Dn.st (fun _ kk => XS.ifYes X142.here hx rfl (pc0 := 189) (pc' := 198) rfl (hb hby d10_189) rfl ((if0 _ _).trans (feq hc189).2) (by decide) (by decide) (XS.aloadN X142.here hx rfl (hb hby d10_198) rfl rfl (XS.iload X142.here hx rfl (hb hby d10_199) rfl  (kk)))) ?_
                show Dn p e below s _ _ _ (T142.setTop (mkF m 201 #[.val (.ref a), .val (.ref ar), .val (.ref lv), .val (.int fi), .val (.int cn), .val (.double dt), .second, .val (.ref sh), .val (.int (1 : Int32)), .val (.int (4 : Int32)), .val (.int (4 : Int32))] [(.int (4 : Int32)), (.ref a)]))
                obtain ⟨T201, h201, X201, e201, W201, st201⟩ := putF X142 hx hZ hown (host := "") (Or.inl (hw _ (List.mem_of_getElem? (i := 108) rfl))) Via.refl e142 F_a_lowest_142 E_a_142 (Or.inr ⟨(hw _ (List.mem_of_getElem? (i := 109) rfl)), rfl, hnm⟩) (hw _ (List.mem_of_getElem? (i := 9) rfl)) (ty := .int) (by decide) rfl rfl (g := (mkF m 201 #[.val (.ref a), .val (.ref ar), .val (.ref lv), .val (.int fi), .val (.int cn), .val (.double dt), .second, .val (.ref sh), .val (.int (1 : Int32)), .val (.int (4 : Int32)), .val (.int (4 : Int32))] [(.int (4 : Int32)), (.ref a)])) rfl rfl (hb hby d10_201)
                have E_a_201 := E_a_142.wr W201
                have F_a_reflectivity_201 := F_a_reflectivity_142.other W201 (Or.inr (slot_ne (Or.inr (hw _ (List.mem_of_getElem? (i := 97) rfl))) (Or.inr (hw _ (List.mem_of_getElem? (i := 109) rfl))) (by decide) (t := (.array .double)) (t' := .int) (by decide) (by decide)))
                have F_a_levels_201 := F_a_levels_142.other W201 (Or.inr (slot_ne (Or.inr (hw _ (List.mem_of_getElem? (i := 99) rfl))) (Or.inr (hw _ (List.mem_of_getElem? (i := 109) rfl))) (by decide) (t := (.object "java/util/Optional")) (t' := .int) (by decide) (by decide)))
                have F_a_first_201 := F_a_first_142.other W201 (Or.inr (slot_ne (Or.inr (hw _ (List.mem_of_getElem? (i := 101) rfl))) (Or.inr (hw _ (List.mem_of_getElem? (i := 109) rfl))) (by decide) (t := .int) (t' := .int) (by decide) (by decide)))
                have F_a_count_201 := F_a_count_142.other W201 (Or.inr (slot_ne (Or.inr (hw _ (List.mem_of_getElem? (i := 103) rfl))) (Or.inr (hw _ (List.mem_of_getElem? (i := 109) rfl))) (by decide) (t := .int) (t' := .int) (by decide) (by decide)))
                have F_a_intervalMs_201 := F_a_intervalMs_142.other W201 (Or.inr (slot_ne (Or.inr (hw _ (List.mem_of_getElem? (i := 105) rfl))) (Or.inr (hw _ (List.mem_of_getElem? (i := 109) rfl))) (by decide) (t := .double) (t' := .int) (by decide) (by decide)))
                have F_a_shift_201 := F_a_shift_142.other W201 (Or.inr (slot_ne (Or.inr (hw _ (List.mem_of_getElem? (i := 107) rfl))) (Or.inr (hw _ (List.mem_of_getElem? (i := 109) rfl))) (by decide) (t := (.object "java/util/Optional")) (t' := .int) (by decide) (by decide)))
                have F_a_highest_201 := F_a_highest_142.other W201 (Or.inr (slot_ne (Or.inr (hw _ (List.mem_of_getElem? (i := 111) rfl))) (Or.inr (hw _ (List.mem_of_getElem? (i := 109) rfl))) (by decide) (t := .int) (t' := .int) (by decide) (by decide)))
                have V_ar_201 := V_ar_142.other W201 ne_ar
                have E_sh_201 := E_sh_142.wr W201
                have F_sh_value_201 := F_sh_value_142.other W201 (Or.inl ne_sh)
                have E_sp_201 := E_sp_142.wr W201
                have F_sp_meanMs_201 := F_sp_meanMs_142.other W201 (Or.inl ne_sp)
                have F_sp_sdMs_201 := F_sp_sdMs_142.other W201 (Or.inl ne_sp)
                have F_a_lowest_201 := F_a_lowest_142.same W201
                have K201 := K142.wr W201 (Or.inl (List.mem_of_getElem? (i := 0) rfl))
                have N201 := Fr.snoc X201 N142 ga
                have Z201 : n0 ≤ h201.size := Nat.le_trans Z142 (Keep.of_wr W201).1
                refine Dn.st st201 ?_
                show Dn p e below s _ _ _ (T201.setTop (mkF m 204 #[.val (.ref a), .val (.ref ar), .val (.ref lv), .val (.int fi), .val (.int cn), .val (.double dt), .second, .val (.ref sh), .val (.int (1 : Int32)), .val (.int (4 : Int32)), .val (.int (4 : Int32))] []))
                refine Dn.st (fun _ kk => XS.aloadN X201.here hx rfl (hb hby d10_204) rfl rfl (XS.iload X201.here hx rfl (hb hby d10_205) rfl  (kk))) ?_
                show Dn p e below s _ _ _ (T201.setTop (mkF m 207 #[.val (.ref a), .val (.ref ar), .val (.ref lv), .val (.int fi), .val (.int cn), .val (.double dt), .second, .val (.ref sh), .val (.int (1 : Int32)), .val (.int (4 : Int32)), .val (.int (4 : Int32))] [(.int (4 : Int32)), (.ref a)]))
                obtain ⟨T207, h207, X207, e207, W207, st207⟩ := putF X201 hx hZ hown (host := "") (Or.inl (hw _ (List.mem_of_getElem? (i := 110) rfl))) Via.refl e201 F_a_highest_201 E_a_201 (Or.inr ⟨(hw _ (List.mem_of_getElem? (i := 111) rfl)), rfl, hnm⟩) (hw _ (List.mem_of_getElem? (i := 9) rfl)) (ty := .int) (by decide) rfl rfl (g := (mkF m 207 #[.val (.ref a), .val (.ref ar), .val (.ref lv), .val (.int fi), .val (.int cn), .val (.double dt), .second, .val (.ref sh), .val (.int (1 : Int32)), .val (.int (4 : Int32)), .val (.int (4 : Int32))] [(.int (4 : Int32)), (.ref a)])) rfl rfl (hb hby d10_207)
                have E_a_207 := E_a_201.wr W207
                have F_a_reflectivity_207 := F_a_reflectivity_201.other W207 (Or.inr (slot_ne (Or.inr (hw _ (List.mem_of_getElem? (i := 97) rfl))) (Or.inr (hw _ (List.mem_of_getElem? (i := 111) rfl))) (by decide) (t := (.array .double)) (t' := .int) (by decide) (by decide)))
                have F_a_levels_207 := F_a_levels_201.other W207 (Or.inr (slot_ne (Or.inr (hw _ (List.mem_of_getElem? (i := 99) rfl))) (Or.inr (hw _ (List.mem_of_getElem? (i := 111) rfl))) (by decide) (t := (.object "java/util/Optional")) (t' := .int) (by decide) (by decide)))
                have F_a_first_207 := F_a_first_201.other W207 (Or.inr (slot_ne (Or.inr (hw _ (List.mem_of_getElem? (i := 101) rfl))) (Or.inr (hw _ (List.mem_of_getElem? (i := 111) rfl))) (by decide) (t := .int) (t' := .int) (by decide) (by decide)))
                have F_a_count_207 := F_a_count_201.other W207 (Or.inr (slot_ne (Or.inr (hw _ (List.mem_of_getElem? (i := 103) rfl))) (Or.inr (hw _ (List.mem_of_getElem? (i := 111) rfl))) (by decide) (t := .int) (t' := .int) (by decide) (by decide)))
                have F_a_intervalMs_207 := F_a_intervalMs_201.other W207 (Or.inr (slot_ne (Or.inr (hw _ (List.mem_of_getElem? (i := 105) rfl))) (Or.inr (hw _ (List.mem_of_getElem? (i := 111) rfl))) (by decide) (t := .double) (t' := .int) (by decide) (by decide)))
                have F_a_shift_207 := F_a_shift_201.other W207 (Or.inr (slot_ne (Or.inr (hw _ (List.mem_of_getElem? (i := 107) rfl))) (Or.inr (hw _ (List.mem_of_getElem? (i := 111) rfl))) (by decide) (t := (.object "java/util/Optional")) (t' := .int) (by decide) (by decide)))
                have F_a_lowest_207 := F_a_lowest_201.other W207 (Or.inr (slot_ne (Or.inr (hw _ (List.mem_of_getElem? (i := 109) rfl))) (Or.inr (hw _ (List.mem_of_getElem? (i := 111) rfl))) (by decide) (t := .int) (t' := .int) (by decide) (by decide)))
                have V_ar_207 := V_ar_201.other W207 ne_ar
                have E_sh_207 := E_sh_201.wr W207
                have F_sh_value_207 := F_sh_value_201.other W207 (Or.inl ne_sh)
                have E_sp_207 := E_sp_201.wr W207
                have F_sp_meanMs_207 := F_sp_meanMs_201.other W207 (Or.inl ne_sp)
                have F_sp_sdMs_207 := F_sp_sdMs_201.other W207 (Or.inl ne_sp)
                have F_a_highest_207 := F_a_highest_201.same W207
                have K207 := K201.wr W207 (Or.inl (List.mem_of_getElem? (i := 0) rfl))
                have N207 := Fr.snoc X207 N201 ga
                have Z207 : n0 ≤ h207.size := Nat.le_trans Z201 (Keep.of_wr W207).1
                refine Dn.st st207 ?_
                show Dn p e below s _ _ _ (T207.setTop (mkF m 210 #[.val (.ref a), .val (.ref ar), .val (.ref lv), .val (.int fi), .val (.int cn), .val (.double dt), .second, .val (.ref sh), .val (.int (1 : Int32)), .val (.int (4 : Int32)), .val (.int (4 : Int32))] []))
                have eL : (own_low i0 i1 i2 i3 i4) = (4 : Int32) := by unfold own_low; rw [if_pos hi161, if_pos hi161_2, if_pos hi161_3, if_pos hi161_4, if_neg hi161_5]
                have eH : (own_high i0 i1 i2 i3 i4) = (4 : Int32) := by unfold own_high; rw [if_neg hi161_5]
                exact Dn.ret0 X207 hlk hx hret (hb hby d10_210) (by rw [e207]; exact ⟨rfl, N207, K207, E_a_207, F_a_first_207, F_a_count_207, F_a_intervalMs_207, (eL ▸ F_a_lowest_207), (eH ▸ F_a_highest_207)⟩) (by decide) (by decide)
          · have hi161_4 := mt (c3_eq _ _).mpr hc161_4
            refine Dn.st (fun _ kk => XS.ifYes X142.here hx rfl (pc0 := 161) (pc' := 170) rfl (hb hby d10_161) rfl ((if0 _ _).trans (feq hc161_4).2) (by decide) (by decide) (XS.aloadN X142.here hx rfl (hb hby d10_170) rfl rfl (kk))) ?_
            show Dn p e below s _ _ _ (T142.setTop (mkF m 171 #[.val (.ref a), .val (.ref ar), .val (.ref lv), .val (.int fi), .val (.int cn), .val (.double dt), .second, .val (.ref sh), .val (.int (1 : Int32)), .val (.int (3 : Int32)), .unset] [(.ref ar)]))
            have Vc_ar_171 := V_ar_142
            obtain ⟨cl_ar_171, Ar_ar_171, q_ar_171, S_ar_171, N_ar_171, H_ar_171, G_ar_171⟩ := Vc_ar_171
            refine Dn.st (fun _ kk => X142.arraylength hx (by rw [e142]; exact Ar_ar_171.1) (State.isArrayOf_alike hZ.alike Ar_ar_171.2.1) (g := (mkF m 171 #[.val (.ref a), .val (.ref ar), .val (.ref lv), .val (.int fi), .val (.int cn), .val (.double dt), .second, .val (.ref sh), .val (.int (1 : Int32)), .val (.int (3 : Int32)), .unset] [(.ref ar)])) rfl rfl (hb hby d10_171) _ (kk)) ?_
            show Dn p e below s _ _ _ (T142.setTop (mkF m 172 #[.val (.ref a), .val (.ref ar), .val (.ref lv), .val (.int fi), .val (.int cn), .val (.double dt), .second, .val (.ref sh), .val (.int (1 : Int32)), .val (.int (3 : Int32)), .unset] [(.int cl_ar_171.slots.size.toInt32)]))
            rw [len_of S_ar_171 N_ar_171]
            show Dn p e below s _ _ _ (T142.setTop (mkF m 172 #[.val (.ref a), .val (.ref ar), .val (.ref lv), .val (.int fi), .val (.int cn), .val (.double dt), .second, .val (.ref sh), .val (.int (1 : Int32)), .val (.int (3 : Int32)), .unset] [(.int (5 : Int32))]))
            refine Dn.st (fun _ kk => XS.iconst X142.here hx rfl (hb hby d10_172) (XS.isub X142.here hx rfl (hb hby d10_173) rfl (XS.istore X142.here hx rfl (hb hby d10_174) rfl (l' := #[.val (.ref a), .val (.ref ar), .val (.ref lv), .val (.int fi), .val (.int cn), .val (.double dt), .second, .val (.ref sh), .val (.int (1 : Int32)), .val (.int (3 : Int32)), .val (.int (4 : Int32))]) rfl (XS.iload X142.here hx rfl (hb hby d10_176) rfl  (XS.iload X142.here hx rfl (hb hby d10_178) rfl  (kk)))))) ?_
            show Dn p e below s _ _ _ (T142.setTop (mkF m 180 #[.val (.ref a), .val (.ref ar), .val (.ref lv), .val (.int fi), .val (.int cn), .val (.double dt), .second, .val (.ref sh), .val (.int (1 : Int32)), .val (.int (3 : Int32)), .val (.int (4 : Int32))] [(.int (3 : Int32)), (.int (4 : Int32))]))
            have hc180 : ¬ ((4 : Int32) < (3 : Int32)) := by decide
            refine Dn.st (fun _ kk => XS.icmpNo X142.here hx rfl (hb hby d10_180) rfl (flt hc180).1 (XS.aloadN X142.here hx rfl (hb hby d10_183) rfl rfl (XS.iload X142.here hx rfl (hb hby d10_184) rfl  (kk)))) ?_
            show Dn p e below s _ _ _ (T142.setTop (mkF m 186 #[.val (.ref a), .val (.ref ar), .val (.ref lv), .val (.int fi), .val (.int cn), .val (.double dt), .second, .val (.ref sh), .val (.int (1 : Int32)), .val (.int (3 : Int32)), .val (.int (4 : Int32))] [(.int (4 : Int32)), (.ref ar)]))
            have Vc_ar_186 := V_ar_142
            obtain ⟨cl_ar_186, Ar_ar_186, q_ar_186, S_ar_186, N_ar_186, H_ar_186, G_ar_186⟩ := Vc_ar_186
            have hin186 : ¬ ((4 : Int32) < 0 ∨ cl_ar_186.slots.size ≤ ((4 : Int32)).toNatClampNeg) := inb_of S_ar_186 ⟨by decide, by decide⟩
            have hat186 : cl_ar_186.slots[((4 : Int32)).toNatClampNeg]? = some (.double z4) := H_ar_186.at hin186 rfl
            refine Dn.st (fun _ kk => X142.daload hx (j := (4 : Int32)) (v := (.double z4)) (by rw [e142]; exact Ar_ar_186.1) (State.isArrayOf_alike hZ.alike Ar_ar_186.2.1) Ar_ar_186.2.2 hin186 hat186 (g := (mkF m 186 #[.val (.ref a), .val (.ref ar), .val (.ref lv), .val (.int fi), .val (.int cn), .val (.double dt), .second, .val (.ref sh), .val (.int (1 : Int32)), .val (.int (3 : Int32)), .val (.int (4 : Int32))] [(.int (4 : Int32)), (.ref ar)])) rfl rfl (hb hby d10_186) _ (XS.dconst0 X142.here hx rfl (hb hby d10_187) rfl (XS.dcmpS X142.here hx rfl (hb hby d10_188) rfl (DS.cmpV d_z4 dc_0 _) (kk)))) ?_
            show Dn p e below s _ _ _ (T142.setTop (mkF m 189 #[.val (.ref a), .val (.ref ar), .val (.ref lv), .val (.int fi), .val (.int cn), .val (.double dt), .second, .val (.ref sh), .val (.int (1 : Int32)), .val (.int (3 : Int32)), .val (.int (4 : Int32))] [(.int (c3 i4 0))]))
            by_cases hc189 : (c3 i4 0) = (0 : Int32)
            · have hi189 := (c3_eq _ _).mp hc189
              refine Dn.st (fun _ kk => XS.ifNo X142.here hx rfl (hb hby d10_189) rfl ((if0 _ _).trans (teq hc189).2) (XS.iinc X142.here hx rfl (hb hby d10_192) rfl (l' := #[.val (.ref a), .val (.ref ar), .val (.ref lv), .val (.int fi), .val (.int cn), .val (.double dt), .second, .val (.ref sh), .val (.int (1 : Int32)), .val (.int (3 : Int32)), .val (.int (3 : Int32))]) rfl (XS.goto X142.here hx rfl (pc0 := 195) (pc' := 176) rfl (hb hby d10_195) (by decide) (by decide) (XS.iload X142.here hx rfl (hb hby d10_176) rfl  (XS.iload X142.here hx rfl (hb hby d10_178) rfl  (kk)))))) ?_
              show Dn p e below s _ _ _ (T142.setTop (mkF m 180 #[.val (.ref a), .val (.ref ar), .val (.ref lv), .val (.int fi), .val (.int cn), .val (.double dt), .second, .val (.ref sh), .val (.int (1 : Int32)), .val (.int (3 : Int32)), .val (.int (3 : Int32))] [(.int (3 : Int32)), (.int (3 : Int32))]))
              have hc180_2 : ¬ ((3 : Int32) < (3 : Int32)) := by decide
              refine Dn.st (fun _ kk => XS.icmpNo X142.here hx rfl (hb hby d10_180) rfl (flt hc180_2).1 (XS.aloadN X142.here hx rfl (hb hby d10_183) rfl rfl (XS.iload X142.here hx rfl (hb hby d10_184) rfl  (kk)))) ?_
              show Dn p e below s _ _ _ (T142.setTop (mkF m 186 #[.val (.ref a), .val (.ref ar), .val (.ref lv), .val (.int fi), .val (.int cn), .val (.double dt), .second, .val (.ref sh), .val (.int (1 : Int32)), .val (.int (3 : Int32)), .val (.int (3 : Int32))] [(.int (3 : Int32)), (.ref ar)]))
              have Vc_ar_186_2 := V_ar_142
              obtain ⟨cl_ar_186_2, Ar_ar_186_2, q_ar_186_2, S_ar_186_2, N_ar_186_2, H_ar_186_2, G_ar_186_2⟩ := Vc_ar_186_2
              have hin186_2 : ¬ ((3 : Int32) < 0 ∨ cl_ar_186_2.slots.size ≤ ((3 : Int32)).toNatClampNeg) := inb_of S_ar_186_2 ⟨by decide, by decide⟩
              have hat186_2 : cl_ar_186_2.slots[((3 : Int32)).toNatClampNeg]? = some (.double z3) := H_ar_186_2.at hin186_2 rfl
              refine Dn.st (fun _ kk => X142.daload hx (j := (3 : Int32)) (v := (.double z3)) (by rw [e142]; exact Ar_ar_186_2.1) (State.isArrayOf_alike hZ.alike Ar_ar_186_2.2.1) Ar_ar_186_2.2.2 hin186_2 hat186_2 (g := (mkF m 186 #[.val (.ref a), .val (.ref ar), .val (.ref lv), .val (.int fi), .val (.int cn), .val (.double dt), .second, .val (.ref sh), .val (.int (1 : Int32)), .val (.int (3 : Int32)), .val (.int (3 : Int32))] [(.int (3 : Int32)), (.ref ar)])) rfl rfl (hb hby d10_186) _ (XS.dconst0 X142.here hx rfl (hb hby d10_187) rfl (XS.dcmpS X142.here hx rfl (hb hby d10_188) rfl (DS.cmpV d_z3 dc_0 _) (kk)))) ?_
              show Dn p e below s _ _ _ (T142.setTop (mkF m 189 #[.val (.ref a), .val (.ref ar), .val (.ref lv), .val (.int fi), .val (.int cn), .val (.double dt), .second, .val (.ref sh), .val (.int (1 : Int32)), .val (.int (3 : Int32)), .val (.int (3 : Int32))] [(.int (c3 i3 0))]))
              by_cases hc189_2 : (c3 i3 0) = (0 : Int32)
              · have hi189_2 := (c3_eq _ _).mp hc189_2
                exfalso
                exact hi161_4 hi189_2
              · have hi189_2 := mt (c3_eq _ _).mpr hc189_2
                refine Dn.st (fun _ kk => XS.ifYes X142.here hx rfl (pc0 := 189) (pc' := 198) rfl (hb hby d10_189) rfl ((if0 _ _).trans (feq hc189_2).2) (by decide) (by decide) (XS.aloadN X142.here hx rfl (hb hby d10_198) rfl rfl (XS.iload X142.here hx rfl (hb hby d10_199) rfl  (kk)))) ?_
                show Dn p e below s _ _ _ (T142.setTop (mkF m 201 #[.val (.ref a), .val (.ref ar), .val (.ref lv), .val (.int fi), .val (.int cn), .val (.double dt), .second, .val (.ref sh), .val (.int (1 : Int32)), .val (.int (3 : Int32)), .val (.int (3 : Int32))] [(.int (3 : Int32)), (.ref a)]))
                obtain ⟨T201, h201, X201, e201, W201, st201⟩ := putF X142 hx hZ hown (host := "") (Or.inl (hw _ (List.mem_of_getElem? (i := 108) rfl))) Via.refl e142 F_a_lowest_142 E_a_142 (Or.inr ⟨(hw _ (List.mem_of_getElem? (i := 109) rfl)), rfl, hnm⟩) (hw _ (List.mem_of_getElem? (i := 9) rfl)) (ty := .int) (by decide) rfl rfl (g := (mkF m 201 #[.val (.ref a), .val (.ref ar), .val (.ref lv), .val (.int fi), .val (.int cn), .val (.double dt), .second, .val (.ref sh), .val (.int (1 : Int32)), .val (.int (3 : Int32)), .val (.int (3 : Int32))] [(.int (3 : Int32)), (.ref a)])) rfl rfl (hb hby d10_201)
                have E_a_201 := E_a_142.wr W201
                have F_a_reflectivity_201 := F_a_reflectivity_142.other W201 (Or.inr (slot_ne (Or.inr (hw _ (List.mem_of_getElem? (i := 97) rfl))) (Or.inr (hw _ (List.mem_of_getElem? (i := 109) rfl))) (by decide) (t := (.array .double)) (t' := .int) (by decide) (by decide)))
                have F_a_levels_201 := F_a_levels_142.other W201 (Or.inr (slot_ne (Or.inr (hw _ (List.mem_of_getElem? (i := 99) rfl))) (Or.inr (hw _ (List.mem_of_getElem? (i := 109) rfl))) (by decide) (t := (.object "java/util/Optional")) (t' := .int) (by decide) (by decide)))
                have F_a_first_201 := F_a_first_142.other W201 (Or.inr (slot_ne (Or.inr (hw _ (List.mem_of_getElem? (i := 101) rfl))) (Or.inr (hw _ (List.mem_of_getElem? (i := 109) rfl))) (by decide) (t := .int) (t' := .int) (by decide) (by decide)))
                have F_a_count_201 := F_a_count_142.other W201 (Or.inr (slot_ne (Or.inr (hw _ (List.mem_of_getElem? (i := 103) rfl))) (Or.inr (hw _ (List.mem_of_getElem? (i := 109) rfl))) (by decide) (t := .int) (t' := .int) (by decide) (by decide)))
                have F_a_intervalMs_201 := F_a_intervalMs_142.other W201 (Or.inr (slot_ne (Or.inr (hw _ (List.mem_of_getElem? (i := 105) rfl))) (Or.inr (hw _ (List.mem_of_getElem? (i := 109) rfl))) (by decide) (t := .double) (t' := .int) (by decide) (by decide)))
                have F_a_shift_201 := F_a_shift_142.other W201 (Or.inr (slot_ne (Or.inr (hw _ (List.mem_of_getElem? (i := 107) rfl))) (Or.inr (hw _ (List.mem_of_getElem? (i := 109) rfl))) (by decide) (t := (.object "java/util/Optional")) (t' := .int) (by decide) (by decide)))
                have F_a_highest_201 := F_a_highest_142.other W201 (Or.inr (slot_ne (Or.inr (hw _ (List.mem_of_getElem? (i := 111) rfl))) (Or.inr (hw _ (List.mem_of_getElem? (i := 109) rfl))) (by decide) (t := .int) (t' := .int) (by decide) (by decide)))
                have V_ar_201 := V_ar_142.other W201 ne_ar
                have E_sh_201 := E_sh_142.wr W201
                have F_sh_value_201 := F_sh_value_142.other W201 (Or.inl ne_sh)
                have E_sp_201 := E_sp_142.wr W201
                have F_sp_meanMs_201 := F_sp_meanMs_142.other W201 (Or.inl ne_sp)
                have F_sp_sdMs_201 := F_sp_sdMs_142.other W201 (Or.inl ne_sp)
                have F_a_lowest_201 := F_a_lowest_142.same W201
                have K201 := K142.wr W201 (Or.inl (List.mem_of_getElem? (i := 0) rfl))
                have N201 := Fr.snoc X201 N142 ga
                have Z201 : n0 ≤ h201.size := Nat.le_trans Z142 (Keep.of_wr W201).1
                refine Dn.st st201 ?_
                show Dn p e below s _ _ _ (T201.setTop (mkF m 204 #[.val (.ref a), .val (.ref ar), .val (.ref lv), .val (.int fi), .val (.int cn), .val (.double dt), .second, .val (.ref sh), .val (.int (1 : Int32)), .val (.int (3 : Int32)), .val (.int (3 : Int32))] []))
                refine Dn.st (fun _ kk => XS.aloadN X201.here hx rfl (hb hby d10_204) rfl rfl (XS.iload X201.here hx rfl (hb hby d10_205) rfl  (kk))) ?_
                show Dn p e below s _ _ _ (T201.setTop (mkF m 207 #[.val (.ref a), .val (.ref ar), .val (.ref lv), .val (.int fi), .val (.int cn), .val (.double dt), .second, .val (.ref sh), .val (.int (1 : Int32)), .val (.int (3 : Int32)), .val (.int (3 : Int32))] [(.int (3 : Int32)), (.ref a)]))
                obtain ⟨T207, h207, X207, e207, W207, st207⟩ := putF X201 hx hZ hown (host := "") (Or.inl (hw _ (List.mem_of_getElem? (i := 110) rfl))) Via.refl e201 F_a_highest_201 E_a_201 (Or.inr ⟨(hw _ (List.mem_of_getElem? (i := 111) rfl)), rfl, hnm⟩) (hw _ (List.mem_of_getElem? (i := 9) rfl)) (ty := .int) (by decide) rfl rfl (g := (mkF m 207 #[.val (.ref a), .val (.ref ar), .val (.ref lv), .val (.int fi), .val (.int cn), .val (.double dt), .second, .val (.ref sh), .val (.int (1 : Int32)), .val (.int (3 : Int32)), .val (.int (3 : Int32))] [(.int (3 : Int32)), (.ref a)])) rfl rfl (hb hby d10_207)
                have E_a_207 := E_a_201.wr W207
                have F_a_reflectivity_207 := F_a_reflectivity_201.other W207 (Or.inr (slot_ne (Or.inr (hw _ (List.mem_of_getElem? (i := 97) rfl))) (Or.inr (hw _ (List.mem_of_getElem? (i := 111) rfl))) (by decide) (t := (.array .double)) (t' := .int) (by decide) (by decide)))
                have F_a_levels_207 := F_a_levels_201.other W207 (Or.inr (slot_ne (Or.inr (hw _ (List.mem_of_getElem? (i := 99) rfl))) (Or.inr (hw _ (List.mem_of_getElem? (i := 111) rfl))) (by decide) (t := (.object "java/util/Optional")) (t' := .int) (by decide) (by decide)))
                have F_a_first_207 := F_a_first_201.other W207 (Or.inr (slot_ne (Or.inr (hw _ (List.mem_of_getElem? (i := 101) rfl))) (Or.inr (hw _ (List.mem_of_getElem? (i := 111) rfl))) (by decide) (t := .int) (t' := .int) (by decide) (by decide)))
                have F_a_count_207 := F_a_count_201.other W207 (Or.inr (slot_ne (Or.inr (hw _ (List.mem_of_getElem? (i := 103) rfl))) (Or.inr (hw _ (List.mem_of_getElem? (i := 111) rfl))) (by decide) (t := .int) (t' := .int) (by decide) (by decide)))
                have F_a_intervalMs_207 := F_a_intervalMs_201.other W207 (Or.inr (slot_ne (Or.inr (hw _ (List.mem_of_getElem? (i := 105) rfl))) (Or.inr (hw _ (List.mem_of_getElem? (i := 111) rfl))) (by decide) (t := .double) (t' := .int) (by decide) (by decide)))
                have F_a_shift_207 := F_a_shift_201.other W207 (Or.inr (slot_ne (Or.inr (hw _ (List.mem_of_getElem? (i := 107) rfl))) (Or.inr (hw _ (List.mem_of_getElem? (i := 111) rfl))) (by decide) (t := (.object "java/util/Optional")) (t' := .int) (by decide) (by decide)))
                have F_a_lowest_207 := F_a_lowest_201.other W207 (Or.inr (slot_ne (Or.inr (hw _ (List.mem_of_getElem? (i := 109) rfl))) (Or.inr (hw _ (List.mem_of_getElem? (i := 111) rfl))) (by decide) (t := .int) (t' := .int) (by decide) (by decide)))
                have V_ar_207 := V_ar_201.other W207 ne_ar
                have E_sh_207 := E_sh_201.wr W207
                have F_sh_value_207 := F_sh_value_201.other W207 (Or.inl ne_sh)
                have E_sp_207 := E_sp_201.wr W207
                have F_sp_meanMs_207 := F_sp_meanMs_201.other W207 (Or.inl ne_sp)
                have F_sp_sdMs_207 := F_sp_sdMs_201.other W207 (Or.inl ne_sp)
                have F_a_highest_207 := F_a_highest_201.same W207
                have K207 := K201.wr W207 (Or.inl (List.mem_of_getElem? (i := 0) rfl))
                have N207 := Fr.snoc X207 N201 ga
                have Z207 : n0 ≤ h207.size := Nat.le_trans Z201 (Keep.of_wr W207).1
                refine Dn.st st207 ?_
                show Dn p e below s _ _ _ (T207.setTop (mkF m 210 #[.val (.ref a), .val (.ref ar), .val (.ref lv), .val (.int fi), .val (.int cn), .val (.double dt), .second, .val (.ref sh), .val (.int (1 : Int32)), .val (.int (3 : Int32)), .val (.int (3 : Int32))] []))
                have eL : (own_low i0 i1 i2 i3 i4) = (3 : Int32) := by unfold own_low; rw [if_pos hi161, if_pos hi161_2, if_pos hi161_3, if_neg hi161_4]
                have eH : (own_high i0 i1 i2 i3 i4) = (3 : Int32) := by unfold own_high; rw [if_pos hi189, if_neg hi161_4]
                exact Dn.ret0 X207 hlk hx hret (hb hby d10_210) (by rw [e207]; exact ⟨rfl, N207, K207, E_a_207, F_a_first_207, F_a_count_207, F_a_intervalMs_207, (eL ▸ F_a_lowest_207), (eH ▸ F_a_highest_207)⟩) (by decide) (by decide)
            · have hi189 := mt (c3_eq _ _).mpr hc189
              refine Dn.st (fun _ kk => XS.ifYes X142.here hx rfl (pc0 := 189) (pc' := 198) rfl (hb hby d10_189) rfl ((if0 _ _).trans (feq hc189).2) (by decide) (by decide) (XS.aloadN X142.here hx rfl (hb hby d10_198) rfl rfl (XS.iload X142.here hx rfl (hb hby d10_199) rfl  (kk)))) ?_
              show Dn p e below s _ _ _ (T142.setTop (mkF m 201 #[.val (.ref a), .val (.ref ar), .val (.ref lv), .val (.int fi), .val (.int cn), .val (.double dt), .second, .val (.ref sh), .val (.int (1 : Int32)), .val (.int (3 : Int32)), .val (.int (4 : Int32))] [(.int (3 : Int32)), (.ref a)]))
              obtain ⟨T201, h201, X201, e201, W201, st201⟩ := putF X142 hx hZ hown (host := "") (Or.inl (hw _ (List.mem_of_getElem? (i := 108) rfl))) Via.refl e142 F_a_lowest_142 E_a_142 (Or.inr ⟨(hw _ (List.mem_of_getElem? (i := 109) rfl)), rfl, hnm⟩) (hw _ (List.mem_of_getElem? (i := 9) rfl)) (ty := .int) (by decide) rfl rfl (g := (mkF m 201 #[.val (.ref a), .val (.ref ar), .val (.ref lv), .val (.int fi), .val (.int cn), .val (.double dt), .second, .val (.ref sh), .val (.int (1 : Int32)), .val (.int (3 : Int32)), .val (.int (4 : Int32))] [(.int (3 : Int32)), (.ref a)])) rfl rfl (hb hby d10_201)
              have E_a_201 := E_a_142.wr W201
              have F_a_reflectivity_201 := F_a_reflectivity_142.other W201 (Or.inr (slot_ne (Or.inr (hw _ (List.mem_of_getElem? (i := 97) rfl))) (Or.inr (hw _ (List.mem_of_getElem? (i := 109) rfl))) (by decide) (t := (.array .double)) (t' := .int) (by decide) (by decide)))
              have F_a_levels_201 := F_a_levels_142.other W201 (Or.inr (slot_ne (Or.inr (hw _ (List.mem_of_getElem? (i := 99) rfl))) (Or.inr (hw _ (List.mem_of_getElem? (i := 109) rfl))) (by decide) (t := (.object "java/util/Optional")) (t' := .int) (by decide) (by decide)))
              have F_a_first_201 := F_a_first_142.other W201 (Or.inr (slot_ne (Or.inr (hw _ (List.mem_of_getElem? (i := 101) rfl))) (Or.inr (hw _ (List.mem_of_getElem? (i := 109) rfl))) (by decide) (t := .int) (t' := .int) (by decide) (by decide)))
              have F_a_count_201 := F_a_count_142.other W201 (Or.inr (slot_ne (Or.inr (hw _ (List.mem_of_getElem? (i := 103) rfl))) (Or.inr (hw _ (List.mem_of_getElem? (i := 109) rfl))) (by decide) (t := .int) (t' := .int) (by decide) (by decide)))
              have F_a_intervalMs_201 := F_a_intervalMs_142.other W201 (Or.inr (slot_ne (Or.inr (hw _ (List.mem_of_getElem? (i := 105) rfl))) (Or.inr (hw _ (List.mem_of_getElem? (i := 109) rfl))) (by decide) (t := .double) (t' := .int) (by decide) (by decide)))
              have F_a_shift_201 := F_a_shift_142.other W201 (Or.inr (slot_ne (Or.inr (hw _ (List.mem_of_getElem? (i := 107) rfl))) (Or.inr (hw _ (List.mem_of_getElem? (i := 109) rfl))) (by decide) (t := (.object "java/util/Optional")) (t' := .int) (by decide) (by decide)))
              have F_a_highest_201 := F_a_highest_142.other W201 (Or.inr (slot_ne (Or.inr (hw _ (List.mem_of_getElem? (i := 111) rfl))) (Or.inr (hw _ (List.mem_of_getElem? (i := 109) rfl))) (by decide) (t := .int) (t' := .int) (by decide) (by decide)))
              have V_ar_201 := V_ar_142.other W201 ne_ar
              have E_sh_201 := E_sh_142.wr W201
              have F_sh_value_201 := F_sh_value_142.other W201 (Or.inl ne_sh)
              have E_sp_201 := E_sp_142.wr W201
              have F_sp_meanMs_201 := F_sp_meanMs_142.other W201 (Or.inl ne_sp)
              have F_sp_sdMs_201 := F_sp_sdMs_142.other W201 (Or.inl ne_sp)
              have F_a_lowest_201 := F_a_lowest_142.same W201
              have K201 := K142.wr W201 (Or.inl (List.mem_of_getElem? (i := 0) rfl))
              have N201 := Fr.snoc X201 N142 ga
              have Z201 : n0 ≤ h201.size := Nat.le_trans Z142 (Keep.of_wr W201).1
              refine Dn.st st201 ?_
              show Dn p e below s _ _ _ (T201.setTop (mkF m 204 #[.val (.ref a), .val (.ref ar), .val (.ref lv), .val (.int fi), .val (.int cn), .val (.double dt), .second, .val (.ref sh), .val (.int (1 : Int32)), .val (.int (3 : Int32)), .val (.int (4 : Int32))] []))
              refine Dn.st (fun _ kk => XS.aloadN X201.here hx rfl (hb hby d10_204) rfl rfl (XS.iload X201.here hx rfl (hb hby d10_205) rfl  (kk))) ?_
              show Dn p e below s _ _ _ (T201.setTop (mkF m 207 #[.val (.ref a), .val (.ref ar), .val (.ref lv), .val (.int fi), .val (.int cn), .val (.double dt), .second, .val (.ref sh), .val (.int (1 : Int32)), .val (.int (3 : Int32)), .val (.int (4 : Int32))] [(.int (4 : Int32)), (.ref a)]))
              obtain ⟨T207, h207, X207, e207, W207, st207⟩ := putF X201 hx hZ hown (host := "") (Or.inl (hw _ (List.mem_of_getElem? (i := 110) rfl))) Via.refl e201 F_a_highest_201 E_a_201 (Or.inr ⟨(hw _ (List.mem_of_getElem? (i := 111) rfl)), rfl, hnm⟩) (hw _ (List.mem_of_getElem? (i := 9) rfl)) (ty := .int) (by decide) rfl rfl (g := (mkF m 207 #[.val (.ref a), .val (.ref ar), .val (.ref lv), .val (.int fi), .val (.int cn), .val (.double dt), .second, .val (.ref sh), .val (.int (1 : Int32)), .val (.int (3 : Int32)), .val (.int (4 : Int32))] [(.int (4 : Int32)), (.ref a)])) rfl rfl (hb hby d10_207)
              have E_a_207 := E_a_201.wr W207
              have F_a_reflectivity_207 := F_a_reflectivity_201.other W207 (Or.inr (slot_ne (Or.inr (hw _ (List.mem_of_getElem? (i := 97) rfl))) (Or.inr (hw _ (List.mem_of_getElem? (i := 111) rfl))) (by decide) (t := (.array .double)) (t' := .int) (by decide) (by decide)))
              have F_a_levels_207 := F_a_levels_201.other W207 (Or.inr (slot_ne (Or.inr (hw _ (List.mem_of_getElem? (i := 99) rfl))) (Or.inr (hw _ (List.mem_of_getElem? (i := 111) rfl))) (by decide) (t := (.object "java/util/Optional")) (t' := .int) (by decide) (by decide)))
              have F_a_first_207 := F_a_first_201.other W207 (Or.inr (slot_ne (Or.inr (hw _ (List.mem_of_getElem? (i := 101) rfl))) (Or.inr (hw _ (List.mem_of_getElem? (i := 111) rfl))) (by decide) (t := .int) (t' := .int) (by decide) (by decide)))
              have F_a_count_207 := F_a_count_201.other W207 (Or.inr (slot_ne (Or.inr (hw _ (List.mem_of_getElem? (i := 103) rfl))) (Or.inr (hw _ (List.mem_of_getElem? (i := 111) rfl))) (by decide) (t := .int) (t' := .int) (by decide) (by decide)))
              have F_a_intervalMs_207 := F_a_intervalMs_201.other W207 (Or.inr (slot_ne (Or.inr (hw _ (List.mem_of_getElem? (i := 105) rfl))) (Or.inr (hw _ (List.mem_of_getElem? (i := 111) rfl))) (by decide) (t := .double) (t' := .int) (by decide) (by decide)))
              have F_a_shift_207 := F_a_shift_201.other W207 (Or.inr (slot_ne (Or.inr (hw _ (List.mem_of_getElem? (i := 107) rfl))) (Or.inr (hw _ (List.mem_of_getElem? (i := 111) rfl))) (by decide) (t := (.object "java/util/Optional")) (t' := .int) (by decide) (by decide)))
              have F_a_lowest_207 := F_a_lowest_201.other W207 (Or.inr (slot_ne (Or.inr (hw _ (List.mem_of_getElem? (i := 109) rfl))) (Or.inr (hw _ (List.mem_of_getElem? (i := 111) rfl))) (by decide) (t := .int) (t' := .int) (by decide) (by decide)))
              have V_ar_207 := V_ar_201.other W207 ne_ar
              have E_sh_207 := E_sh_201.wr W207
              have F_sh_value_207 := F_sh_value_201.other W207 (Or.inl ne_sh)
              have E_sp_207 := E_sp_201.wr W207
              have F_sp_meanMs_207 := F_sp_meanMs_201.other W207 (Or.inl ne_sp)
              have F_sp_sdMs_207 := F_sp_sdMs_201.other W207 (Or.inl ne_sp)
              have F_a_highest_207 := F_a_highest_201.same W207
              have K207 := K201.wr W207 (Or.inl (List.mem_of_getElem? (i := 0) rfl))
              have N207 := Fr.snoc X207 N201 ga
              have Z207 : n0 ≤ h207.size := Nat.le_trans Z201 (Keep.of_wr W207).1
              refine Dn.st st207 ?_
              show Dn p e below s _ _ _ (T207.setTop (mkF m 210 #[.val (.ref a), .val (.ref ar), .val (.ref lv), .val (.int fi), .val (.int cn), .val (.double dt), .second, .val (.ref sh), .val (.int (1 : Int32)), .val (.int (3 : Int32)), .val (.int (4 : Int32))] []))
              have eL : (own_low i0 i1 i2 i3 i4) = (3 : Int32) := by unfold own_low; rw [if_pos hi161, if_pos hi161_2, if_pos hi161_3, if_neg hi161_4]
              have eH : (own_high i0 i1 i2 i3 i4) = (4 : Int32) := by unfold own_high; rw [if_neg hi189]
              exact Dn.ret0 X207 hlk hx hret (hb hby d10_210) (by rw [e207]; exact ⟨rfl, N207, K207, E_a_207, F_a_first_207, F_a_count_207, F_a_intervalMs_207, (eL ▸ F_a_lowest_207), (eH ▸ F_a_highest_207)⟩) (by decide) (by decide)
        · have hi161_3 := mt (c3_eq _ _).mpr hc161_3
          refine Dn.st (fun _ kk => XS.ifYes X142.here hx rfl (pc0 := 161) (pc' := 170) rfl (hb hby d10_161) rfl ((if0 _ _).trans (feq hc161_3).2) (by decide) (by decide) (XS.aloadN X142.here hx rfl (hb hby d10_170) rfl rfl (kk))) ?_
          show Dn p e below s _ _ _ (T142.setTop (mkF m 171 #[.val (.ref a), .val (.ref ar), .val (.ref lv), .val (.int fi), .val (.int cn), .val (.double dt), .second, .val (.ref sh), .val (.int (1 : Int32)), .val (.int (2 : Int32)), .unset] [(.ref ar)]))
          have Vc_ar_171 := V_ar_142
          obtain ⟨cl_ar_171, Ar_ar_171, q_ar_171, S_ar_171, N_ar_171, H_ar_171, G_ar_171⟩ := Vc_ar_171
          refine Dn.st (fun _ kk => X142.arraylength hx (by rw [e142]; exact Ar_ar_171.1) (State.isArrayOf_alike hZ.alike Ar_ar_171.2.1) (g := (mkF m 171 #[.val (.ref a), .val (.ref ar), .val (.ref lv), .val (.int fi), .val (.int cn), .val (.double dt), .second, .val (.ref sh), .val (.int (1 : Int32)), .val (.int (2 : Int32)), .unset] [(.ref ar)])) rfl rfl (hb hby d10_171) _ (kk)) ?_
          show Dn p e below s _ _ _ (T142.setTop (mkF m 172 #[.val (.ref a), .val (.ref ar), .val (.ref lv), .val (.int fi), .val (.int cn), .val (.double dt), .second, .val (.ref sh), .val (.int (1 : Int32)), .val (.int (2 : Int32)), .unset] [(.int cl_ar_171.slots.size.toInt32)]))
          rw [len_of S_ar_171 N_ar_171]
          show Dn p e below s _ _ _ (T142.setTop (mkF m 172 #[.val (.ref a), .val (.ref ar), .val (.ref lv), .val (.int fi), .val (.int cn), .val (.double dt), .second, .val (.ref sh), .val (.int (1 : Int32)), .val (.int (2 : Int32)), .unset] [(.int (5 : Int32))]))
          refine Dn.st (fun _ kk => XS.iconst X142.here hx rfl (hb hby d10_172) (XS.isub X142.here hx rfl (hb hby d10_173) rfl (XS.istore X142.here hx rfl (hb hby d10_174) rfl (l' := #[.val (.ref a), .val (.ref ar), .val (.ref lv), .val (.int fi), .val (.int cn), .val (.double dt), .second, .val (.ref sh), .val (.int (1 : Int32)), .val (.int (2 : Int32)), .val (.int (4 : Int32))]) rfl (XS.iload X142.here hx rfl (hb hby d10_176) rfl  (XS.iload X142.here hx rfl (hb hby d10_178) rfl  (kk)))))) ?_
          show Dn p e below s _ _ _ (T142.setTop (mkF m 180 #[.val (.ref a), .val (.ref ar), .val (.ref lv), .val (.int fi), .val (.int cn), .val (.double dt), .second, .val (.ref sh), .val (.int (1 : Int32)), .val (.int (2 : Int32)), .val (.int (4 : Int32))] [(.int (2 : Int32)), (.int (4 : Int32))]))
          have hc180 : ¬ ((4 : Int32) < (2 : Int32)) := by decide
          refine Dn.st (fun _ kk => XS.icmpNo X142.here hx rfl (hb hby d10_180) rfl (flt hc180).1 (XS.aloadN X142.here hx rfl (hb hby d10_183) rfl rfl (XS.iload X142.here hx rfl (hb hby d10_184) rfl  (kk)))) ?_
          show Dn p e below s _ _ _ (T142.setTop (mkF m 186 #[.val (.ref a), .val (.ref ar), .val (.ref lv), .val (.int fi), .val (.int cn), .val (.double dt), .second, .val (.ref sh), .val (.int (1 : Int32)), .val (.int (2 : Int32)), .val (.int (4 : Int32))] [(.int (4 : Int32)), (.ref ar)]))
          have Vc_ar_186 := V_ar_142
          obtain ⟨cl_ar_186, Ar_ar_186, q_ar_186, S_ar_186, N_ar_186, H_ar_186, G_ar_186⟩ := Vc_ar_186
          have hin186 : ¬ ((4 : Int32) < 0 ∨ cl_ar_186.slots.size ≤ ((4 : Int32)).toNatClampNeg) := inb_of S_ar_186 ⟨by decide, by decide⟩
          have hat186 : cl_ar_186.slots[((4 : Int32)).toNatClampNeg]? = some (.double z4) := H_ar_186.at hin186 rfl
          refine Dn.st (fun _ kk => X142.daload hx (j := (4 : Int32)) (v := (.double z4)) (by rw [e142]; exact Ar_ar_186.1) (State.isArrayOf_alike hZ.alike Ar_ar_186.2.1) Ar_ar_186.2.2 hin186 hat186 (g := (mkF m 186 #[.val (.ref a), .val (.ref ar), .val (.ref lv), .val (.int fi), .val (.int cn), .val (.double dt), .second, .val (.ref sh), .val (.int (1 : Int32)), .val (.int (2 : Int32)), .val (.int (4 : Int32))] [(.int (4 : Int32)), (.ref ar)])) rfl rfl (hb hby d10_186) _ (XS.dconst0 X142.here hx rfl (hb hby d10_187) rfl (XS.dcmpS X142.here hx rfl (hb hby d10_188) rfl (DS.cmpV d_z4 dc_0 _) (kk)))) ?_
          show Dn p e below s _ _ _ (T142.setTop (mkF m 189 #[.val (.ref a), .val (.ref ar), .val (.ref lv), .val (.int fi), .val (.int cn), .val (.double dt), .second, .val (.ref sh), .val (.int (1 : Int32)), .val (.int (2 : Int32)), .val (.int (4 : Int32))] [(.int (c3 i4 0))]))
          by_cases hc189 : (c3 i4 0) = (0 : Int32)
          · have hi189 := (c3_eq _ _).mp hc189
            refine Dn.st (fun _ kk => XS.ifNo X142.here hx rfl (hb hby d10_189) rfl ((if0 _ _).trans (teq hc189).2) (XS.iinc X142.here hx rfl (hb hby d10_192) rfl (l' := #[.val (.ref a), .val (.ref ar), .val (.ref lv), .val (.int fi), .val (.int cn), .val (.double dt), .second, .val (.ref sh), .val (.int (1 : Int32)), .val (.int (2 : Int32)), .val (.int (3 : Int32))]) rfl (XS.goto X142.here hx rfl (pc0 := 195) (pc' := 176) rfl (hb hby d10_195) (by decide) (by decide) (XS.iload X142.here hx rfl (hb hby d10_176) rfl  (XS.iload X142.here hx rfl (hb hby d10_178) rfl  (kk)))))) ?_
            show Dn p e below s _ _ _ (T142.setTop (mkF m 180 #[.val (.ref a), .val (.ref ar), .val (.ref lv), .val (.int fi), .val (.int cn), .val (.double dt), .second, .val (.ref sh), .val (.int (1 : Int32)), .val (.int (2 : Int32)), .val (.int (3 : Int32))] [(.int (2 : Int32)), (.int (3 : Int32))]))
            have hc180_2 : ¬ ((3 : Int32) < (2 : Int32)) := by decide
            refine Dn.st (fun _ kk => XS.icmpNo X142.here hx rfl (hb hby d10_180) rfl (flt hc180_2).1 (XS.aloadN X142.here hx rfl (hb hby d10_183) rfl rfl (XS.iload X142.here hx rfl (hb hby d10_184) rfl  (kk)))) ?_
            show Dn p e below s _ _ _ (T142.setTop (mkF m 186 #[.val (.ref a), .val (.ref ar), .val (.ref lv), .val (.int fi), .val (.int cn), .val (.double dt), .second, .val (.ref sh), .val (.int (1 : Int32)), .val (.int (2 : Int32)), .val (.int (3 : Int32))] [(.int (3 : Int32)), (.ref ar)]))
            have Vc_ar_186_2 := V_ar_142
            obtain ⟨cl_ar_186_2, Ar_ar_186_2, q_ar_186_2, S_ar_186_2, N_ar_186_2, H_ar_186_2, G_ar_186_2⟩ := Vc_ar_186_2
            have hin186_2 : ¬ ((3 : Int32) < 0 ∨ cl_ar_186_2.slots.size ≤ ((3 : Int32)).toNatClampNeg) := inb_of S_ar_186_2 ⟨by decide, by decide⟩
            have hat186_2 : cl_ar_186_2.slots[((3 : Int32)).toNatClampNeg]? = some (.double z3) := H_ar_186_2.at hin186_2 rfl
            refine Dn.st (fun _ kk => X142.daload hx (j := (3 : Int32)) (v := (.double z3)) (by rw [e142]; exact Ar_ar_186_2.1) (State.isArrayOf_alike hZ.alike Ar_ar_186_2.2.1) Ar_ar_186_2.2.2 hin186_2 hat186_2 (g := (mkF m 186 #[.val (.ref a), .val (.ref ar), .val (.ref lv), .val (.int fi), .val (.int cn), .val (.double dt), .second, .val (.ref sh), .val (.int (1 : Int32)), .val (.int (2 : Int32)), .val (.int (3 : Int32))] [(.int (3 : Int32)), (.ref ar)])) rfl rfl (hb hby d10_186) _ (XS.dconst0 X142.here hx rfl (hb hby d10_187) rfl (XS.dcmpS X142.here hx rfl (hb hby d10_188) rfl (DS.cmpV d_z3 dc_0 _) (kk)))) ?_
            show Dn p e below s _ _ _ (T142.setTop (mkF m 189 #[.val (.ref a), .val (.ref ar), .val (.ref lv), .val (.int fi), .val (.int cn), .val (.double dt), .second, .val (.ref sh), .val (.int (1 : Int32)), .val (.int (2 : Int32)), .val (.int (3 : Int32))] [(.int (c3 i3 0))]))
            by_cases hc189_2 : (c3 i3 0) = (0 : Int32)
            · have hi189_2 := (c3_eq _ _).mp hc189_2
              refine Dn.st (fun _ kk => XS.ifNo X142.here hx rfl (hb hby d10_189) rfl ((if0 _ _).trans (teq hc189_2).2) (XS.iinc X142.here hx rfl (hb hby d10_192) rfl (l' := #[.val (.ref a), .val (.ref ar), .val (.ref lv), .val (.int fi), .val (.int cn), .val (.double dt), .second, .val (.ref sh), .val (.int (1 : Int32)), .val (.int (2 : Int32)), .val (.int (2 : Int32))]) rfl (XS.goto X142.here hx rfl (pc0 := 195) (pc' := 176) rfl (hb hby d10_195) (by decide) (by decide) (XS.iload X142.here hx rfl (hb hby d10_176) rfl  (XS.iload X142.here hx rfl (hb hby d10_178) rfl  (kk)))))) ?_
              show Dn p e below s _ _ _ (T142.setTop (mkF m 180 #[.val (.ref a), .val (.ref ar), .val (.ref lv), .val (.int fi), .val (.int cn), .val (.double dt), .second, .val (.ref sh), .val (.int (1 : Int32)), .val (.int (2 : Int32)), .val (.int (2 : Int32))] [(.int (2 : Int32)), (.int (2 : Int32))]))
              have hc180_3 : ¬ ((2 : Int32) < (2 : Int32)) := by decide
              refine Dn.st (fun _ kk => XS.icmpNo X142.here hx rfl (hb hby d10_180) rfl (flt hc180_3).1 (XS.aloadN X142.here hx rfl (hb hby d10_183) rfl rfl (XS.iload X142.here hx rfl (hb hby d10_184) rfl  (kk)))) ?_
              show Dn p e below s _ _ _ (T142.setTop (mkF m 186 #[.val (.ref a), .val (.ref ar), .val (.ref lv), .val (.int fi), .val (.int cn), .val (.double dt), .second, .val (.ref sh), .val (.int (1 : Int32)), .val (.int (2 : Int32)), .val (.int (2 : Int32))] [(.int (2 : Int32)), (.ref ar)]))
              have Vc_ar_186_3 := V_ar_142
              obtain ⟨cl_ar_186_3, Ar_ar_186_3, q_ar_186_3, S_ar_186_3, N_ar_186_3, H_ar_186_3, G_ar_186_3⟩ := Vc_ar_186_3
              have hin186_3 : ¬ ((2 : Int32) < 0 ∨ cl_ar_186_3.slots.size ≤ ((2 : Int32)).toNatClampNeg) := inb_of S_ar_186_3 ⟨by decide, by decide⟩
              have hat186_3 : cl_ar_186_3.slots[((2 : Int32)).toNatClampNeg]? = some (.double z2) := H_ar_186_3.at hin186_3 rfl
              refine Dn.st (fun _ kk => X142.daload hx (j := (2 : Int32)) (v := (.double z2)) (by rw [e142]; exact Ar_ar_186_3.1) (State.isArrayOf_alike hZ.alike Ar_ar_186_3.2.1) Ar_ar_186_3.2.2 hin186_3 hat186_3 (g := (mkF m 186 #[.val (.ref a), .val (.ref ar), .val (.ref lv), .val (.int fi), .val (.int cn), .val (.double dt), .second, .val (.ref sh), .val (.int (1 : Int32)), .val (.int (2 : Int32)), .val (.int (2 : Int32))] [(.int (2 : Int32)), (.ref ar)])) rfl rfl (hb hby d10_186) _ (XS.dconst0 X142.here hx rfl (hb hby d10_187) rfl (XS.dcmpS X142.here hx rfl (hb hby d10_188) rfl (DS.cmpV d_z2 dc_0 _) (kk)))) ?_
              show Dn p e below s _ _ _ (T142.setTop (mkF m 189 #[.val (.ref a), .val (.ref ar), .val (.ref lv), .val (.int fi), .val (.int cn), .val (.double dt), .second, .val (.ref sh), .val (.int (1 : Int32)), .val (.int (2 : Int32)), .val (.int (2 : Int32))] [(.int (c3 i2 0))]))
              by_cases hc189_3 : (c3 i2 0) = (0 : Int32)
              · have hi189_3 := (c3_eq _ _).mp hc189_3
                exfalso
                exact hi161_3 hi189_3
              · have hi189_3 := mt (c3_eq _ _).mpr hc189_3
                refine Dn.st (fun _ kk => XS.ifYes X142.here hx rfl (pc0 := 189) (pc' := 198) rfl (hb hby d10_189) rfl ((if0 _ _).trans (feq hc189_3).2) (by decide) (by decide) (XS.aloadN X142.here hx rfl (hb hby d10_198) rfl rfl (XS.iload X142.here hx rfl (hb hby d10_199) rfl  (kk)))) ?_
                show Dn p e below s _ _ _ (T142.setTop (mkF m 201 #[.val (.ref a), .val (.ref ar), .val (.ref lv), .val (.int fi), .val (.int cn), .val (.double dt), .second, .val (.ref sh), .val (.int (1 : Int32)), .val (.int (2 : Int32)), .val (.int (2 : Int32))] [(.int (2 : Int32)), (.ref a)]))
                obtain ⟨T201, h201, X201, e201, W201, st201⟩ := putF X142 hx hZ hown (host := "") (Or.inl (hw _ (List.mem_of_getElem? (i := 108) rfl))) Via.refl e142 F_a_lowest_142 E_a_142 (Or.inr ⟨(hw _ (List.mem_of_getElem? (i := 109) rfl)), rfl, hnm⟩) (hw _ (List.mem_of_getElem? (i := 9) rfl)) (ty := .int) (by decide) rfl rfl (g := (mkF m 201 #[.val (.ref a), .val (.ref ar), .val (.ref lv), .val (.int fi), .val (.int cn), .val (.double dt), .second, .val (.ref sh), .val (.int (1 : Int32)), .val (.int (2 : Int32)), .val (.int (2 : Int32))] [(.int (2 : Int32)), (.ref a)])) rfl rfl (hb hby d10_201)
                have E_a_201 := E_a_142.wr W201
                have F_a_reflectivity_201 := F_a_reflectivity_142.other W201 (Or.inr (slot_ne (Or.inr (hw _ (List.mem_of_getElem? (i := 97) rfl))) (Or.inr (hw _ (List.mem_of_getElem? (i := 109) rfl))) (by decide) (t := (.array .double)) (t' := .int) (by decide) (by decide)))
                have F_a_levels_201 := F_a_levels_142.other W201 (Or.inr (slot_ne (Or.inr (hw _ (List.mem_of_getElem? (i := 99) rfl))) (Or.inr (hw _ (List.mem_of_getElem? (i := 109) rfl))) (by decide) (t := (.object "java/util/Optional")) (t' := .int) (by decide) (by decide)))
                have F_a_first_201 := F_a_first_142.other W201 (Or.inr (slot_ne (Or.inr (hw _ (List.mem_of_getElem? (i := 101) rfl))) (Or.inr (hw _ (List.mem_of_getElem? (i := 109) rfl))) (by decide) (t := .int) (t' := .int) (by decide) (by decide)))
                have F_a_count_201 := F_a_count_142.other W201 (Or.inr (slot_ne (Or.inr (hw _ (List.mem_of_getElem? (i := 103) rfl))) (Or.inr (hw _ (List.mem_of_getElem? (i := 109) rfl))) (by decide) (t := .int) (t' := .int) (by decide) (by decide)))
                have F_a_intervalMs_201 := F_a_intervalMs_142.other W201 (Or.inr (slot_ne (Or.inr (hw _ (List.mem_of_getElem? (i := 105) rfl))) (Or.inr (hw _ (List.mem_of_getElem? (i := 109) rfl))) (by decide) (t := .double) (t' := .int) (by decide) (by decide)))
                have F_a_shift_201 := F_a_shift_142.other W201 (Or.inr (slot_ne (Or.inr (hw _ (List.mem_of_getElem? (i := 107) rfl))) (Or.inr (hw _ (List.mem_of_getElem? (i := 109) rfl))) (by decide) (t := (.object "java/util/Optional")) (t' := .int) (by decide) (by decide)))
                have F_a_highest_201 := F_a_highest_142.other W201 (Or.inr (slot_ne (Or.inr (hw _ (List.mem_of_getElem? (i := 111) rfl))) (Or.inr (hw _ (List.mem_of_getElem? (i := 109) rfl))) (by decide) (t := .int) (t' := .int) (by decide) (by decide)))
                have V_ar_201 := V_ar_142.other W201 ne_ar
                have E_sh_201 := E_sh_142.wr W201
                have F_sh_value_201 := F_sh_value_142.other W201 (Or.inl ne_sh)
                have E_sp_201 := E_sp_142.wr W201
                have F_sp_meanMs_201 := F_sp_meanMs_142.other W201 (Or.inl ne_sp)
                have F_sp_sdMs_201 := F_sp_sdMs_142.other W201 (Or.inl ne_sp)
                have F_a_lowest_201 := F_a_lowest_142.same W201
                have K201 := K142.wr W201 (Or.inl (List.mem_of_getElem? (i := 0) rfl))
                have N201 := Fr.snoc X201 N142 ga
                have Z201 : n0 ≤ h201.size := Nat.le_trans Z142 (Keep.of_wr W201).1
                refine Dn.st st201 ?_
                show Dn p e below s _ _ _ (T201.setTop (mkF m 204 #[.val (.ref a), .val (.ref ar), .val (.ref lv), .val (.int fi), .val (.int cn), .val (.double dt), .second, .val (.ref sh), .val (.int (1 : Int32)), .val (.int (2 : Int32)), .val (.int (2 : Int32))] []))
                refine Dn.st (fun _ kk => XS.aloadN X201.here hx rfl (hb hby d10_204) rfl rfl (XS.iload X201.here hx rfl (hb hby d10_205) rfl  (kk))) ?_
                show Dn p e below s _ _ _ (T201.setTop (mkF m 207 #[.val (.ref a), .val (.ref ar), .val (.ref lv), .val (.int fi), .val (.int cn), .val (.double dt), .second, .val (.ref sh), .val (.int (1 : Int32)), .val (.int (2 : Int32)), .val (.int (2 : Int32))] [(.int (2 : Int32)), (.ref a)]))
                obtain ⟨T207, h207, X207, e207, W207, st207⟩ := putF X201 hx hZ hown (host := "") (Or.inl (hw _ (List.mem_of_getElem? (i := 110) rfl))) Via.refl e201 F_a_highest_201 E_a_201 (Or.inr ⟨(hw _ (List.mem_of_getElem? (i := 111) rfl)), rfl, hnm⟩) (hw _ (List.mem_of_getElem? (i := 9) rfl)) (ty := .int) (by decide) rfl rfl (g := (mkF m 207 #[.val (.ref a), .val (.ref ar), .val (.ref lv), .val (.int fi), .val (.int cn), .val (.double dt), .second, .val (.ref sh), .val (.int (1 : Int32)), .val (.int (2 : Int32)), .val (.int (2 : Int32))] [(.int (2 : Int32)), (.ref a)])) rfl rfl (hb hby d10_207)
                have E_a_207 := E_a_201.wr W207
                have F_a_reflectivity_207 := F_a_reflectivity_201.other W207 (Or.inr (slot_ne (Or.inr (hw _ (List.mem_of_getElem? (i := 97) rfl))) (Or.inr (hw _ (List.mem_of_getElem? (i := 111) rfl))) (by decide) (t := (.array .double)) (t' := .int) (by decide) (by decide)))
                have F_a_levels_207 := F_a_levels_201.other W207 (Or.inr (slot_ne (Or.inr (hw _ (List.mem_of_getElem? (i := 99) rfl))) (Or.inr (hw _ (List.mem_of_getElem? (i := 111) rfl))) (by decide) (t := (.object "java/util/Optional")) (t' := .int) (by decide) (by decide)))
                have F_a_first_207 := F_a_first_201.other W207 (Or.inr (slot_ne (Or.inr (hw _ (List.mem_of_getElem? (i := 101) rfl))) (Or.inr (hw _ (List.mem_of_getElem? (i := 111) rfl))) (by decide) (t := .int) (t' := .int) (by decide) (by decide)))
                have F_a_count_207 := F_a_count_201.other W207 (Or.inr (slot_ne (Or.inr (hw _ (List.mem_of_getElem? (i := 103) rfl))) (Or.inr (hw _ (List.mem_of_getElem? (i := 111) rfl))) (by decide) (t := .int) (t' := .int) (by decide) (by decide)))
                have F_a_intervalMs_207 := F_a_intervalMs_201.other W207 (Or.inr (slot_ne (Or.inr (hw _ (List.mem_of_getElem? (i := 105) rfl))) (Or.inr (hw _ (List.mem_of_getElem? (i := 111) rfl))) (by decide) (t := .double) (t' := .int) (by decide) (by decide)))
                have F_a_shift_207 := F_a_shift_201.other W207 (Or.inr (slot_ne (Or.inr (hw _ (List.mem_of_getElem? (i := 107) rfl))) (Or.inr (hw _ (List.mem_of_getElem? (i := 111) rfl))) (by decide) (t := (.object "java/util/Optional")) (t' := .int) (by decide) (by decide)))
                have F_a_lowest_207 := F_a_lowest_201.other W207 (Or.inr (slot_ne (Or.inr (hw _ (List.mem_of_getElem? (i := 109) rfl))) (Or.inr (hw _ (List.mem_of_getElem? (i := 111) rfl))) (by decide) (t := .int) (t' := .int) (by decide) (by decide)))
                have V_ar_207 := V_ar_201.other W207 ne_ar
                have E_sh_207 := E_sh_201.wr W207
                have F_sh_value_207 := F_sh_value_201.other W207 (Or.inl ne_sh)
                have E_sp_207 := E_sp_201.wr W207
                have F_sp_meanMs_207 := F_sp_meanMs_201.other W207 (Or.inl ne_sp)
                have F_sp_sdMs_207 := F_sp_sdMs_201.other W207 (Or.inl ne_sp)
                have F_a_highest_207 := F_a_highest_201.same W207
                have K207 := K201.wr W207 (Or.inl (List.mem_of_getElem? (i := 0) rfl))
                have N207 := Fr.snoc X207 N201 ga
                have Z207 : n0 ≤ h207.size := Nat.le_trans Z201 (Keep.of_wr W207).1
                refine Dn.st st207 ?_
                show Dn p e below s _ _ _ (T207.setTop (mkF m 210 #[.val (.ref a), .val (.ref ar), .val (.ref lv), .val (.int fi), .val (.int cn), .val (.double dt), .second, .val (.ref sh), .val (.int (1 : Int32)), .val (.int (2 : Int32)), .val (.int (2 : Int32))] []))
                have eL : (own_low i0 i1 i2 i3 i4) = (2 : Int32) := by unfold own_low; rw [if_pos hi161, if_pos hi161_2, if_neg hi161_3]
                have eH : (own_high i0 i1 i2 i3 i4) = (2 : Int32) := by unfold own_high; rw [if_pos hi189, if_pos hi189_2, if_neg hi161_3]
                exact Dn.ret0 X207 hlk hx hret (hb hby d10_210) (by rw [e207]; exact ⟨rfl, N207, K207, E_a_207, F_a_first_207, F_a_count_207, F_a_intervalMs_207, (eL ▸ F_a_lowest_207), (eH ▸ F_a_highest_207)⟩) (by decide) (by decide)
            · have hi189_2 := mt (c3_eq _ _).mpr hc189_2
              refine Dn.st (fun _ kk => XS.ifYes X142.here hx rfl (pc0 := 189) (pc' := 198) rfl (hb hby d10_189) rfl ((if0 _ _).trans (feq hc189_2).2) (by decide) (by decide) (XS.aloadN X142.here hx rfl (hb hby d10_198) rfl rfl (XS.iload X142.here hx rfl (hb hby d10_199) rfl  (kk)))) ?_
              show Dn p e below s _ _ _ (T142.setTop (mkF m 201 #[.val (.ref a), .val (.ref ar), .val (.ref lv), .val (.int fi), .val (.int cn), .val (.double dt), .second, .val (.ref sh), .val (.int (1 : Int32)), .val (.int (2 : Int32)), .val (.int (3 : Int32))] [(.int (2 : Int32)), (.ref a)]))
              obtain ⟨T201, h201, X201, e201, W201, st201⟩ := putF X142 hx hZ hown (host := "") (Or.inl (hw _ (List.mem_of_getElem? (i := 108) rfl))) Via.refl e142 F_a_lowest_142 E_a_142 (Or.inr ⟨(hw _ (List.mem_of_getElem? (i := 109) rfl)), rfl, hnm⟩) (hw _ (List.mem_of_getElem? (i := 9) rfl)) (ty := .int) (by decide) rfl rfl (g := (mkF m 201 #[.val (.ref a), .val (.ref ar), .val (.ref lv), .val (.int fi), .val (.int cn), .val (.double dt), .second, .val (.ref sh), .val (.int (1 : Int32)), .val (.int (2 : Int32)), .val (.int (3 : Int32))] [(.int (2 : Int32)), (.ref a)])) rfl rfl (hb hby d10_201)
              have E_a_201 := E_a_142.wr W201
              have F_a_reflectivity_201 := F_a_reflectivity_142.other W201 (Or.inr (slot_ne (Or.inr (hw _ (List.mem_of_getElem? (i := 97) rfl))) (Or.inr (hw _ (List.mem_of_getElem? (i := 109) rfl))) (by decide) (t := (.array .double)) (t' := .int) (by decide) (by decide)))
              have F_a_levels_201 := F_a_levels_142.other W201 (Or.inr (slot_ne (Or.inr (hw _ (List.mem_of_getElem? (i := 99) rfl))) (Or.inr (hw _ (List.mem_of_getElem? (i := 109) rfl))) (by decide) (t := (.object "java/util/Optional")) (t' := .int) (by decide) (by decide)))
              have F_a_first_201 := F_a_first_142.other W201 (Or.inr (slot_ne (Or.inr (hw _ (List.mem_of_getElem? (i := 101) rfl))) (Or.inr (hw _ (List.mem_of_getElem? (i := 109) rfl))) (by decide) (t := .int) (t' := .int) (by decide) (by decide)))
              have F_a_count_201 := F_a_count_142.other W201 (Or.inr (slot_ne (Or.inr (hw _ (List.mem_of_getElem? (i := 103) rfl))) (Or.inr (hw _ (List.mem_of_getElem? (i := 109) rfl))) (by decide) (t := .int) (t' := .int) (by decide) (by decide)))
              have F_a_intervalMs_201 := F_a_intervalMs_142.other W201 (Or.inr (slot_ne (Or.inr (hw _ (List.mem_of_getElem? (i := 105) rfl))) (Or.inr (hw _ (List.mem_of_getElem? (i := 109) rfl))) (by decide) (t := .double) (t' := .int) (by decide) (by decide)))
              have F_a_shift_201 := F_a_shift_142.other W201 (Or.inr (slot_ne (Or.inr (hw _ (List.mem_of_getElem? (i := 107) rfl))) (Or.inr (hw _ (List.mem_of_getElem? (i := 109) rfl))) (by decide) (t := (.object "java/util/Optional")) (t' := .int) (by decide) (by decide)))
              have F_a_highest_201 := F_a_highest_142.other W201 (Or.inr (slot_ne (Or.inr (hw _ (List.mem_of_getElem? (i := 111) rfl))) (Or.inr (hw _ (List.mem_of_getElem? (i := 109) rfl))) (by decide) (t := .int) (t' := .int) (by decide) (by decide)))
              have V_ar_201 := V_ar_142.other W201 ne_ar
              have E_sh_201 := E_sh_142.wr W201
              have F_sh_value_201 := F_sh_value_142.other W201 (Or.inl ne_sh)
              have E_sp_201 := E_sp_142.wr W201
              have F_sp_meanMs_201 := F_sp_meanMs_142.other W201 (Or.inl ne_sp)
              have F_sp_sdMs_201 := F_sp_sdMs_142.other W201 (Or.inl ne_sp)
              have F_a_lowest_201 := F_a_lowest_142.same W201
              have K201 := K142.wr W201 (Or.inl (List.mem_of_getElem? (i := 0) rfl))
              have N201 := Fr.snoc X201 N142 ga
              have Z201 : n0 ≤ h201.size := Nat.le_trans Z142 (Keep.of_wr W201).1
              refine Dn.st st201 ?_
              show Dn p e below s _ _ _ (T201.setTop (mkF m 204 #[.val (.ref a), .val (.ref ar), .val (.ref lv), .val (.int fi), .val (.int cn), .val (.double dt), .second, .val (.ref sh), .val (.int (1 : Int32)), .val (.int (2 : Int32)), .val (.int (3 : Int32))] []))
              refine Dn.st (fun _ kk => XS.aloadN X201.here hx rfl (hb hby d10_204) rfl rfl (XS.iload X201.here hx rfl (hb hby d10_205) rfl  (kk))) ?_
              show Dn p e below s _ _ _ (T201.setTop (mkF m 207 #[.val (.ref a), .val (.ref ar), .val (.ref lv), .val (.int fi), .val (.int cn), .val (.double dt), .second, .val (.ref sh), .val (.int (1 : Int32)), .val (.int (2 : Int32)), .val (.int (3 : Int32))] [(.int (3 : Int32)), (.ref a)]))
              obtain ⟨T207, h207, X207, e207, W207, st207⟩ := putF X201 hx hZ hown (host := "") (Or.inl (hw _ (List.mem_of_getElem? (i := 110) rfl))) Via.refl e201 F_a_highest_201 E_a_201 (Or.inr ⟨(hw _ (List.mem_of_getElem? (i := 111) rfl)), rfl, hnm⟩) (hw _ (List.mem_of_getElem? (i := 9) rfl)) (ty := .int) (by decide) rfl rfl (g := (mkF m 207 #[.val (.ref a), .val (.ref ar), .val (.ref lv), .val (.int fi), .val (.int cn), .val (.double dt), .second, .val (.ref sh), .val (.int (1 : Int32)), .val (.int (2 : Int32)), .val (.int (3 : Int32))] [(.int (3 : Int32)), (.ref a)])) rfl rfl (hb hby d10_207)
              have E_a_207 := E_a_201.wr W207
              have F_a_reflectivity_207 := F_a_reflectivity_201.other W207 (Or.inr (slot_ne (Or.inr (hw _ (List.mem_of_getElem? (i := 97) rfl))) (Or.inr (hw _ (List.mem_of_getElem? (i := 111) rfl))) (by decide) (t := (.array .double)) (t' := .int) (by decide) (by decide)))
              have F_a_levels_207 := F_a_levels_201.other W207 (Or.inr (slot_ne (Or.inr (hw _ (List.mem_of_getElem? (i := 99) rfl))) (Or.inr (hw _ (List.mem_of_getElem? (i := 111) rfl))) (by decide) (t := (.object "java/util/Optional")) (t' := .int) (by decide) (by decide)))
              have F_a_first_207 := F_a_first_201.other W207 (Or.inr (slot_ne (Or.inr (hw _ (List.mem_of_getElem? (i := 101) rfl))) (Or.inr (hw _ (List.mem_of_getElem? (i := 111) rfl))) (by decide) (t := .int) (t' := .int) (by decide) (by decide)))
              have F_a_count_207 := F_a_count_201.other W207 (Or.inr (slot_ne (Or.inr (hw _ (List.mem_of_getElem? (i := 103) rfl))) (Or.inr (hw _ (List.mem_of_getElem? (i := 111) rfl))) (by decide) (t := .int) (t' := .int) (by decide) (by decide)))
              have F_a_intervalMs_207 := F_a_intervalMs_201.other W207 (Or.inr (slot_ne (Or.inr (hw _ (List.mem_of_getElem? (i := 105) rfl))) (Or.inr (hw _ (List.mem_of_getElem? (i := 111) rfl))) (by decide) (t := .double) (t' := .int) (by decide) (by decide)))
              have F_a_shift_207 := F_a_shift_201.other W207 (Or.inr (slot_ne (Or.inr (hw _ (List.mem_of_getElem? (i := 107) rfl))) (Or.inr (hw _ (List.mem_of_getElem? (i := 111) rfl))) (by decide) (t := (.object "java/util/Optional")) (t' := .int) (by decide) (by decide)))
              have F_a_lowest_207 := F_a_lowest_201.other W207 (Or.inr (slot_ne (Or.inr (hw _ (List.mem_of_getElem? (i := 109) rfl))) (Or.inr (hw _ (List.mem_of_getElem? (i := 111) rfl))) (by decide) (t := .int) (t' := .int) (by decide) (by decide)))
              have V_ar_207 := V_ar_201.other W207 ne_ar
              have E_sh_207 := E_sh_201.wr W207
              have F_sh_value_207 := F_sh_value_201.other W207 (Or.inl ne_sh)
              have E_sp_207 := E_sp_201.wr W207
              have F_sp_meanMs_207 := F_sp_meanMs_201.other W207 (Or.inl ne_sp)
              have F_sp_sdMs_207 := F_sp_sdMs_201.other W207 (Or.inl ne_sp)
              have F_a_highest_207 := F_a_highest_201.same W207
              have K207 := K201.wr W207 (Or.inl (List.mem_of_getElem? (i := 0) rfl))
              have N207 := Fr.snoc X207 N201 ga
              have Z207 : n0 ≤ h207.size := Nat.le_trans Z201 (Keep.of_wr W207).1
              refine Dn.st st207 ?_
              show Dn p e below s _ _ _ (T207.setTop (mkF m 210 #[.val (.ref a), .val (.ref ar), .val (.ref lv), .val (.int fi), .val (.int cn), .val (.double dt), .second, .val (.ref sh), .val (.int (1 : Int32)), .val (.int (2 : Int32)), .val (.int (3 : Int32))] []))
              have eL : (own_low i0 i1 i2 i3 i4) = (2 : Int32) := by unfold own_low; rw [if_pos hi161, if_pos hi161_2, if_neg hi161_3]
              have eH : (own_high i0 i1 i2 i3 i4) = (3 : Int32) := by unfold own_high; rw [if_pos hi189, if_neg hi189_2]
              exact Dn.ret0 X207 hlk hx hret (hb hby d10_210) (by rw [e207]; exact ⟨rfl, N207, K207, E_a_207, F_a_first_207, F_a_count_207, F_a_intervalMs_207, (eL ▸ F_a_lowest_207), (eH ▸ F_a_highest_207)⟩) (by decide) (by decide)
          · have hi189 := mt (c3_eq _ _).mpr hc189
            refine Dn.st (fun _ kk => XS.ifYes X142.here hx rfl (pc0 := 189) (pc' := 198) rfl (hb hby d10_189) rfl ((if0 _ _).trans (feq hc189).2) (by decide) (by decide) (XS.aloadN X142.here hx rfl (hb hby d10_198) rfl rfl (XS.iload X142.here hx rfl (hb hby d10_199) rfl  (kk)))) ?_
            show Dn p e below s _ _ _ (T142.setTop (mkF m 201 #[.val (.ref a), .val (.ref ar), .val (.ref lv), .val (.int fi), .val (.int cn), .val (.double dt), .second, .val (.ref sh), .val (.int (1 : Int32)), .val (.int (2 : Int32)), .val (.int (4 : Int32))] [(.int (2 : Int32)), (.ref a)]))
            obtain ⟨T201, h201, X201, e201, W201, st201⟩ := putF X142 hx hZ hown (host := "") (Or.inl (hw _ (List.mem_of_getElem? (i := 108) rfl))) Via.refl e142 F_a_lowest_142 E_a_142 (Or.inr ⟨(hw _ (List.mem_of_getElem? (i := 109) rfl)), rfl, hnm⟩) (hw _ (List.mem_of_getElem? (i := 9) rfl)) (ty := .int) (by decide) rfl rfl (g := (mkF m 201 #[.val (.ref a), .val (.ref ar), .val (.ref lv), .val (.int fi), .val (.int cn), .val (.double dt), .second, .val (.ref sh), .val (.int (1 : Int32)), .val (.int (2 : Int32)), .val (.int (4 : Int32))] [(.int (2 : Int32)), (.ref a)])) rfl rfl (hb hby d10_201)
            have E_a_201 := E_a_142.wr W201
            have F_a_reflectivity_201 := F_a_reflectivity_142.other W201 (Or.inr (slot_ne (Or.inr (hw _ (List.mem_of_getElem? (i := 97) rfl))) (Or.inr (hw _ (List.mem_of_getElem? (i := 109) rfl))) (by decide) (t := (.array .double)) (t' := .int) (by decide) (by decide)))
            have F_a_levels_201 := F_a_levels_142.other W201 (Or.inr (slot_ne (Or.inr (hw _ (List.mem_of_getElem? (i := 99) rfl))) (Or.inr (hw _ (List.mem_of_getElem? (i := 109) rfl))) (by decide) (t := (.object "java/util/Optional")) (t' := .int) (by decide) (by decide)))
            have F_a_first_201 := F_a_first_142.other W201 (Or.inr (slot_ne (Or.inr (hw _ (List.mem_of_getElem? (i := 101) rfl))) (Or.inr (hw _ (List.mem_of_getElem? (i := 109) rfl))) (by decide) (t := .int) (t' := .int) (by decide) (by decide)))
            have F_a_count_201 := F_a_count_142.other W201 (Or.inr (slot_ne (Or.inr (hw _ (List.mem_of_getElem? (i := 103) rfl))) (Or.inr (hw _ (List.mem_of_getElem? (i := 109) rfl))) (by decide) (t := .int) (t' := .int) (by decide) (by decide)))
            have F_a_intervalMs_201 := F_a_intervalMs_142.other W201 (Or.inr (slot_ne (Or.inr (hw _ (List.mem_of_getElem? (i := 105) rfl))) (Or.inr (hw _ (List.mem_of_getElem? (i := 109) rfl))) (by decide) (t := .double) (t' := .int) (by decide) (by decide)))
            have F_a_shift_201 := F_a_shift_142.other W201 (Or.inr (slot_ne (Or.inr (hw _ (List.mem_of_getElem? (i := 107) rfl))) (Or.inr (hw _ (List.mem_of_getElem? (i := 109) rfl))) (by decide) (t := (.object "java/util/Optional")) (t' := .int) (by decide) (by decide)))
            have F_a_highest_201 := F_a_highest_142.other W201 (Or.inr (slot_ne (Or.inr (hw _ (List.mem_of_getElem? (i := 111) rfl))) (Or.inr (hw _ (List.mem_of_getElem? (i := 109) rfl))) (by decide) (t := .int) (t' := .int) (by decide) (by decide)))
            have V_ar_201 := V_ar_142.other W201 ne_ar
            have E_sh_201 := E_sh_142.wr W201
            have F_sh_value_201 := F_sh_value_142.other W201 (Or.inl ne_sh)
            have E_sp_201 := E_sp_142.wr W201
            have F_sp_meanMs_201 := F_sp_meanMs_142.other W201 (Or.inl ne_sp)
            have F_sp_sdMs_201 := F_sp_sdMs_142.other W201 (Or.inl ne_sp)
            have F_a_lowest_201 := F_a_lowest_142.same W201
            have K201 := K142.wr W201 (Or.inl (List.mem_of_getElem? (i := 0) rfl))
            have N201 := Fr.snoc X201 N142 ga
            have Z201 : n0 ≤ h201.size := Nat.le_trans Z142 (Keep.of_wr W201).1
            refine Dn.st st201 ?_
            show Dn p e below s _ _ _ (T201.setTop (mkF m 204 #[.val (.ref a), .val (.ref ar), .val (.ref lv), .val (.int fi), .val (.int cn), .val (.double dt), .second, .val (.ref sh), .val (.int (1 : Int32)), .val (.int (2 : Int32)), .val (.int (4 : Int32))] []))
            refine Dn.st (fun _ kk => XS.aloadN X201.here hx rfl (hb hby d10_204) rfl rfl (XS.iload X201.here hx rfl (hb hby d10_205) rfl  (kk))) ?_
            show Dn p e below s _ _ _ (T201.setTop (mkF m 207 #[.val (.ref a), .val (.ref ar), .val (.ref lv), .val (.int fi), .val (.int cn), .val (.double dt), .second, .val (.ref sh), .val (.int (1 : Int32)), .val (.int (2 : Int32)), .val (.int (4 : Int32))] [(.int (4 : Int32)), (.ref a)]))
            obtain ⟨T207, h207, X207, e207, W207, st207⟩ := putF X201 hx hZ hown (host := "") (Or.inl (hw _ (List.mem_of_getElem? (i := 110) rfl))) Via.refl e201 F_a_highest_201 E_a_201 (Or.inr ⟨(hw _ (List.mem_of_getElem? (i := 111) rfl)), rfl, hnm⟩) (hw _ (List.mem_of_getElem? (i := 9) rfl)) (ty := .int) (by decide) rfl rfl (g := (mkF m 207 #[.val (.ref a), .val (.ref ar), .val (.ref lv), .val (.int fi), .val (.int cn), .val (.double dt), .second, .val (.ref sh), .val (.int (1 : Int32)), .val (.int (2 : Int32)), .val (.int (4 : Int32))] [(.int (4 : Int32)), (.ref a)])) rfl rfl (hb hby d10_207)
            have E_a_207 := E_a_201.wr W207
            have F_a_reflectivity_207 := F_a_reflectivity_201.other W207 (Or.inr (slot_ne (Or.inr (hw _ (List.mem_of_getElem? (i := 97) rfl))) (Or.inr (hw _ (List.mem_of_getElem? (i := 111) rfl))) (by decide) (t := (.array .double)) (t' := .int) (by decide) (by decide)))
            have F_a_levels_207 := F_a_levels_201.other W207 (Or.inr (slot_ne (Or.inr (hw _ (List.mem_of_getElem? (i := 99) rfl))) (Or.inr (hw _ (List.mem_of_getElem? (i := 111) rfl))) (by decide) (t := (.object "java/util/Optional")) (t' := .int) (by decide) (by decide)))
            have F_a_first_207 := F_a_first_201.other W207 (Or.inr (slot_ne (Or.inr (hw _ (List.mem_of_getElem? (i := 101) rfl))) (Or.inr (hw _ (List.mem_of_getElem? (i := 111) rfl))) (by decide) (t := .int) (t' := .int) (by decide) (by decide)))
            have F_a_count_207 := F_a_count_201.other W207 (Or.inr (slot_ne (Or.inr (hw _ (List.mem_of_getElem? (i := 103) rfl))) (Or.inr (hw _ (List.mem_of_getElem? (i := 111) rfl))) (by decide) (t := .int) (t' := .int) (by decide) (by decide)))
            have F_a_intervalMs_207 := F_a_intervalMs_201.other W207 (Or.inr (slot_ne (Or.inr (hw _ (List.mem_of_getElem? (i := 105) rfl))) (Or.inr (hw _ (List.mem_of_getElem? (i := 111) rfl))) (by decide) (t := .double) (t' := .int) (by decide) (by decide)))
            have F_a_shift_207 := F_a_shift_201.other W207 (Or.inr (slot_ne (Or.inr (hw _ (List.mem_of_getElem? (i := 107) rfl))) (Or.inr (hw _ (List.mem_of_getElem? (i := 111) rfl))) (by decide) (t := (.object "java/util/Optional")) (t' := .int) (by decide) (by decide)))
            have F_a_lowest_207 := F_a_lowest_201.other W207 (Or.inr (slot_ne (Or.inr (hw _ (List.mem_of_getElem? (i := 109) rfl))) (Or.inr (hw _ (List.mem_of_getElem? (i := 111) rfl))) (by decide) (t := .int) (t' := .int) (by decide) (by decide)))
            have V_ar_207 := V_ar_201.other W207 ne_ar
            have E_sh_207 := E_sh_201.wr W207
            have F_sh_value_207 := F_sh_value_201.other W207 (Or.inl ne_sh)
            have E_sp_207 := E_sp_201.wr W207
            have F_sp_meanMs_207 := F_sp_meanMs_201.other W207 (Or.inl ne_sp)
            have F_sp_sdMs_207 := F_sp_sdMs_201.other W207 (Or.inl ne_sp)
            have F_a_highest_207 := F_a_highest_201.same W207
            have K207 := K201.wr W207 (Or.inl (List.mem_of_getElem? (i := 0) rfl))
            have N207 := Fr.snoc X207 N201 ga
            have Z207 : n0 ≤ h207.size := Nat.le_trans Z201 (Keep.of_wr W207).1
            refine Dn.st st207 ?_
            show Dn p e below s _ _ _ (T207.setTop (mkF m 210 #[.val (.ref a), .val (.ref ar), .val (.ref lv), .val (.int fi), .val (.int cn), .val (.double dt), .second, .val (.ref sh), .val (.int (1 : Int32)), .val (.int (2 : Int32)), .val (.int (4 : Int32))] []))
            have eL : (own_low i0 i1 i2 i3 i4) = (2 : Int32) := by unfold own_low; rw [if_pos hi161, if_pos hi161_2, if_neg hi161_3]
            have eH : (own_high i0 i1 i2 i3 i4) = (4 : Int32) := by unfold own_high; rw [if_neg hi189]
            exact Dn.ret0 X207 hlk hx hret (hb hby d10_210) (by rw [e207]; exact ⟨rfl, N207, K207, E_a_207, F_a_first_207, F_a_count_207, F_a_intervalMs_207, (eL ▸ F_a_lowest_207), (eH ▸ F_a_highest_207)⟩) (by decide) (by decide)
      · have hi161_2 := mt (c3_eq _ _).mpr hc161_2
        refine Dn.st (fun _ kk => XS.ifYes X142.here hx rfl (pc0 := 161) (pc' := 170) rfl (hb hby d10_161) rfl ((if0 _ _).trans (feq hc161_2).2) (by decide) (by decide) (XS.aloadN X142.here hx rfl (hb hby d10_170) rfl rfl (kk))) ?_
        show Dn p e below s _ _ _ (T142.setTop (mkF m 171 #[.val (.ref a), .val (.ref ar), .val (.ref lv), .val (.int fi), .val (.int cn), .val (.double dt), .second, .val (.ref sh), .val (.int (1 : Int32)), .val (.int (1 : Int32)), .unset] [(.ref ar)]))
        have Vc_ar_171 := V_ar_142
        obtain ⟨cl_ar_171, Ar_ar_171, q_ar_171, S_ar_171, N_ar_171, H_ar_171, G_ar_171⟩ := Vc_ar_171
        refine Dn.st (fun _ kk => X142.arraylength hx (by rw [e142]; exact Ar_ar_171.1) (State.isArrayOf_alike hZ.alike Ar_ar_171.2.1) (g := (mkF m 171 #[.val (.ref a), .val (.ref ar), .val (.ref lv), .val (.int fi), .val (.int cn), .val (.double dt), .second, .val (.ref sh), .val (.int (1 : Int32)), .val (.int (1 : Int32)), .unset] [(.ref ar)])) rfl rfl (hb hby d10_171) _ (kk)) ?_
        show Dn p e below s _ _ _ (T142.setTop (mkF m 172 #[.val (.ref a), .val (.ref ar), .val (.ref lv), .val (.int fi), .val (.int cn), .val (.double dt), .second, .val (.ref sh), .val (.int (1 : Int32)), .val (.int (1 : Int32)), .unset] [(.int cl_ar_171.slots.size.toInt32)]))
        rw [len_of S_ar_171 N_ar_171]
        show Dn p e below s _ _ _ (T142.setTop (mkF m 172 #[.val (.ref a), .val (.ref ar), .val (.ref lv), .val (.int fi), .val (.int cn), .val (.double dt), .second, .val (.ref sh), .val (.int (1 : Int32)), .val (.int (1 : Int32)), .unset] [(.int (5 : Int32))]))
        refine Dn.st (fun _ kk => XS.iconst X142.here hx rfl (hb hby d10_172) (XS.isub X142.here hx rfl (hb hby d10_173) rfl (XS.istore X142.here hx rfl (hb hby d10_174) rfl (l' := #[.val (.ref a), .val (.ref ar), .val (.ref lv), .val (.int fi), .val (.int cn), .val (.double dt), .second, .val (.ref sh), .val (.int (1 : Int32)), .val (.int (1 : Int32)), .val (.int (4 : Int32))]) rfl (XS.iload X142.here hx rfl (hb hby d10_176) rfl  (XS.iload X142.here hx rfl (hb hby d10_178) rfl  (kk)))))) ?_
        show Dn p e below s _ _ _ (T142.setTop (mkF m 180 #[.val (.ref a), .val (.ref ar), .val (.ref lv), .val (.int fi), .val (.int cn), .val (.double dt), .second, .val (.ref sh), .val (.int (1 : Int32)), .val (.int (1 : Int32)), .val (.int (4 : Int32))] [(.int (1 : Int32)), (.int (4 : Int32))]))
        have hc180 : ¬ ((4 : Int32) < (1 : Int32)) := by decide
        refine Dn.st (fun _ kk => XS.icmpNo X142.here hx rfl (hb hby d10_180) rfl (flt hc180).1 (XS.aloadN X142.here hx rfl (hb hby d10_183) rfl rfl (XS.iload X142.here hx rfl (hb hby d10_184) rfl  (kk)))) ?_
        show Dn p e below s _ _ _ (T142.setTop (mkF m 186 #[.val (.ref a), .val (.ref ar), .val (.ref lv), .val (.int fi), .val (.int cn), .val (.double dt), .second, .val (.ref sh), .val (.int (1 : Int32)), .val (.int (1 : Int32)), .val (.int (4 : Int32))] [(.int (4 : Int32)), (.ref ar)]))
        have Vc_ar_186 := V_ar_142
        obtain ⟨cl_ar_186, Ar_ar_186, q_ar_186, S_ar_186, N_ar_186, H_ar_186, G_ar_186⟩ := Vc_ar_186
        have hin186 : ¬ ((4 : Int32) < 0 ∨ cl_ar_186.slots.size ≤ ((4 : Int32)).toNatClampNeg) := inb_of S_ar_186 ⟨by decide, by decide⟩
        have hat186 : cl_ar_186.slots[((4 : Int32)).toNatClampNeg]? = some (.double z4) := H_ar_186.at hin186 rfl
        refine Dn.st (fun _ kk => X142.daload hx (j := (4 : Int32)) (v := (.double z4)) (by rw [e142]; exact Ar_ar_186.1) (State.isArrayOf_alike hZ.alike Ar_ar_186.2.1) Ar_ar_186.2.2 hin186 hat186 (g := (mkF m 186 #[.val (.ref a), .val (.ref ar), .val (.ref lv), .val (.int fi), .val (.int cn), .val (.double dt), .second, .val (.ref sh), .val (.int (1 : Int32)), .val (.int (1 : Int32)), .val (.int (4 : Int32))] [(.int (4 : Int32)), (.ref ar)])) rfl rfl (hb hby d10_186) _ (XS.dconst0 X142.here hx rfl (hb hby d10_187) rfl (XS.dcmpS X142.here hx rfl (hb hby d10_188) rfl (DS.cmpV d_z4 dc_0 _) (kk)))) ?_
        show Dn p e below s _ _ _ (T142.setTop (mkF m 189 #[.val (.ref a), .val (.ref ar), .val (.ref lv), .val (.int fi), .val (.int cn), .val (.double dt), .second, .val (.ref sh), .val (.int (1 : Int32)), .val (.int (1 : Int32)), .val (.int (4 : Int32))] [(.int (c3 i4 0))]))
        by_cases hc189 : (c3 i4 0) = (0 : Int32)
        · have hi189 := (c3_eq _ _).mp hc189
          refine Dn.st (fun _ kk => XS.ifNo X142.here hx rfl (hb hby d10_189) rfl ((if0 _ _).trans (teq hc189).2) (XS.iinc X142.here hx rfl (hb hby d10_192) rfl (l' := #[.val (.ref a), .val (.ref ar), .val (.ref lv), .val (.int fi), .val (.int cn), .val (.double dt), .second, .val (.ref sh), .val (.int (1 : Int32)), .val (.int (1 : Int32)), .val (.int (3 : Int32))]) rfl (XS.goto X142.here hx rfl (pc0 := 195) (pc' := 176) rfl (hb hby d10_195) (by decide) (by decide) (XS.iload X142.here hx rfl (hb hby d10_176) rfl  (XS.iload X142.here hx rfl (hb hby d10_178) rfl  (kk)))))) ?_
          show Dn p e below s _ _ _ (T142.setTop (mkF m 180 #[.val (.ref a), .val (.ref ar), .val (.ref lv), .val (.int fi), .val (.int cn), .val (.double dt), .second, .val (.ref sh), .val (.int (1 : Int32)), .val (.int (1 : Int32)), .val (.int (3 : Int32))] [(.int (1 : Int32)), (.int (3 : Int32))]))
          have hc180_2 : ¬ ((3 : Int32) < (1 : Int32)) := by decide
          refine Dn.st (fun _ kk => XS.icmpNo X142.here hx rfl (hb hby d10_180) rfl (flt hc180_2).1 (XS.aloadN X142.here hx rfl (hb hby d10_183) rfl rfl (XS.iload X142.here hx rfl (hb hby d10_184) rfl  (kk)))) ?_
          show Dn p e below s _ _ _ (T142.setTop (mkF m 186 #[.val (.ref a), .val (.ref ar), .val (.ref lv), .val (.int fi), .val (.int cn), .val (.double dt), .second, .val (.ref sh), .val (.int (1 : Int32)), .val (.int (1 : Int32)), .val (.int (3 : Int32))] [(.int (3 : Int32)), (.ref ar)]))
          have Vc_ar_186_2 := V_ar_142
          obtain ⟨cl_ar_186_2, Ar_ar_186_2, q_ar_186_2, S_ar_186_2, N_ar_186_2, H_ar_186_2, G_ar_186_2⟩ := Vc_ar_186_2
          have hin186_2 : ¬ ((3 : Int32) < 0 ∨ cl_ar_186_2.slots.size ≤ ((3 : Int32)).toNatClampNeg) := inb_of S_ar_186_2 ⟨by decide, by decide⟩
          have hat186_2 : cl_ar_186_2.slots[((3 : Int32)).toNatClampNeg]? = some (.double z3) := H_ar_186_2.at hin186_2 rfl
          refine Dn.st (fun _ kk => X142.daload hx (j := (3 : Int32)) (v := (.double z3)) (by rw [e142]; exact Ar_ar_186_2.1) (State.isArrayOf_alike hZ.alike Ar_ar_186_2.2.1) Ar_ar_186_2.2.2 hin186_2 hat186_2 (g := (mkF m 186 #[.val (.ref a), .val (.ref ar), .val (.ref lv), .val (.int fi), .val (.int cn), .val (.double dt), .second, .val (.ref sh), .val (.int (1 : Int32)), .val (.int (1 : Int32)), .val (.int (3 : Int32))] [(.int (3 : Int32)), (.ref ar)])) rfl rfl (hb hby d10_186) _ (XS.dconst0 X142.here hx rfl (hb hby d10_187) rfl (XS.dcmpS X142.here hx rfl (hb hby d10_188) rfl (DS.cmpV d_z3 dc_0 _) (kk)))) ?_
          show Dn p e below s _ _ _ (T142.setTop (mkF m 189 #[.val (.ref a), .val (.ref ar), .val (.ref lv), .val (.int fi), .val (.int cn), .val (.double dt), .second, .val (.ref sh), .val (.int (1 : Int32)), .val (.int (1 : Int32)), .val (.int (3 : Int32))] [(.int (c3 i3 0))]))
          by_cases hc189_2 : (c3 i3 0) = (0 : Int32)
          · have hi189_2 := (c3_eq _ _).mp hc189_2
            refine Dn.st (fun _ kk => XS.ifNo X142.here hx rfl (hb hby d10_189) rfl ((if0 _ _).trans (teq hc189_2).2) (XS.iinc X142.here hx rfl (hb hby d10_192) rfl (l' := #[.val (.ref a), .val (.ref ar), .val (.ref lv), .val (.int fi), .val (.int cn), .val (.double dt), .second, .val (.ref sh), .val (.int (1 : Int32)), .val (.int (1 : Int32)), .val (.int (2 : Int32))]) rfl (XS.goto X142.here hx rfl (pc0 := 195) (pc' := 176) rfl (hb hby d10_195) (by decide) (by decide) (XS.iload X142.here hx rfl (hb hby d10_176) rfl  (XS.iload X142.here hx rfl (hb hby d10_178) rfl  (kk)))))) ?_
            show Dn p e below s _ _ _ (T142.setTop (mkF m 180 #[.val (.ref a), .val (.ref ar), .val (.ref lv), .val (.int fi), .val (.int cn), .val (.double dt), .second, .val (.ref sh), .val (.int (1 : Int32)), .val (.int (1 : Int32)), .val (.int (2 : Int32))] [(.int (1 : Int32)), (.int (2 : Int32))]))
            have hc180_3 : ¬ ((2 : Int32) < (1 : Int32)) := by decide
            refine Dn.st (fun _ kk => XS.icmpNo X142.here hx rfl (hb hby d10_180) rfl (flt hc180_3).1 (XS.aloadN X142.here hx rfl (hb hby d10_183) rfl rfl (XS.iload X142.here hx rfl (hb hby d10_184) rfl  (kk)))) ?_
            show Dn p e below s _ _ _ (T142.setTop (mkF m 186 #[.val (.ref a), .val (.ref ar), .val (.ref lv), .val (.int fi), .val (.int cn), .val (.double dt), .second, .val (.ref sh), .val (.int (1 : Int32)), .val (.int (1 : Int32)), .val (.int (2 : Int32))] [(.int (2 : Int32)), (.ref ar)]))
            have Vc_ar_186_3 := V_ar_142
            obtain ⟨cl_ar_186_3, Ar_ar_186_3, q_ar_186_3, S_ar_186_3, N_ar_186_3, H_ar_186_3, G_ar_186_3⟩ := Vc_ar_186_3
            have hin186_3 : ¬ ((2 : Int32) < 0 ∨ cl_ar_186_3.slots.size ≤ ((2 : Int32)).toNatClampNeg) := inb_of S_ar_186_3 ⟨by decide, by decide⟩
            have hat186_3 : cl_ar_186_3.slots[((2 : Int32)).toNatClampNeg]? = some (.double z2) := H_ar_186_3.at hin186_3 rfl
            refine Dn.st (fun _ kk => X142.daload hx (j := (2 : Int32)) (v := (.double z2)) (by rw [e142]; exact Ar_ar_186_3.1) (State.isArrayOf_alike hZ.alike Ar_ar_186_3.2.1) Ar_ar_186_3.2.2 hin186_3 hat186_3 (g := (mkF m 186 #[.val (.ref a), .val (.ref ar), .val (.ref lv), .val (.int fi), .val (.int cn), .val (.double dt), .second, .val (.ref sh), .val (.int (1 : Int32)), .val (.int (1 : Int32)), .val (.int (2 : Int32))] [(.int (2 : Int32)), (.ref ar)])) rfl rfl (hb hby d10_186) _ (XS.dconst0 X142.here hx rfl (hb hby d10_187) rfl (XS.dcmpS X142.here hx rfl (hb hby d10_188) rfl (DS.cmpV d_z2 dc_0 _) (kk)))) ?_
            show Dn p e below s _ _ _ (T142.setTop (mkF m 189 #[.val (.ref a), .val (.ref ar), .val (.ref lv), .val (.int fi), .val (.int cn), .val (.double dt), .second, .val (.ref sh), .val (.int (1 : Int32)), .val (.int (1 : Int32)), .val (.int (2 : Int32))] [(.int (c3 i2 0))]))
            by_cases hc189_3 : (c3 i2 0) = (0 : Int32)
            · have hi189_3 := (c3_eq _ _).mp hc189_3
              refine Dn.st (fun _ kk => XS.ifNo X142.here hx rfl (hb hby d10_189) rfl ((if0 _ _).trans (teq hc189_3).2) (XS.iinc X142.here hx rfl (hb hby d10_192) rfl (l' := #[.val (.ref a), .val (.ref ar), .val (.ref lv), .val (.int fi), .val (.int cn), .val (.double dt), .second, .val (.ref sh), .val (.int (1 : Int32)), .val (.int (1 : Int32)), .val (.int (1 : Int32))]) rfl (XS.goto X142.here hx rfl (pc0 := 195) (pc' := 176) rfl (hb hby d10_195) (by decide) (by decide) (XS.iload X142.here hx rfl (hb hby d10_176) rfl  (XS.iload X142.here hx rfl (hb hby d10_178) rfl  (kk)))))) ?_
              show Dn p e below s _ _ _ (T142.setTop (mkF m 180 #[.val (.ref a), .val (.ref ar), .val (.ref lv), .val (.int fi), .val (.int cn), .val (.double dt), .second, .val (.ref sh), .val (.int (1 : Int32)), .val (.int (1 : Int32)), .val (.int (1 : Int32))] [(.int (1 : Int32)), (.int (1 : Int32))]))
              have hc180_4 : ¬ ((1 : Int32) < (1 : Int32)) := by decide
              refine Dn.st (fun _ kk => XS.icmpNo X142.here hx rfl (hb hby d10_180) rfl (flt hc180_4).1 (XS.aloadN X142.here hx rfl (hb hby d10_183) rfl rfl (XS.iload X142.here hx rfl (hb hby d10_184) rfl  (kk)))) ?_
              show Dn p e below s _ _ _ (T142.setTop (mkF m 186 #[.val (.ref a), .val (.ref ar), .val (.ref lv), .val (.int fi), .val (.int cn), .val (.double dt), .second, .val (.ref sh), .val (.int (1 : Int32)), .val (.int (1 : Int32)), .val (.int (1 : Int32))] [(.int (1 : Int32)), (.ref ar)]))
              have Vc_ar_186_4 := V_ar_142
              obtain ⟨cl_ar_186_4, Ar_ar_186_4, q_ar_186_4, S_ar_186_4, N_ar_186_4, H_ar_186_4, G_ar_186_4⟩ := Vc_ar_186_4
              have hin186_4 : ¬ ((1 : Int32) < 0 ∨ cl_ar_186_4.slots.size ≤ ((1 : Int32)).toNatClampNeg) := inb_of S_ar_186_4 ⟨by decide, by decide⟩
              have hat186_4 : cl_ar_186_4.slots[((1 : Int32)).toNatClampNeg]? = some (.double z1) := H_ar_186_4.at hin186_4 rfl
              refine Dn.st (fun _ kk => X142.daload hx (j := (1 : Int32)) (v := (.double z1)) (by rw [e142]; exact Ar_ar_186_4.1) (State.isArrayOf_alike hZ.alike Ar_ar_186_4.2.1) Ar_ar_186_4.2.2 hin186_4 hat186_4 (g := (mkF m 186 #[.val (.ref a), .val (.ref ar), .val (.ref lv), .val (.int fi), .val (.int cn), .val (.double dt), .second, .val (.ref sh), .val (.int (1 : Int32)), .val (.int (1 : Int32)), .val (.int (1 : Int32))] [(.int (1 : Int32)), (.ref ar)])) rfl rfl (hb hby d10_186) _ (XS.dconst0 X142.here hx rfl (hb hby d10_187) rfl (XS.dcmpS X142.here hx rfl (hb hby d10_188) rfl (DS.cmpV d_z1 dc_0 _) (kk)))) ?_
              show Dn p e below s _ _ _ (T142.setTop (mkF m 189 #[.val (.ref a), .val (.ref ar), .val (.ref lv), .val (.int fi), .val (.int cn), .val (.double dt), .second, .val (.ref sh), .val (.int (1 : Int32)), .val (.int (1 : Int32)), .val (.int (1 : Int32))] [(.int (c3 i1 0))]))
              by_cases hc189_4 : (c3 i1 0) = (0 : Int32)
              · have hi189_4 := (c3_eq _ _).mp hc189_4
                exfalso
                exact hi161_2 hi189_4
              · have hi189_4 := mt (c3_eq _ _).mpr hc189_4
                refine Dn.st (fun _ kk => XS.ifYes X142.here hx rfl (pc0 := 189) (pc' := 198) rfl (hb hby d10_189) rfl ((if0 _ _).trans (feq hc189_4).2) (by decide) (by decide) (XS.aloadN X142.here hx rfl (hb hby d10_198) rfl rfl (XS.iload X142.here hx rfl (hb hby d10_199) rfl  (kk)))) ?_
                show Dn p e below s _ _ _ (T142.setTop (mkF m 201 #[.val (.ref a), .val (.ref ar), .val (.ref lv), .val (.int fi), .val (.int cn), .val (.double dt), .second, .val (.ref sh), .val (.int (1 : Int32)), .val (.int (1 : Int32)), .val (.int (1 : Int32))] [(.int (1 : Int32)), (.ref a)]))
                obtain ⟨T201, h201, X201, e201, W201, st201⟩ := putF X142 hx hZ hown (host := "") (Or.inl (hw _ (List.mem_of_getElem? (i := 108) rfl))) Via.refl e142 F_a_lowest_142 E_a_142 (Or.inr ⟨(hw _ (List.mem_of_getElem? (i := 109) rfl)), rfl, hnm⟩) (hw _ (List.mem_of_getElem? (i := 9) rfl)) (ty := .int) (by decide) rfl rfl (g := (mkF m 201 #[.val (.ref a), .val (.ref ar), .val (.ref lv), .val (.int fi), .val (.int cn), .val (.double dt), .second, .val (.ref sh), .val (.int (1 : Int32)), .val (.int (1 : Int32)), .val (.int (1 : Int32))] [(.int (1 : Int32)), (.ref a)])) rfl rfl (hb hby d10_201)
                have E_a_201 := E_a_142.wr W201
                have F_a_reflectivity_201 := F_a_reflectivity_142.other W201 (Or.inr (slot_ne (Or.inr (hw _ (List.mem_of_getElem? (i := 97) rfl))) (Or.inr (hw _ (List.mem_of_getElem? (i := 109) rfl))) (by decide) (t := (.array .double)) (t' := .int) (by decide) (by decide)))
                have F_a_levels_201 := F_a_levels_142.other W201 (Or.inr (slot_ne (Or.inr (hw _ (List.mem_of_getElem? (i := 99) rfl))) (Or.inr (hw _ (List.mem_of_getElem? (i := 109) rfl))) (by decide) (t := (.object "java/util/Optional")) (t' := .int) (by decide) (by decide)))
                have F_a_first_201 := F_a_first_142.other W201 (Or.inr (slot_ne (Or.inr (hw _ (List.mem_of_getElem? (i := 101) rfl))) (Or.inr (hw _ (List.mem_of_getElem? (i := 109) rfl))) (by decide) (t := .int) (t' := .int) (by decide) (by decide)))
                have F_a_count_201 := F_a_count_142.other W201 (Or.inr (slot_ne (Or.inr (hw _ (List.mem_of_getElem? (i := 103) rfl))) (Or.inr (hw _ (List.mem_of_getElem? (i := 109) rfl))) (by decide) (t := .int) (t' := .int) (by decide) (by decide)))
                have F_a_intervalMs_201 := F_a_intervalMs_142.other W201 (Or.inr (slot_ne (Or.inr (hw _ (List.mem_of_getElem? (i := 105) rfl))) (Or.inr (hw _ (List.mem_of_getElem? (i := 109) rfl))) (by decide) (t := .double) (t' := .int) (by decide) (by decide)))
                have F_a_shift_201 := F_a_shift_142.other W201 (Or.inr (slot_ne (Or.inr (hw _ (List.mem_of_getElem? (i := 107) rfl))) (Or.inr (hw _ (List.mem_of_getElem? (i := 109) rfl))) (by decide) (t := (.object "java/util/Optional")) (t' := .int) (by decide) (by decide)))
                have F_a_highest_201 := F_a_highest_142.other W201 (Or.inr (slot_ne (Or.inr (hw _ (List.mem_of_getElem? (i := 111) rfl))) (Or.inr (hw _ (List.mem_of_getElem? (i := 109) rfl))) (by decide) (t := .int) (t' := .int) (by decide) (by decide)))
                have V_ar_201 := V_ar_142.other W201 ne_ar
                have E_sh_201 := E_sh_142.wr W201
                have F_sh_value_201 := F_sh_value_142.other W201 (Or.inl ne_sh)
                have E_sp_201 := E_sp_142.wr W201
                have F_sp_meanMs_201 := F_sp_meanMs_142.other W201 (Or.inl ne_sp)
                have F_sp_sdMs_201 := F_sp_sdMs_142.other W201 (Or.inl ne_sp)
                have F_a_lowest_201 := F_a_lowest_142.same W201
                have K201 := K142.wr W201 (Or.inl (List.mem_of_getElem? (i := 0) rfl))
                have N201 := Fr.snoc X201 N142 ga
                have Z201 : n0 ≤ h201.size := Nat.le_trans Z142 (Keep.of_wr W201).1
                refine Dn.st st201 ?_
                show Dn p e below s _ _ _ (T201.setTop (mkF m 204 #[.val (.ref a), .val (.ref ar), .val (.ref lv), .val (.int fi), .val (.int cn), .val (.double dt), .second, .val (.ref sh), .val (.int (1 : Int32)), .val (.int (1 : Int32)), .val (.int (1 : Int32))] []))
                refine Dn.st (fun _ kk => XS.aloadN X201.here hx rfl (hb hby d10_204) rfl rfl (XS.iload X201.here hx rfl (hb hby d10_205) rfl  (kk))) ?_
                show Dn p e below s _ _ _ (T201.setTop (mkF m 207 #[.val (.ref a), .val (.ref ar), .val (.ref lv), .val (.int fi), .val (.int cn), .val (.double dt), .second, .val (.ref sh), .val (.int (1 : Int32)), .val (.int (1 : Int32)), .val (.int (1 : Int32))] [(.int (1 : Int32)), (.ref a)]))
                obtain ⟨T207, h207, X207, e207, W207, st207⟩ := putF X201 hx hZ hown (host := "") (Or.inl (hw _ (List.mem_of_getElem? (i := 110) rfl))) Via.refl e201 F_a_highest_201 E_a_201 (Or.inr ⟨(hw _ (List.mem_of_getElem? (i := 111) rfl)), rfl, hnm⟩) (hw _ (List.mem_of_getElem? (i := 9) rfl)) (ty := .int) (by decide) rfl rfl (g := (mkF m 207 #[.val (.ref a), .val (.ref ar), .val (.ref lv), .val (.int fi), .val (.int cn), .val (.double dt), .second, .val (.ref sh), .val (.int (1 : Int32)), .val (.int (1 : Int32)), .val (.int (1 : Int32))] [(.int (1 : Int32)), (.ref a)])) rfl rfl (hb hby d10_207)
                have E_a_207 := E_a_201.wr W207
                have F_a_reflectivity_207 := F_a_reflectivity_201.other W207 (Or.inr (slot_ne (Or.inr (hw _ (List.mem_of_getElem? (i := 97) rfl))) (Or.inr (hw _ (List.mem_of_getElem? (i := 111) rfl))) (by decide) (t := (.array .double)) (t' := .int) (by decide) (by decide)))
                have F_a_levels_207 := F_a_levels_201.other W207 (Or.inr (slot_ne (Or.inr (hw _ (List.mem_of_getElem? (i := 99) rfl))) (Or.inr (hw _ (List.mem_of_getElem? (i := 111) rfl))) (by decide) (t := (.object "java/util/Optional")) (t' := .int) (by decide) (by decide)))
                have F_a_first_207 := F_a_first_201.other W207 (Or.inr (slot_ne (Or.inr (hw _ (List.mem_of_getElem? (i := 101) rfl))) (Or.inr (hw _ (List.mem_of_getElem? (i := 111) rfl))) (by decide) (t := .int) (t' := .int) (by decide) (by decide)))
                have F_a_count_207 := F_a_count_201.other W207 (Or.inr (slot_ne (Or.inr (hw _ (List.mem_of_getElem? (i := 103) rfl))) (Or.inr (hw _ (List.mem_of_getElem? (i := 111) rfl))) (by decide) (t := .int) (t' := .int) (by decide) (by decide)))
                have F_a_intervalMs_207 := F_a_intervalMs_201.other W207 (Or.inr (slot_ne (Or.inr (hw _ (List.mem_of_getElem? (i := 105) rfl))) (Or.inr (hw _ (List.mem_of_getElem? (i := 111) rfl))) (by decide) (t := .double) (t' := .int) (by decide) (by decide)))
                have F_a_shift_207 := F_a_shift_201.other W207 (Or.inr (slot_ne (Or.inr (hw _ (List.mem_of_getElem? (i := 107) rfl))) (Or.inr (hw _ (List.mem_of_getElem? (i := 111) rfl))) (by decide) (t := (.object "java/util/Optional")) (t' := .int) (by decide) (by decide)))
                have F_a_lowest_207 := F_a_lowest_201.other W207 (Or.inr (slot_ne (Or.inr (hw _ (List.mem_of_getElem? (i := 109) rfl))) (Or.inr (hw _ (List.mem_of_getElem? (i := 111) rfl))) (by decide) (t := .int) (t' := .int) (by decide) (by decide)))
                have V_ar_207 := V_ar_201.other W207 ne_ar
                have E_sh_207 := E_sh_201.wr W207
                have F_sh_value_207 := F_sh_value_201.other W207 (Or.inl ne_sh)
                have E_sp_207 := E_sp_201.wr W207
                have F_sp_meanMs_207 := F_sp_meanMs_201.other W207 (Or.inl ne_sp)
                have F_sp_sdMs_207 := F_sp_sdMs_201.other W207 (Or.inl ne_sp)
                have F_a_highest_207 := F_a_highest_201.same W207
                have K207 := K201.wr W207 (Or.inl (List.mem_of_getElem? (i := 0) rfl))
                have N207 := Fr.snoc X207 N201 ga
                have Z207 : n0 ≤ h207.size := Nat.le_trans Z201 (Keep.of_wr W207).1
                refine Dn.st st207 ?_
                show Dn p e below s _ _ _ (T207.setTop (mkF m 210 #[.val (.ref a), .val (.ref ar), .val (.ref lv), .val (.int fi), .val (.int cn), .val (.double dt), .second, .val (.ref sh), .val (.int (1 : Int32)), .val (.int (1 : Int32)), .val (.int (1 : Int32))] []))
                have eL : (own_low i0 i1 i2 i3 i4) = (1 : Int32) := by unfold own_low; rw [if_pos hi161, if_neg hi161_2]
                have eH : (own_high i0 i1 i2 i3 i4) = (1 : Int32) := by unfold own_high; rw [if_pos hi189, if_pos hi189_2, if_pos hi189_3, if_neg hi161_2]
                exact Dn.ret0 X207 hlk hx hret (hb hby d10_210) (by rw [e207]; exact ⟨rfl, N207, K207, E_a_207, F_a_first_207, F_a_count_207, F_a_intervalMs_207, (eL ▸ F_a_lowest_207), (eH ▸ F_a_highest_207)⟩) (by decide) (by decide)
            · have hi189_3 := mt (c3_eq _ _).mpr hc189_3
              refine Dn.st (fun _ kk => XS.ifYes X142.here hx rfl (pc0 := 189) (pc' := 198) rfl (hb hby d10_189) rfl ((if0 _ _).trans (feq hc189_3).2) (by decide) (by decide) (XS.aloadN X142.here hx rfl (hb hby d10_198) rfl rfl (XS.iload X142.here hx rfl (hb hby d10_199) rfl  (kk)))) ?_
              show Dn p e below s _ _ _ (T142.setTop (mkF m 201 #[.val (.ref a), .val (.ref ar), .val (.ref lv), .val (.int fi), .val (.int cn), .val (.double dt), .second, .val (.ref sh), .val (.int (1 : Int32)), .val (.int (1 : Int32)), .val (.int (2 : Int32))] [(.int (1 : Int32)), (.ref a)]))
              obtain ⟨T201, h201, X201, e201, W201, st201⟩ := putF X142 hx hZ hown (host := "") (Or.inl (hw _ (List.mem_of_getElem? (i := 108) rfl))) Via.refl e142 F_a_lowest_142 E_a_142 (Or.inr ⟨(hw _ (List.mem_of_getElem? (i := 109) rfl)), rfl, hnm⟩) (hw _ (List.mem_of_getElem? (i := 9) rfl)) (ty := .int) (by decide) rfl rfl (g := (mkF m 201 #[.val (.ref a), .val (.ref ar), .val (.ref lv), .val (.int fi), .val (.int cn), .val (.double dt), .second, .val (.ref sh), .val (.int (1 : Int32)), .val (.int (1 : Int32)), .val (.int (2 : Int32))] [(.int (1 : Int32)), (.ref a)])) rfl rfl (hb hby d10_201)
              have E_a_201 := E_a_142.wr W201
              have F_a_reflectivity_201 := F_a_reflectivity_142.other W201 (Or.inr (slot_ne (Or.inr (hw _ (List.mem_of_getElem? (i := 97) rfl))) (Or.inr (hw _ (List.mem_of_getElem? (i := 109) rfl))) (by decide) (t := (.array .double)) (t' := .int) (by decide) (by decide)))
              have F_a_levels_201 := F_a_levels_142.other W201 (Or.inr (slot_ne (Or.inr (hw _ (List.mem_of_getElem? (i := 99) rfl))) (Or.inr (hw _ (List.mem_of_getElem? (i := 109) rfl))) (by decide) (t := (.object "java/util/Optional")) (t' := .int) (by decide) (by decide)))
              have F_a_first_201 := F_a_first_142.other W201 (Or.inr (slot_ne (Or.inr (hw _ (List.mem_of_getElem? (i := 101) rfl))) (Or.inr (hw _ (List.mem_of_getElem? (i := 109) rfl))) (by decide) (t := .int) (t' := .int) (by decide) (by decide)))
              have F_a_count_201 := F_a_count_142.other W201 (Or.inr (slot_ne (Or.inr (hw _ (List.mem_of_getElem? (i := 103) rfl))) (Or.inr (hw _ (List.mem_of_getElem? (i := 109) rfl))) (by decide) (t := .int) (t' := .int) (by decide) (by decide)))
              have F_a_intervalMs_201 := F_a_intervalMs_142.other W201 (Or.inr (slot_ne (Or.inr (hw _ (List.mem_of_getElem? (i := 105) rfl))) (Or.inr (hw _ (List.mem_of_getElem? (i := 109) rfl))) (by decide) (t := .double) (t' := .int) (by decide) (by decide)))
              have F_a_shift_201 := F_a_shift_142.other W201 (Or.inr (slot_ne (Or.inr (hw _ (List.mem_of_getElem? (i := 107) rfl))) (Or.inr (hw _ (List.mem_of_getElem? (i := 109) rfl))) (by decide) (t := (.object "java/util/Optional")) (t' := .int) (by decide) (by decide)))
              have F_a_highest_201 := F_a_highest_142.other W201 (Or.inr (slot_ne (Or.inr (hw _ (List.mem_of_getElem? (i := 111) rfl))) (Or.inr (hw _ (List.mem_of_getElem? (i := 109) rfl))) (by decide) (t := .int) (t' := .int) (by decide) (by decide)))
              have V_ar_201 := V_ar_142.other W201 ne_ar
              have E_sh_201 := E_sh_142.wr W201
              have F_sh_value_201 := F_sh_value_142.other W201 (Or.inl ne_sh)
              have E_sp_201 := E_sp_142.wr W201
              have F_sp_meanMs_201 := F_sp_meanMs_142.other W201 (Or.inl ne_sp)
              have F_sp_sdMs_201 := F_sp_sdMs_142.other W201 (Or.inl ne_sp)
              have F_a_lowest_201 := F_a_lowest_142.same W201
              have K201 := K142.wr W201 (Or.inl (List.mem_of_getElem? (i := 0) rfl))
              have N201 := Fr.snoc X201 N142 ga
              have Z201 : n0 ≤ h201.size := Nat.le_trans Z142 (Keep.of_wr W201).1
              refine Dn.st st201 ?_
              show Dn p e below s _ _ _ (T201.setTop (mkF m 204 #[.val (.ref a), .val (.ref ar), .val (.ref lv), .val (.int fi), .val (.int cn), .val (.double dt), .second, .val (.ref sh), .val (.int (1 : Int32)), .val (.int (1 : Int32)), .val (.int (2 : Int32))] []))
              refine Dn.st (fun _ kk => XS.aloadN X201.here hx rfl (hb hby d10_204) rfl rfl (XS.iload X201.here hx rfl (hb hby d10_205) rfl  (kk))) ?_
              show Dn p e below s _ _ _ (T201.setTop (mkF m 207 #[.val (.ref a), .val (.ref ar), .val (.ref lv), .val (.int fi), .val (.int cn), .val (.double dt), .second, .val (.ref sh), .val (.int (1 : Int32)), .val (.int (1 : Int32)), .val (.int (2 : Int32))] [(.int (2 : Int32)), (.ref a)]))
              obtain ⟨T207, h207, X207, e207, W207, st207⟩ := putF X201 hx hZ hown (host := "") (Or.inl (hw _ (List.mem_of_getElem? (i := 110) rfl))) Via.refl e201 F_a_highest_201 E_a_201 (Or.inr ⟨(hw _ (List.mem_of_getElem? (i := 111) rfl)), rfl, hnm⟩) (hw _ (List.mem_of_getElem? (i := 9) rfl)) (ty := .int) (by decide) rfl rfl (g := (mkF m 207 #[.val (.ref a), .val (.ref ar), .val (.ref lv), .val (.int fi), .val (.int cn), .val (.double dt), .second, .val (.ref sh), .val (.int (1 : Int32)), .val (.int (1 : Int32)), .val (.int (2 : Int32))] [(.int (2 : Int32)), (.ref a)])) rfl rfl (hb hby d10_207)
              have E_a_207 := E_a_201.wr W207
              have F_a_reflectivity_207 := F_a_reflectivity_201.other W207 (Or.inr (slot_ne (Or.inr (hw _ (List.mem_of_getElem? (i := 97) rfl))) (Or.inr (hw _ (List.mem_of_getElem? (i := 111) rfl))) (by decide) (t := (.array .double)) (t' := .int) (by decide) (by decide)))
              have F_a_levels_207 := F_a_levels_201.other W207 (Or.inr (slot_ne (Or.inr (hw _ (List.mem_of_getElem? (i := 99) rfl))) (Or.inr (hw _ (List.mem_of_getElem? (i := 111) rfl))) (by decide) (t := (.object "java/util/Optional")) (t' := .int) (by decide) (by decide)))
              have F_a_first_207 := F_a_first_201.other W207 (Or.inr (slot_ne (Or.inr (hw _ (List.mem_of_getElem? (i := 101) rfl))) (Or.inr (hw _ (List.mem_of_getElem? (i := 111) rfl))) (by decide) (t := .int) (t' := .int) (by decide) (by decide)))
              have F_a_count_207 := F_a_count_201.other W207 (Or.inr (slot_ne (Or.inr (hw _ (List.mem_of_getElem? (i := 103) rfl))) (Or.inr (hw _ (List.mem_of_getElem? (i := 111) rfl))) (by decide) (t := .int) (t' := .int) (by decide) (by decide)))
              have F_a_intervalMs_207 := F_a_intervalMs_201.other W207 (Or.inr (slot_ne (Or.inr (hw _ (List.mem_of_getElem? (i := 105) rfl))) (Or.inr (hw _ (List.mem_of_getElem? (i := 111) rfl))) (by decide) (t := .double) (t' := .int) (by decide) (by decide)))
              have F_a_shift_207 := F_a_shift_201.other W207 (Or.inr (slot_ne (Or.inr (hw _ (List.mem_of_getElem? (i := 107) rfl))) (Or.inr (hw _ (List.mem_of_getElem? (i := 111) rfl))) (by decide) (t := (.object "java/util/Optional")) (t' := .int) (by decide) (by decide)))
              have F_a_lowest_207 := F_a_lowest_201.other W207 (Or.inr (slot_ne (Or.inr (hw _ (List.mem_of_getElem? (i := 109) rfl))) (Or.inr (hw _ (List.mem_of_getElem? (i := 111) rfl))) (by decide) (t := .int) (t' := .int) (by decide) (by decide)))
              have V_ar_207 := V_ar_201.other W207 ne_ar
              have E_sh_207 := E_sh_201.wr W207
              have F_sh_value_207 := F_sh_value_201.other W207 (Or.inl ne_sh)
              have E_sp_207 := E_sp_201.wr W207
              have F_sp_meanMs_207 := F_sp_meanMs_201.other W207 (Or.inl ne_sp)
              have F_sp_sdMs_207 := F_sp_sdMs_201.other W207 (Or.inl ne_sp)
              have F_a_highest_207 := F_a_highest_201.same W207
              have K207 := K201.wr W207 (Or.inl (List.mem_of_getElem? (i := 0) rfl))
              have N207 := Fr.snoc X207 N201 ga
              have Z207 : n0 ≤ h207.size := Nat.le_trans Z201 (Keep.of_wr W207).1
              refine Dn.st st207 ?_
              show Dn p e below s _ _ _ (T207.setTop (mkF m 210 #[.val (.ref a), .val (.ref ar), .val (.ref lv), .val (.int fi), .val (.int cn), .val (.double dt), .second, .val (.ref sh), .val (.int (1 : Int32)), .val (.int (1 : Int32)), .val (.int (2 : Int32))] []))
              have eL : (own_low i0 i1 i2 i3 i4) = (1 : Int32) := by unfold own_low; rw [if_pos hi161, if_neg hi161_2]
              have eH : (own_high i0 i1 i2 i3 i4) = (2 : Int32) := by unfold own_high; rw [if_pos hi189, if_pos hi189_2, if_neg hi189_3]
              exact Dn.ret0 X207 hlk hx hret (hb hby d10_210) (by rw [e207]; exact ⟨rfl, N207, K207, E_a_207, F_a_first_207, F_a_count_207, F_a_intervalMs_207, (eL ▸ F_a_lowest_207), (eH ▸ F_a_highest_207)⟩) (by decide) (by decide)
          · have hi189_2 := mt (c3_eq _ _).mpr hc189_2
            refine Dn.st (fun _ kk => XS.ifYes X142.here hx rfl (pc0 := 189) (pc' := 198) rfl (hb hby d10_189) rfl ((if0 _ _).trans (feq hc189_2).2) (by decide) (by decide) (XS.aloadN X142.here hx rfl (hb hby d10_198) rfl rfl (XS.iload X142.here hx rfl (hb hby d10_199) rfl  (kk)))) ?_
            show Dn p e below s _ _ _ (T142.setTop (mkF m 201 #[.val (.ref a), .val (.ref ar), .val (.ref lv), .val (.int fi), .val (.int cn), .val (.double dt), .second, .val (.ref sh), .val (.int (1 : Int32)), .val (.int (1 : Int32)), .val (.int (3 : Int32))] [(.int (1 : Int32)), (.ref a)]))
            obtain ⟨T201, h201, X201, e201, W201, st201⟩ := putF X142 hx hZ hown (host := "") (Or.inl (hw _ (List.mem_of_getElem? (i := 108) rfl))) Via.refl e142 F_a_lowest_142 E_a_142 (Or.inr ⟨(hw _ (List.mem_of_getElem? (i := 109) rfl)), rfl, hnm⟩) (hw _ (List.mem_of_getElem? (i := 9) rfl)) (ty := .int) (by decide) rfl rfl (g := (mkF m 201 #[.val (.ref a), .val (.ref ar), .val (.ref lv), .val (.int fi), .val (.int cn), .val (.double dt), .second, .val (.ref sh), .val (.int (1 : Int32)), .val (.int (1 : Int32)), .val (.int (3 : Int32))] [(.int (1 : Int32)), (.ref a)])) rfl rfl (hb hby d10_201)
            have E_a_201 := E_a_142.wr W201
            have F_a_reflectivity_201 := F_a_reflectivity_142.other W201 (Or.inr (slot_ne (Or.inr (hw _ (List.mem_of_getElem? (i := 97) rfl))) (Or.inr (hw _ (List.mem_of_getElem? (i := 109) rfl))) (by decide) (t := (.array .double)) (t' := .int) (by decide) (by decide)))
            have F_a_levels_201 := F_a_levels_142.other W201 (Or.inr (slot_ne (Or.inr (hw _ (List.mem_of_getElem? (i := 99) rfl))) (Or.inr (hw _ (List.mem_of_getElem? (i := 109) rfl))) (by decide) (t := (.object "java/util/Optional")) (t' := .int) (by decide) (by decide)))
            have F_a_first_201 := F_a_first_142.other W201 (Or.inr (slot_ne (Or.inr (hw _ (List.mem_of_getElem? (i := 101) rfl))) (Or.inr (hw _ (List.mem_of_getElem? (i := 109) rfl))) (by decide) (t := .int) (t' := .int) (by decide) (by decide)))
            have F_a_count_201 := F_a_count_142.other W201 (Or.inr (slot_ne (Or.inr (hw _ (List.mem_of_getElem? (i := 103) rfl))) (Or.inr (hw _ (List.mem_of_getElem? (i := 109) rfl))) (by decide) (t := .int) (t' := .int) (by decide) (by decide)))
            have F_a_intervalMs_201 := F_a_intervalMs_142.other W201 (Or.inr (slot_ne (Or.inr (hw _ (List.mem_of_getElem? (i := 105) rfl))) (Or.inr (hw _ (List.mem_of_getElem? (i := 109) rfl))) (by decide) (t := .double) (t' := .int) (by decide) (by decide)))
            have F_a_shift_201 := F_a_shift_142.other W201 (Or.inr (slot_ne (Or.inr (hw _ (List.mem_of_getElem? (i := 107) rfl))) (Or.inr (hw _ (List.mem_of_getElem? (i := 109) rfl))) (by decide) (t := (.object "java/util/Optional")) (t' := .int) (by decide) (by decide)))
            have F_a_highest_201 := F_a_highest_142.other W201 (Or.inr (slot_ne (Or.inr (hw _ (List.mem_of_getElem? (i := 111) rfl))) (Or.inr (hw _ (List.mem_of_getElem? (i := 109) rfl))) (by decide) (t := .int) (t' := .int) (by decide) (by decide)))
            have V_ar_201 := V_ar_142.other W201 ne_ar
            have E_sh_201 := E_sh_142.wr W201
            have F_sh_value_201 := F_sh_value_142.other W201 (Or.inl ne_sh)
            have E_sp_201 := E_sp_142.wr W201
            have F_sp_meanMs_201 := F_sp_meanMs_142.other W201 (Or.inl ne_sp)
            have F_sp_sdMs_201 := F_sp_sdMs_142.other W201 (Or.inl ne_sp)
            have F_a_lowest_201 := F_a_lowest_142.same W201
            have K201 := K142.wr W201 (Or.inl (List.mem_of_getElem? (i := 0) rfl))
            have N201 := Fr.snoc X201 N142 ga
            have Z201 : n0 ≤ h201.size := Nat.le_trans Z142 (Keep.of_wr W201).1
            refine Dn.st st201 ?_
            show Dn p e below s _ _ _ (T201.setTop (mkF m 204 #[.val (.ref a), .val (.ref ar), .val (.ref lv), .val (.int fi), .val (.int cn), .val (.double dt), .second, .val (.ref sh), .val (.int (1 : Int32)), .val (.int (1 : Int32)), .val (.int (3 : Int32))] []))
            refine Dn.st (fun _ kk => XS.aloadN X201.here hx rfl (hb hby d10_204) rfl rfl (XS.iload X201.here hx rfl (hb hby d10_205) rfl  (kk))) ?_
            show Dn p e below s _ _ _ (T201.setTop (mkF m 207 #[.val (.ref a), .val (.ref ar), .val (.ref lv), .val (.int fi), .val (.int cn), .val (.double dt), .second, .val (.ref sh), .val (.int (1 : Int32)), .val (.int (1 : Int32)), .val (.int (3 : Int32))] [(.int (3 : Int32)), (.ref a)]))
            obtain ⟨T207, h207, X207, e207, W207, st207⟩ := putF X201 hx hZ hown (host := "") (Or.inl (hw _ (List.mem_of_getElem? (i := 110) rfl))) Via.refl e201 F_a_highest_201 E_a_201 (Or.inr ⟨(hw _ (List.mem_of_getElem? (i := 111) rfl)), rfl, hnm⟩) (hw _ (List.mem_of_getElem? (i := 9) rfl)) (ty := .int) (by decide) rfl rfl (g := (mkF m 207 #[.val (.ref a), .val (.ref ar), .val (.ref lv), .val (.int fi), .val (.int cn), .val (.double dt), .second, .val (.ref sh), .val (.int (1 : Int32)), .val (.int (1 : Int32)), .val (.int (3 : Int32))] [(.int (3 : Int32)), (.ref a)])) rfl rfl (hb hby d10_207)
            have E_a_207 := E_a_201.wr W207
            have F_a_reflectivity_207 := F_a_reflectivity_201.other W207 (Or.inr (slot_ne (Or.inr (hw _ (List.mem_of_getElem? (i := 97) rfl))) (Or.inr (hw _ (List.mem_of_getElem? (i := 111) rfl))) (by decide) (t := (.array .double)) (t' := .int) (by decide) (by decide)))
            have F_a_levels_207 := F_a_levels_201.other W207 (Or.inr (slot_ne (Or.inr (hw _ (List.mem_of_getElem? (i := 99) rfl))) (Or.inr (hw _ (List.mem_of_getElem? (i := 111) rfl))) (by decide) (t := (.object "java/util/Optional")) (t' := .int) (by decide) (by decide)))
            have F_a_first_207 := F_a_first_201.other W207 (Or.inr (slot_ne (Or.inr (hw _ (List.mem_of_getElem? (i := 101) rfl))) (Or.inr (hw _ (List.mem_of_getElem? (i := 111) rfl))) (by decide) (t := .int) (t' := .int) (by decide) (by decide)))
            have F_a_count_207 := F_a_count_201.other W207 (Or.inr (slot_ne (Or.inr (hw _ (List.mem_of_getElem? (i := 103) rfl))) (Or.inr (hw _ (List.mem_of_getElem? (i := 111) rfl))) (by decide) (t := .int) (t' := .int) (by decide) (by decide)))
            have F_a_intervalMs_207 := F_a_intervalMs_201.other W207 (Or.inr (slot_ne (Or.inr (hw _ (List.mem_of_getElem? (i := 105) rfl))) (Or.inr (hw _ (List.mem_of_getElem? (i := 111) rfl))) (by decide) (t := .double) (t' := .int) (by decide) (by decide)))
            have F_a_shift_207 := F_a_shift_201.other W207 (Or.inr (slot_ne (Or.inr (hw _ (List.mem_of_getElem? (i := 107) rfl))) (Or.inr (hw _ (List.mem_of_getElem? (i := 111) rfl))) (by decide) (t := (.object "java/util/Optional")) (t' := .int) (by decide) (by decide)))
            have F_a_lowest_207 := F_a_lowest_201.other W207 (Or.inr (slot_ne (Or.inr (hw _ (List.mem_of_getElem? (i := 109) rfl))) (Or.inr (hw _ (List.mem_of_getElem? (i := 111) rfl))) (by decide) (t := .int) (t' := .int) (by decide) (by decide)))
            have V_ar_207 := V_ar_201.other W207 ne_ar
            have E_sh_207 := E_sh_201.wr W207
            have F_sh_value_207 := F_sh_value_201.other W207 (Or.inl ne_sh)
            have E_sp_207 := E_sp_201.wr W207
            have F_sp_meanMs_207 := F_sp_meanMs_201.other W207 (Or.inl ne_sp)
            have F_sp_sdMs_207 := F_sp_sdMs_201.other W207 (Or.inl ne_sp)
            have F_a_highest_207 := F_a_highest_201.same W207
            have K207 := K201.wr W207 (Or.inl (List.mem_of_getElem? (i := 0) rfl))
            have N207 := Fr.snoc X207 N201 ga
            have Z207 : n0 ≤ h207.size := Nat.le_trans Z201 (Keep.of_wr W207).1
            refine Dn.st st207 ?_
            show Dn p e below s _ _ _ (T207.setTop (mkF m 210 #[.val (.ref a), .val (.ref ar), .val (.ref lv), .val (.int fi), .val (.int cn), .val (.double dt), .second, .val (.ref sh), .val (.int (1 : Int32)), .val (.int (1 : Int32)), .val (.int (3 : Int32))] []))
            have eL : (own_low i0 i1 i2 i3 i4) = (1 : Int32) := by unfold own_low; rw [if_pos hi161, if_neg hi161_2]
            have eH : (own_high i0 i1 i2 i3 i4) = (3 : Int32) := by unfold own_high; rw [if_pos hi189, if_neg hi189_2]
            exact Dn.ret0 X207 hlk hx hret (hb hby d10_210) (by rw [e207]; exact ⟨rfl, N207, K207, E_a_207, F_a_first_207, F_a_count_207, F_a_intervalMs_207, (eL ▸ F_a_lowest_207), (eH ▸ F_a_highest_207)⟩) (by decide) (by decide)
        · have hi189 := mt (c3_eq _ _).mpr hc189
          refine Dn.st (fun _ kk => XS.ifYes X142.here hx rfl (pc0 := 189) (pc' := 198) rfl (hb hby d10_189) rfl ((if0 _ _).trans (feq hc189).2) (by decide) (by decide) (XS.aloadN X142.here hx rfl (hb hby d10_198) rfl rfl (XS.iload X142.here hx rfl (hb hby d10_199) rfl  (kk)))) ?_
          show Dn p e below s _ _ _ (T142.setTop (mkF m 201 #[.val (.ref a), .val (.ref ar), .val (.ref lv), .val (.int fi), .val (.int cn), .val (.double dt), .second, .val (.ref sh), .val (.int (1 : Int32)), .val (.int (1 : Int32)), .val (.int (4 : Int32))] [(.int (1 : Int32)), (.ref a)]))
          obtain ⟨T201, h201, X201, e201, W201, st201⟩ := putF X142 hx hZ hown (host := "") (Or.inl (hw _ (List.mem_of_getElem? (i := 108) rfl))) Via.refl e142 F_a_lowest_142 E_a_142 (Or.inr ⟨(hw _ (List.mem_of_getElem? (i := 109) rfl)), rfl, hnm⟩) (hw _ (List.mem_of_getElem? (i := 9) rfl)) (ty := .int) (by decide) rfl rfl (g := (mkF m 201 #[.val (.ref a), .val (.ref ar), .val (.ref lv), .val (.int fi), .val (.int cn), .val (.double dt), .second, .val (.ref sh), .val (.int (1 : Int32)), .val (.int (1 : Int32)), .val (.int (4 : Int32))] [(.int (1 : Int32)), (.ref a)])) rfl rfl (hb hby d10_201)
          have E_a_201 := E_a_142.wr W201
          have F_a_reflectivity_201 := F_a_reflectivity_142.other W201 (Or.inr (slot_ne (Or.inr (hw _ (List.mem_of_getElem? (i := 97) rfl))) (Or.inr (hw _ (List.mem_of_getElem? (i := 109) rfl))) (by decide) (t := (.array .double)) (t' := .int) (by decide) (by decide)))
          have F_a_levels_201 := F_a_levels_142.other W201 (Or.inr (slot_ne (Or.inr (hw _ (List.mem_of_getElem? (i := 99) rfl))) (Or.inr (hw _ (List.mem_of_getElem? (i := 109) rfl))) (by decide) (t := (.object "java/util/Optional")) (t' := .int) (by decide) (by decide)))
          have F_a_first_201 := F_a_first_142.other W201 (Or.inr (slot_ne (Or.inr (hw _ (List.mem_of_getElem? (i := 101) rfl))) (Or.inr (hw _ (List.mem_of_getElem? (i := 109) rfl))) (by decide) (t := .int) (t' := .int) (by decide) (by decide)))
          have F_a_count_201 := F_a_count_142.other W201 (Or.inr (slot_ne (Or.inr (hw _ (List.mem_of_getElem? (i := 103) rfl))) (Or.inr (hw _ (List.mem_of_getElem? (i := 109) rfl))) (by decide) (t := .int) (t' := .int) (by decide) (by decide)))
          have F_a_intervalMs_201 := F_a_intervalMs_142.other W201 (Or.inr (slot_ne (Or.inr (hw _ (List.mem_of_getElem? (i := 105) rfl))) (Or.inr (hw _ (List.mem_of_getElem? (i := 109) rfl))) (by decide) (t := .double) (t' := .int) (by decide) (by decide)))
          have F_a_shift_201 := F_a_shift_142.other W201 (Or.inr (slot_ne (Or.inr (hw _ (List.mem_of_getElem? (i := 107) rfl))) (Or.inr (hw _ (List.mem_of_getElem? (i := 109) rfl))) (by decide) (t := (.object "java/util/Optional")) (t' := .int) (by decide) (by decide)))
          have F_a_highest_201 := F_a_highest_142.other W201 (Or.inr (slot_ne (Or.inr (hw _ (List.mem_of_getElem? (i := 111) rfl))) (Or.inr (hw _ (List.mem_of_getElem? (i := 109) rfl))) (by decide) (t := .int) (t' := .int) (by decide) (by decide)))
          have V_ar_201 := V_ar_142.other W201 ne_ar
          have E_sh_201 := E_sh_142.wr W201
          have F_sh_value_201 := F_sh_value_142.other W201 (Or.inl ne_sh)
          have E_sp_201 := E_sp_142.wr W201
          have F_sp_meanMs_201 := F_sp_meanMs_142.other W201 (Or.inl ne_sp)
          have F_sp_sdMs_201 := F_sp_sdMs_142.other W201 (Or.inl ne_sp)
          have F_a_lowest_201 := F_a_lowest_142.same W201
          have K201 := K142.wr W201 (Or.inl (List.mem_of_getElem? (i := 0) rfl))
          have N201 := Fr.snoc X201 N142 ga
          have Z201 : n0 ≤ h201.size := Nat.le_trans Z142 (Keep.of_wr W201).1
          refine Dn.st st201 ?_
          show Dn p e below s _ _ _ (T201.setTop (mkF m 204 #[.val (.ref a), .val (.ref ar), .val (.ref lv), .val (.int fi), .val (.int cn), .val (.double dt), .second, .val (.ref sh), .val (.int (1 : Int32)), .val (.int (1 : Int32)), .val (.int (4 : Int32))] []))
          refine Dn.st (fun _ kk => XS.aloadN X201.here hx rfl (hb hby d10_204) rfl rfl (XS.iload X201.here hx rfl (hb hby d10_205) rfl  (kk))) ?_
          show Dn p e below s _ _ _ (T201.setTop (mkF m 207 #[.val (.ref a), .val (.ref ar), .val (.ref lv), .val (.int fi), .val (.int cn), .val (.double dt), .second, .val (.ref sh), .val (.int (1 : Int32)), .val (.int (1 : Int32)), .val (.int (4 : Int32))] [(.int (4 : Int32)), (.ref a)]))
          obtain ⟨T207, h207, X207, e207, W207, st207⟩ := putF X201 hx hZ hown (host := "") (Or.inl (hw _ (List.mem_of_getElem? (i := 110) rfl))) Via.refl e201 F_a_highest_201 E_a_201 (Or.inr ⟨(hw _ (List.mem_of_getElem? (i := 111) rfl)), rfl, hnm⟩) (hw _ (List.mem_of_getElem? (i := 9) rfl)) (ty := .int) (by decide) rfl rfl (g := (mkF m 207 #[.val (.ref a), .val (.ref ar), .val (.ref lv), .val (.int fi), .val (.int cn), .val (.double dt), .second, .val (.ref sh), .val (.int (1 : Int32)), .val (.int (1 : Int32)), .val (.int (4 : Int32))] [(.int (4 : Int32)), (.ref a)])) rfl rfl (hb hby d10_207)
          have E_a_207 := E_a_201.wr W207
          have F_a_reflectivity_207 := F_a_reflectivity_201.other W207 (Or.inr (slot_ne (Or.inr (hw _ (List.mem_of_getElem? (i := 97) rfl))) (Or.inr (hw _ (List.mem_of_getElem? (i := 111) rfl))) (by decide) (t := (.array .double)) (t' := .int) (by decide) (by decide)))
          have F_a_levels_207 := F_a_levels_201.other W207 (Or.inr (slot_ne (Or.inr (hw _ (List.mem_of_getElem? (i := 99) rfl))) (Or.inr (hw _ (List.mem_of_getElem? (i := 111) rfl))) (by decide) (t := (.object "java/util/Optional")) (t' := .int) (by decide) (by decide)))
          have F_a_first_207 := F_a_first_201.other W207 (Or.inr (slot_ne (Or.inr (hw _ (List.mem_of_getElem? (i := 101) rfl))) (Or.inr (hw _ (List.mem_of_getElem? (i := 111) rfl))) (by decide) (t := .int) (t' := .int) (by decide) (by decide)))
          have F_a_count_207 := F_a_count_201.other W207 (Or.inr (slot_ne (Or.inr (hw _ (List.mem_of_getElem? (i := 103) rfl))) (Or.inr (hw _ (List.mem_of_getElem? (i := 111) rfl))) (by decide) (t := .int) (t' := .int) (by decide) (by decide)))
          have F_a_intervalMs_207 := F_a_intervalMs_201.other W207 (Or.inr (slot_ne (Or.inr (hw _ (List.mem_of_getElem? (i := 105) rfl))) (Or.inr (hw _ (List.mem_of_getElem? (i := 111) rfl))) (by decide) (t := .double) (t' := .int) (by decide) (by decide)))
          have F_a_shift_207 := F_a_shift_201.other W207 (Or.inr (slot_ne (Or.inr (hw _ (List.mem_of_getElem? (i := 107) rfl))) (Or.inr (hw _ (List.mem_of_getElem? (i := 111) rfl))) (by decide) (t := (.object "java/util/Optional")) (t' := .int) (by decide) (by decide)))
          have F_a_lowest_207 := F_a_lowest_201.other W207 (Or.inr (slot_ne (Or.inr (hw _ (List.mem_of_getElem? (i := 109) rfl))) (Or.inr (hw _ (List.mem_of_getElem? (i := 111) rfl))) (by decide) (t := .int) (t' := .int) (by decide) (by decide)))
          have V_ar_207 := V_ar_201.other W207 ne_ar
          have E_sh_207 := E_sh_201.wr W207
          have F_sh_value_207 := F_sh_value_201.other W207 (Or.inl ne_sh)
          have E_sp_207 := E_sp_201.wr W207
          have F_sp_meanMs_207 := F_sp_meanMs_201.other W207 (Or.inl ne_sp)
          have F_sp_sdMs_207 := F_sp_sdMs_201.other W207 (Or.inl ne_sp)
          have F_a_highest_207 := F_a_highest_201.same W207
          have K207 := K201.wr W207 (Or.inl (List.mem_of_getElem? (i := 0) rfl))
          have N207 := Fr.snoc X207 N201 ga
          have Z207 : n0 ≤ h207.size := Nat.le_trans Z201 (Keep.of_wr W207).1
          refine Dn.st st207 ?_
          show Dn p e below s _ _ _ (T207.setTop (mkF m 210 #[.val (.ref a), .val (.ref ar), .val (.ref lv), .val (.int fi), .val (.int cn), .val (.double dt), .second, .val (.ref sh), .val (.int (1 : Int32)), .val (.int (1 : Int32)), .val (.int (4 : Int32))] []))
          have eL : (own_low i0 i1 i2 i3 i4) = (1 : Int32) := by unfold own_low; rw [if_pos hi161, if_neg hi161_2]
          have eH : (own_high i0 i1 i2 i3 i4) = (4 : Int32) := by unfold own_high; rw [if_neg hi189]
          exact Dn.ret0 X207 hlk hx hret (hb hby d10_210) (by rw [e207]; exact ⟨rfl, N207, K207, E_a_207, F_a_first_207, F_a_count_207, F_a_intervalMs_207, (eL ▸ F_a_lowest_207), (eH ▸ F_a_highest_207)⟩) (by decide) (by decide)
    · have hi161 := mt (c3_eq _ _).mpr hc161
      refine Dn.st (fun _ kk => XS.ifYes X142.here hx rfl (pc0 := 161) (pc' := 170) rfl (hb hby d10_161) rfl ((if0 _ _).trans (feq hc161).2) (by decide) (by decide) (XS.aloadN X142.here hx rfl (hb hby d10_170) rfl rfl (kk))) ?_
      show Dn p e below s _ _ _ (T142.setTop (mkF m 171 #[.val (.ref a), .val (.ref ar), .val (.ref lv), .val (.int fi), .val (.int cn), .val (.double dt), .second, .val (.ref sh), .val (.int (1 : Int32)), .val (.int (0 : Int32)), .unset] [(.ref ar)]))
      have Vc_ar_171 := V_ar_142
      obtain ⟨cl_ar_171, Ar_ar_171, q_ar_171, S_ar_171, N_ar_171, H_ar_171, G_ar_171⟩ := Vc_ar_171
      refine Dn.st (fun _ kk => X142.arraylength hx (by rw [e142]; exact Ar_ar_171.1) (State.isArrayOf_alike hZ.alike Ar_ar_171.2.1) (g := (mkF m 171 #[.val (.ref a), .val (.ref ar), .val (.ref lv), .val (.int fi), .val (.int cn), .val (.double dt), .second, .val (.ref sh), .val (.int (1 : Int32)), .val (.int (0 : Int32)), .unset] [(.ref ar)])) rfl rfl (hb hby d10_171) _ (kk)) ?_
      show Dn p e below s _ _ _ (T142.setTop (mkF m 172 #[.val (.ref a), .val (.ref ar), .val (.ref lv), .val (.int fi), .val (.int cn), .val (.double dt), .second, .val (.ref sh), .val (.int (1 : Int32)), .val (.int (0 : Int32)), .unset] [(.int cl_ar_171.slots.size.toInt32)]))
      rw [len_of S_ar_171 N_ar_171]
      show Dn p e below s _ _ _ (T142.setTop (mkF m 172 #[.val (.ref a), .val (.ref ar), .val (.ref lv), .val (.int fi), .val (.int cn), .val (.double dt), .second, .val (.ref sh), .val (.int (1 : Int32)), .val (.int (0 : Int32)), .unset] [(.int (5 : Int32))]))
      refine Dn.st (fun _ kk => XS.iconst X142.here hx rfl (hb hby d10_172) (XS.isub X142.here hx rfl (hb hby d10_173) rfl (XS.istore X142.here hx rfl (hb hby d10_174) rfl (l' := #[.val (.ref a), .val (.ref ar), .val (.ref lv), .val (.int fi), .val (.int cn), .val (.double dt), .second, .val (.ref sh), .val (.int (1 : Int32)), .val (.int (0 : Int32)), .val (.int (4 : Int32))]) rfl (XS.iload X142.here hx rfl (hb hby d10_176) rfl  (XS.iload X142.here hx rfl (hb hby d10_178) rfl  (kk)))))) ?_
      show Dn p e below s _ _ _ (T142.setTop (mkF m 180 #[.val (.ref a), .val (.ref ar), .val (.ref lv), .val (.int fi), .val (.int cn), .val (.double dt), .second, .val (.ref sh), .val (.int (1 : Int32)), .val (.int (0 : Int32)), .val (.int (4 : Int32))] [(.int (0 : Int32)), (.int (4 : Int32))]))
      have hc180 : ¬ ((4 : Int32) < (0 : Int32)) := by decide
      refine Dn.st (fun _ kk => XS.icmpNo X142.here hx rfl (hb hby d10_180) rfl (flt hc180).1 (XS.aloadN X142.here hx rfl (hb hby d10_183) rfl rfl (XS.iload X142.here hx rfl (hb hby d10_184) rfl  (kk)))) ?_
      show Dn p e below s _ _ _ (T142.setTop (mkF m 186 #[.val (.ref a), .val (.ref ar), .val (.ref lv), .val (.int fi), .val (.int cn), .val (.double dt), .second, .val (.ref sh), .val (.int (1 : Int32)), .val (.int (0 : Int32)), .val (.int (4 : Int32))] [(.int (4 : Int32)), (.ref ar)]))
      have Vc_ar_186 := V_ar_142
      obtain ⟨cl_ar_186, Ar_ar_186, q_ar_186, S_ar_186, N_ar_186, H_ar_186, G_ar_186⟩ := Vc_ar_186
      have hin186 : ¬ ((4 : Int32) < 0 ∨ cl_ar_186.slots.size ≤ ((4 : Int32)).toNatClampNeg) := inb_of S_ar_186 ⟨by decide, by decide⟩
      have hat186 : cl_ar_186.slots[((4 : Int32)).toNatClampNeg]? = some (.double z4) := H_ar_186.at hin186 rfl
      refine Dn.st (fun _ kk => X142.daload hx (j := (4 : Int32)) (v := (.double z4)) (by rw [e142]; exact Ar_ar_186.1) (State.isArrayOf_alike hZ.alike Ar_ar_186.2.1) Ar_ar_186.2.2 hin186 hat186 (g := (mkF m 186 #[.val (.ref a), .val (.ref ar), .val (.ref lv), .val (.int fi), .val (.int cn), .val (.double dt), .second, .val (.ref sh), .val (.int (1 : Int32)), .val (.int (0 : Int32)), .val (.int (4 : Int32))] [(.int (4 : Int32)), (.ref ar)])) rfl rfl (hb hby d10_186) _ (XS.dconst0 X142.here hx rfl (hb hby d10_187) rfl (XS.dcmpS X142.here hx rfl (hb hby d10_188) rfl (DS.cmpV d_z4 dc_0 _) (kk)))) ?_
      show Dn p e below s _ _ _ (T142.setTop (mkF m 189 #[.val (.ref a), .val (.ref ar), .val (.ref lv), .val (.int fi), .val (.int cn), .val (.double dt), .second, .val (.ref sh), .val (.int (1 : Int32)), .val (.int (0 : Int32)), .val (.int (4 : Int32))] [(.int (c3 i4 0))]))
      by_cases hc189 : (c3 i4 0) = (0 : Int32)
      · have hi189 := (c3_eq _ _).mp hc189
        refine Dn.st (fun _ kk => XS.ifNo X142.here hx rfl (hb hby d10_189) rfl ((if0 _ _).trans (teq hc189).2) (XS.iinc X142.here hx rfl (hb hby d10_192) rfl (l' := #[.val (.ref a), .val (.ref ar), .val (.ref lv), .val (.int fi), .val (.int cn), .val (.double dt), .second, .val (.ref sh), .val (.int (1 : Int32)), .val (.int (0 : Int32)), .val (.int (3 : Int32))]) rfl (XS.goto X142.here hx rfl (pc0 := 195) (pc' := 176) rfl (hb hby d10_195) (by decide) (by decide) (XS.iload X142.here hx rfl (hb hby d10_176) rfl  (XS.iload X142.here hx rfl (hb hby d10_178) rfl  (kk)))))) ?_
        show Dn p e below s _ _ _ (T142.setTop (mkF m 180 #[.val (.ref a), .val (.ref ar), .val (.ref lv), .val (.int fi), .val (.int cn), .val (.double dt), .second, .val (.ref sh), .val (.int (1 : Int32)), .val (.int (0 : Int32)), .val (.int (3 : Int32))] [(.int (0 : Int32)), (.int (3 : Int32))]))
        have hc180_2 : ¬ ((3 : Int32) < (0 : Int32)) := by decide
        refine Dn.st (fun _ kk => XS.icmpNo X142.here hx rfl (hb hby d10_180) rfl (flt hc180_2).1 (XS.aloadN X142.here hx rfl (hb hby d10_183) rfl rfl (XS.iload X142.here hx rfl (hb hby d10_184) rfl  (kk)))) ?_
        show Dn p e below s _ _ _ (T142.setTop (mkF m 186 #[.val (.ref a), .val (.ref ar), .val (.ref lv), .val (.int fi), .val (.int cn), .val (.double dt), .second, .val (.ref sh), .val (.int (1 : Int32)), .val (.int (0 : Int32)), .val (.int (3 : Int32))] [(.int (3 : Int32)), (.ref ar)]))
        have Vc_ar_186_2 := V_ar_142
        obtain ⟨cl_ar_186_2, Ar_ar_186_2, q_ar_186_2, S_ar_186_2, N_ar_186_2, H_ar_186_2, G_ar_186_2⟩ := Vc_ar_186_2
        have hin186_2 : ¬ ((3 : Int32) < 0 ∨ cl_ar_186_2.slots.size ≤ ((3 : Int32)).toNatClampNeg) := inb_of S_ar_186_2 ⟨by decide, by decide⟩
        have hat186_2 : cl_ar_186_2.slots[((3 : Int32)).toNatClampNeg]? = some (.double z3) := H_ar_186_2.at hin186_2 rfl
        refine Dn.st (fun _ kk => X142.daload hx (j := (3 : Int32)) (v := (.double z3)) (by rw [e142]; exact Ar_ar_186_2.1) (State.isArrayOf_alike hZ.alike Ar_ar_186_2.2.1) Ar_ar_186_2.2.2 hin186_2 hat186_2 (g := (mkF m 186 #[.val (.ref a), .val (.ref ar), .val (.ref lv), .val (.int fi), .val (.int cn), .val (.double dt), .second, .val (.ref sh), .val (.int (1 : Int32)), .val (.int (0 : Int32)), .val (.int (3 : Int32))] [(.int (3 : Int32)), (.ref ar)])) rfl rfl (hb hby d10_186) _ (XS.dconst0 X142.here hx rfl (hb hby d10_187) rfl (XS.dcmpS X142.here hx rfl (hb hby d10_188) rfl (DS.cmpV d_z3 dc_0 _) (kk)))) ?_
        show Dn p e below s _ _ _ (T142.setTop (mkF m 189 #[.val (.ref a), .val (.ref ar), .val (.ref lv), .val (.int fi), .val (.int cn), .val (.double dt), .second, .val (.ref sh), .val (.int (1 : Int32)), .val (.int (0 : Int32)), .val (.int (3 : Int32))] [(.int (c3 i3 0))]))
        by_cases hc189_2 : (c3 i3 0) = (0 : Int32)
        · have hi189_2 := (c3_eq _ _).mp hc189_2
          refine Dn.st (fun _ kk => XS.ifNo X142.here hx rfl (hb hby d10_189) rfl ((if0 _ _).trans (teq hc189_2).2) (XS.iinc X142.here hx rfl (hb hby d10_192) rfl (l' := #[.val (.ref a), .val (.ref ar), .val (.ref lv), .val (.int fi), .val (.int cn), .val (.double dt), .second, .val (.ref sh), .val (.int (1 : Int32)), .val (.int (0 : Int32)), .val (.int (2 : Int32))]) rfl (XS.goto X142.here hx rfl (pc0 := 195) (pc' := 176) rfl (hb hby d10_195) (by decide) (by decide) (XS.iload X142.here hx rfl (hb hby d10_176) rfl  (XS.iload X142.here hx rfl (hb hby d10_178) rfl  (kk)))))) ?_
          show Dn p e below s _ _ _ (T142.setTop (mkF m 180 #[.val (.ref a), .val (.ref ar), .val (.ref lv), .val (.int fi), .val (.int cn), .val (.double dt), .second, .val (.ref sh), .val (.int (1 : Int32)), .val (.int (0 : Int32)), .val (.int (2 : Int32))] [(.int (0 : Int32)), (.int (2 : Int32))]))
          have hc180_3 : ¬ ((2 : Int32) < (0 : Int32)) := by decide
          refine Dn.st (fun _ kk => XS.icmpNo X142.here hx rfl (hb hby d10_180) rfl (flt hc180_3).1 (XS.aloadN X142.here hx rfl (hb hby d10_183) rfl rfl (XS.iload X142.here hx rfl (hb hby d10_184) rfl  (kk)))) ?_
          show Dn p e below s _ _ _ (T142.setTop (mkF m 186 #[.val (.ref a), .val (.ref ar), .val (.ref lv), .val (.int fi), .val (.int cn), .val (.double dt), .second, .val (.ref sh), .val (.int (1 : Int32)), .val (.int (0 : Int32)), .val (.int (2 : Int32))] [(.int (2 : Int32)), (.ref ar)]))
          have Vc_ar_186_3 := V_ar_142
          obtain ⟨cl_ar_186_3, Ar_ar_186_3, q_ar_186_3, S_ar_186_3, N_ar_186_3, H_ar_186_3, G_ar_186_3⟩ := Vc_ar_186_3
          have hin186_3 : ¬ ((2 : Int32) < 0 ∨ cl_ar_186_3.slots.size ≤ ((2 : Int32)).toNatClampNeg) := inb_of S_ar_186_3 ⟨by decide, by decide⟩
          have hat186_3 : cl_ar_186_3.slots[((2 : Int32)).toNatClampNeg]? = some (.double z2) := H_ar_186_3.at hin186_3 rfl
          refine Dn.st (fun _ kk => X142.daload hx (j := (2 : Int32)) (v := (.double z2)) (by rw [e142]; exact Ar_ar_186_3.1) (State.isArrayOf_alike hZ.alike Ar_ar_186_3.2.1) Ar_ar_186_3.2.2 hin186_3 hat186_3 (g := (mkF m 186 #[.val (.ref a), .val (.ref ar), .val (.ref lv), .val (.int fi), .val (.int cn), .val (.double dt), .second, .val (.ref sh), .val (.int (1 : Int32)), .val (.int (0 : Int32)), .val (.int (2 : Int32))] [(.int (2 : Int32)), (.ref ar)])) rfl rfl (hb hby d10_186) _ (XS.dconst0 X142.here hx rfl (hb hby d10_187) rfl (XS.dcmpS X142.here hx rfl (hb hby d10_188) rfl (DS.cmpV d_z2 dc_0 _) (kk)))) ?_
          show Dn p e below s _ _ _ (T142.setTop (mkF m 189 #[.val (.ref a), .val (.ref ar), .val (.ref lv), .val (.int fi), .val (.int cn), .val (.double dt), .second, .val (.ref sh), .val (.int (1 : Int32)), .val (.int (0 : Int32)), .val (.int (2 : Int32))] [(.int (c3 i2 0))]))
          by_cases hc189_3 : (c3 i2 0) = (0 : Int32)
          · have hi189_3 := (c3_eq _ _).mp hc189_3
            refine Dn.st (fun _ kk => XS.ifNo X142.here hx rfl (hb hby d10_189) rfl ((if0 _ _).trans (teq hc189_3).2) (XS.iinc X142.here hx rfl (hb hby d10_192) rfl (l' := #[.val (.ref a), .val (.ref ar), .val (.ref lv), .val (.int fi), .val (.int cn), .val (.double dt), .second, .val (.ref sh), .val (.int (1 : Int32)), .val (.int (0 : Int32)), .val (.int (1 : Int32))]) rfl (XS.goto X142.here hx rfl (pc0 := 195) (pc' := 176) rfl (hb hby d10_195) (by decide) (by decide) (XS.iload X142.here hx rfl (hb hby d10_176) rfl  (XS.iload X142.here hx rfl (hb hby d10_178) rfl  (kk)))))) ?_
            show Dn p e below s _ _ _ (T142.setTop (mkF m 180 #[.val (.ref a), .val (.ref ar), .val (.ref lv), .val (.int fi), .val (.int cn), .val (.double dt), .second, .val (.ref sh), .val (.int (1 : Int32)), .val (.int (0 : Int32)), .val (.int (1 : Int32))] [(.int (0 : Int32)), (.int (1 : Int32))]))
            have hc180_4 : ¬ ((1 : Int32) < (0 : Int32)) := by decide
            refine Dn.st (fun _ kk => XS.icmpNo X142.here hx rfl (hb hby d10_180) rfl (flt hc180_4).1 (XS.aloadN X142.here hx rfl (hb hby d10_183) rfl rfl (XS.iload X142.here hx rfl (hb hby d10_184) rfl  (kk)))) ?_
            show Dn p e below s _ _ _ (T142.setTop (mkF m 186 #[.val (.ref a), .val (.ref ar), .val (.ref lv), .val (.int fi), .val (.int cn), .val (.double dt), .second, .val (.ref sh), .val (.int (1 : Int32)), .val (.int (0 : Int32)), .val (.int (1 : Int32))] [(.int (1 : Int32)), (.ref ar)]))
            have Vc_ar_186_4 := V_ar_142
            obtain ⟨cl_ar_186_4, Ar_ar_186_4, q_ar_186_4, S_ar_186_4, N_ar_186_4, H_ar_186_4, G_ar_186_4⟩ := Vc_ar_186_4
            have hin186_4 : ¬ ((1 : Int32) < 0 ∨ cl_ar_186_4.slots.size ≤ ((1 : Int32)).toNatClampNeg) := inb_of S_ar_186_4 ⟨by decide, by decide⟩
            have hat186_4 : cl_ar_186_4.slots[((1 : Int32)).toNatClampNeg]? = some (.double z1) := H_ar_186_4.at hin186_4 rfl
            refine Dn.st (fun _ kk => X142.daload hx (j := (1 : Int32)) (v := (.double z1)) (by rw [e142]; exact Ar_ar_186_4.1) (State.isArrayOf_alike hZ.alike Ar_ar_186_4.2.1) Ar_ar_186_4.2.2 hin186_4 hat186_4 (g := (mkF m 186 #[.val (.ref a), .val (.ref ar), .val (.ref lv), .val (.int fi), .val (.int cn), .val (.double dt), .second, .val (.ref sh), .val (.int (1 : Int32)), .val (.int (0 : Int32)), .val (.int (1 : Int32))] [(.int (1 : Int32)), (.ref ar)])) rfl rfl (hb hby d10_186) _ (XS.dconst0 X142.here hx rfl (hb hby d10_187) rfl (XS.dcmpS X142.here hx rfl (hb hby d10_188) rfl (DS.cmpV d_z1 dc_0 _) (kk)))) ?_
            show Dn p e below s _ _ _ (T142.setTop (mkF m 189 #[.val (.ref a), .val (.ref ar), .val (.ref lv), .val (.int fi), .val (.int cn), .val (.double dt), .second, .val (.ref sh), .val (.int (1 : Int32)), .val (.int (0 : Int32)), .val (.int (1 : Int32))] [(.int (c3 i1 0))]))
            by_cases hc189_4 : (c3 i1 0) = (0 : Int32)
            · have hi189_4 := (c3_eq _ _).mp hc189_4
              refine Dn.st (fun _ kk => XS.ifNo X142.here hx rfl (hb hby d10_189) rfl ((if0 _ _).trans (teq hc189_4).2) (XS.iinc X142.here hx rfl (hb hby d10_192) rfl (l' := #[.val (.ref a), .val (.ref ar), .val (.ref lv), .val (.int fi), .val (.int cn), .val (.double dt), .second, .val (.ref sh), .val (.int (1 : Int32)), .val (.int (0 : Int32)), .val (.int (0 : Int32))]) rfl (XS.goto X142.here hx rfl (pc0 := 195) (pc' := 176) rfl (hb hby d10_195) (by decide) (by decide) (XS.iload X142.here hx rfl (hb hby d10_176) rfl  (XS.iload X142.here hx rfl (hb hby d10_178) rfl  (kk)))))) ?_
              show Dn p e below s _ _ _ (T142.setTop (mkF m 180 #[.val (.ref a), .val (.ref ar), .val (.ref lv), .val (.int fi), .val (.int cn), .val (.double dt), .second, .val (.ref sh), .val (.int (1 : Int32)), .val (.int (0 : Int32)), .val (.int (0 : Int32))] [(.int (0 : Int32)), (.int (0 : Int32))]))
              have hc180_5 : ¬ ((0 : Int32) < (0 : Int32)) := by decide
              refine Dn.st (fun _ kk => XS.icmpNo X142.here hx rfl (hb hby d10_180) rfl (flt hc180_5).1 (XS.aloadN X142.here hx rfl (hb hby d10_183) rfl rfl (XS.iload X142.here hx rfl (hb hby d10_184) rfl  (kk)))) ?_
              show Dn p e below s _ _ _ (T142.setTop (mkF m 186 #[.val (.ref a), .val (.ref ar), .val (.ref lv), .val (.int fi), .val (.int cn), .val (.double dt), .second, .val (.ref sh), .val (.int (1 : Int32)), .val (.int (0 : Int32)), .val (.int (0 : Int32))] [(.int (0 : Int32)), (.ref ar)]))
              have Vc_ar_186_5 := V_ar_142
              obtain ⟨cl_ar_186_5, Ar_ar_186_5, q_ar_186_5, S_ar_186_5, N_ar_186_5, H_ar_186_5, G_ar_186_5⟩ := Vc_ar_186_5
              have hin186_5 : ¬ ((0 : Int32) < 0 ∨ cl_ar_186_5.slots.size ≤ ((0 : Int32)).toNatClampNeg) := inb_of S_ar_186_5 ⟨by decide, by decide⟩
              have hat186_5 : cl_ar_186_5.slots[((0 : Int32)).toNatClampNeg]? = some (.double z0) := H_ar_186_5.at hin186_5 rfl
              refine Dn.st (fun _ kk => X142.daload hx (j := (0 : Int32)) (v := (.double z0)) (by rw [e142]; exact Ar_ar_186_5.1) (State.isArrayOf_alike hZ.alike Ar_ar_186_5.2.1) Ar_ar_186_5.2.2 hin186_5 hat186_5 (g := (mkF m 186 #[.val (.ref a), .val (.ref ar), .val (.ref lv), .val (.int fi), .val (.int cn), .val (.double dt), .second, .val (.ref sh), .val (.int (1 : Int32)), .val (.int (0 : Int32)), .val (.int (0 : Int32))] [(.int (0 : Int32)), (.ref ar)])) rfl rfl (hb hby d10_186) _ (XS.dconst0 X142.here hx rfl (hb hby d10_187) rfl (XS.dcmpS X142.here hx rfl (hb hby d10_188) rfl (DS.cmpV d_z0 dc_0 _) (kk)))) ?_
              show Dn p e below s _ _ _ (T142.setTop (mkF m 189 #[.val (.ref a), .val (.ref ar), .val (.ref lv), .val (.int fi), .val (.int cn), .val (.double dt), .second, .val (.ref sh), .val (.int (1 : Int32)), .val (.int (0 : Int32)), .val (.int (0 : Int32))] [(.int (c3 i0 0))]))
              by_cases hc189_5 : (c3 i0 0) = (0 : Int32)
              · have hi189_5 := (c3_eq _ _).mp hc189_5
                exfalso
                exact hi161 hi189_5
              · have hi189_5 := mt (c3_eq _ _).mpr hc189_5
                refine Dn.st (fun _ kk => XS.ifYes X142.here hx rfl (pc0 := 189) (pc' := 198) rfl (hb hby d10_189) rfl ((if0 _ _).trans (feq hc189_5).2) (by decide) (by decide) (XS.aloadN X142.here hx rfl (hb hby d10_198) rfl rfl (XS.iload X142.here hx rfl (hb hby d10_199) rfl  (kk)))) ?_
                show Dn p e below s _ _ _ (T142.setTop (mkF m 201 #[.val (.ref a), .val (.ref ar), .val (.ref lv), .val (.int fi), .val (.int cn), .val (.double dt), .second, .val (.ref sh), .val (.int (1 : Int32)), .val (.int (0 : Int32)), .val (.int (0 : Int32))] [(.int (0 : Int32)), (.ref a)]))
                obtain ⟨T201, h201, X201, e201, W201, st201⟩ := putF X142 hx hZ hown (host := "") (Or.inl (hw _ (List.mem_of_getElem? (i := 108) rfl))) Via.refl e142 F_a_lowest_142 E_a_142 (Or.inr ⟨(hw _ (List.mem_of_getElem? (i := 109) rfl)), rfl, hnm⟩) (hw _ (List.mem_of_getElem? (i := 9) rfl)) (ty := .int) (by decide) rfl rfl (g := (mkF m 201 #[.val (.ref a), .val (.ref ar), .val (.ref lv), .val (.int fi), .val (.int cn), .val (.double dt), .second, .val (.ref sh), .val (.int (1 : Int32)), .val (.int (0 : Int32)), .val (.int (0 : Int32))] [(.int (0 : Int32)), (.ref a)])) rfl rfl (hb hby d10_201)
                have E_a_201 := E_a_142.wr W201
                have F_a_reflectivity_201 := F_a_reflectivity_142.other W201 (Or.inr (slot_ne (Or.inr (hw _ (List.mem_of_getElem? (i := 97) rfl))) (Or.inr (hw _ (List.mem_of_getElem? (i := 109) rfl))) (by decide) (t := (.array .double)) (t' := .int) (by decide) (by decide)))
                have F_a_levels_201 := F_a_levels_142.other W201 (Or.inr (slot_ne (Or.inr (hw _ (List.mem_of_getElem? (i := 99) rfl))) (Or.inr (hw _ (List.mem_of_getElem? (i := 109) rfl))) (by decide) (t := (.object "java/util/Optional")) (t' := .int) (by decide) (by decide)))
                have F_a_first_201 := F_a_first_142.other W201 (Or.inr (slot_ne (Or.inr (hw _ (List.mem_of_getElem? (i := 101) rfl))) (Or.inr (hw _ (List.mem_of_getElem? (i := 109) rfl))) (by decide) (t := .int) (t' := .int) (by decide) (by decide)))
                have F_a_count_201 := F_a_count_142.other W201 (Or.inr (slot_ne (Or.inr (hw _ (List.mem_of_getElem? (i := 103) rfl))) (Or.inr (hw _ (List.mem_of_getElem? (i := 109) rfl))) (by decide) (t := .int) (t' := .int) (by decide) (by decide)))
                have F_a_intervalMs_201 := F_a_intervalMs_142.other W201 (Or.inr (slot_ne (Or.inr (hw _ (List.mem_of_getElem? (i := 105) rfl))) (Or.inr (hw _ (List.mem_of_getElem? (i := 109) rfl))) (by decide) (t := .double) (t' := .int) (by decide) (by decide)))
                have F_a_shift_201 := F_a_shift_142.other W201 (Or.inr (slot_ne (Or.inr (hw _ (List.mem_of_getElem? (i := 107) rfl))) (Or.inr (hw _ (List.mem_of_getElem? (i := 109) rfl))) (by decide) (t := (.object "java/util/Optional")) (t' := .int) (by decide) (by decide)))
                have F_a_highest_201 := F_a_highest_142.other W201 (Or.inr (slot_ne (Or.inr (hw _ (List.mem_of_getElem? (i := 111) rfl))) (Or.inr (hw _ (List.mem_of_getElem? (i := 109) rfl))) (by decide) (t := .int) (t' := .int) (by decide) (by decide)))
                have V_ar_201 := V_ar_142.other W201 ne_ar
                have E_sh_201 := E_sh_142.wr W201
                have F_sh_value_201 := F_sh_value_142.other W201 (Or.inl ne_sh)
                have E_sp_201 := E_sp_142.wr W201
                have F_sp_meanMs_201 := F_sp_meanMs_142.other W201 (Or.inl ne_sp)
                have F_sp_sdMs_201 := F_sp_sdMs_142.other W201 (Or.inl ne_sp)
                have F_a_lowest_201 := F_a_lowest_142.same W201
                have K201 := K142.wr W201 (Or.inl (List.mem_of_getElem? (i := 0) rfl))
                have N201 := Fr.snoc X201 N142 ga
                have Z201 : n0 ≤ h201.size := Nat.le_trans Z142 (Keep.of_wr W201).1
                refine Dn.st st201 ?_
                show Dn p e below s _ _ _ (T201.setTop (mkF m 204 #[.val (.ref a), .val (.ref ar), .val (.ref lv), .val (.int fi), .val (.int cn), .val (.double dt), .second, .val (.ref sh), .val (.int (1 : Int32)), .val (.int (0 : Int32)), .val (.int (0 : Int32))] []))
                refine Dn.st (fun _ kk => XS.aloadN X201.here hx rfl (hb hby d10_204) rfl rfl (XS.iload X201.here hx rfl (hb hby d10_205) rfl  (kk))) ?_
                show Dn p e below s _ _ _ (T201.setTop (mkF m 207 #[.val (.ref a), .val (.ref ar), .val (.ref lv), .val (.int fi), .val (.int cn), .val (.double dt), .second, .val (.ref sh), .val (.int (1 : Int32)), .val (.int (0 : Int32)), .val (.int (0 : Int32))] [(.int (0 : Int32)), (.ref a)]))
                obtain ⟨T207, h207, X207, e207, W207, st207⟩ := putF X201 hx hZ hown (host := "") (Or.inl (hw _ (List.mem_of_getElem? (i := 110) rfl))) Via.refl e201 F_a_highest_201 E_a_201 (Or.inr ⟨(hw _ (List.mem_of_getElem? (i := 111) rfl)), rfl, hnm⟩) (hw _ (List.mem_of_getElem? (i := 9) rfl)) (ty := .int) (by decide) rfl rfl (g := (mkF m 207 #[.val (.ref a), .val (.ref ar), .val (.ref lv), .val (.int fi), .val (.int cn), .val (.double dt), .second, .val (.ref sh), .val (.int (1 : Int32)), .val (.int (0 : Int32)), .val (.int (0 : Int32))] [(.int (0 : Int32)), (.ref a)])) rfl rfl (hb hby d10_207)
                have E_a_207 := E_a_201.wr W207
                have F_a_reflectivity_207 := F_a_reflectivity_201.other W207 (Or.inr (slot_ne (Or.inr (hw _ (List.mem_of_getElem? (i := 97) rfl))) (Or.inr (hw _ (List.mem_of_getElem? (i := 111) rfl))) (by decide) (t := (.array .double)) (t' := .int) (by decide) (by decide)))
                have F_a_levels_207 := F_a_levels_201.other W207 (Or.inr (slot_ne (Or.inr (hw _ (List.mem_of_getElem? (i := 99) rfl))) (Or.inr (hw _ (List.mem_of_getElem? (i := 111) rfl))) (by decide) (t := (.object "java/util/Optional")) (t' := .int) (by decide) (by decide)))
                have F_a_first_207 := F_a_first_201.other W207 (Or.inr (slot_ne (Or.inr (hw _ (List.mem_of_getElem? (i := 101) rfl))) (Or.inr (hw _ (List.mem_of_getElem? (i := 111) rfl))) (by decide) (t := .int) (t' := .int) (by decide) (by decide)))
                have F_a_count_207 := F_a_count_201.other W207 (Or.inr (slot_ne (Or.inr (hw _ (List.mem_of_getElem? (i := 103) rfl))) (Or.inr (hw _ (List.mem_of_getElem? (i := 111) rfl))) (by decide) (t := .int) (t' := .int) (by decide) (by decide)))
                have F_a_intervalMs_207 := F_a_intervalMs_201.other W207 (Or.inr (slot_ne (Or.inr (hw _ (List.mem_of_getElem? (i := 105) rfl))) (Or.inr (hw _ (List.mem_of_getElem? (i := 111) rfl))) (by decide) (t := .double) (t' := .int) (by decide) (by decide)))
                have F_a_shift_207 := F_a_shift_201.other W207 (Or.inr (slot_ne (Or.inr (hw _ (List.mem_of_getElem? (i := 107) rfl))) (Or.inr (hw _ (List.mem_of_getElem? (i := 111) rfl))) (by decide) (t := (.object "java/util/Optional")) (t' := .int) (by decide) (by decide)))
                have F_a_lowest_207 := F_a_lowest_201.other W207 (Or.inr (slot_ne (Or.inr (hw _ (List.mem_of_getElem? (i := 109) rfl))) (Or.inr (hw _ (List.mem_of_getElem? (i := 111) rfl))) (by decide) (t := .int) (t' := .int) (by decide) (by decide)))
                have V_ar_207 := V_ar_201.other W207 ne_ar
                have E_sh_207 := E_sh_201.wr W207
                have F_sh_value_207 := F_sh_value_201.other W207 (Or.inl ne_sh)
                have E_sp_207 := E_sp_201.wr W207
                have F_sp_meanMs_207 := F_sp_meanMs_201.other W207 (Or.inl ne_sp)
                have F_sp_sdMs_207 := F_sp_sdMs_201.other W207 (Or.inl ne_sp)
                have F_a_highest_207 := F_a_highest_201.same W207
                have K207 := K201.wr W207 (Or.inl (List.mem_of_getElem? (i := 0) rfl))
                have N207 := Fr.snoc X207 N201 ga
                have Z207 : n0 ≤ h207.size := Nat.le_trans Z201 (Keep.of_wr W207).1
                refine Dn.st st207 ?_
                show Dn p e below s _ _ _ (T207.setTop (mkF m 210 #[.val (.ref a), .val (.ref ar), .val (.ref lv), .val (.int fi), .val (.int cn), .val (.double dt), .second, .val (.ref sh), .val (.int (1 : Int32)), .val (.int (0 : Int32)), .val (.int (0 : Int32))] []))
                have eL : (own_low i0 i1 i2 i3 i4) = (0 : Int32) := by unfold own_low; rw [if_neg hi161]
                have eH : (own_high i0 i1 i2 i3 i4) = (0 : Int32) := by unfold own_high; rw [if_pos hi189, if_pos hi189_2, if_pos hi189_3, if_pos hi189_4, if_neg hi161]
                exact Dn.ret0 X207 hlk hx hret (hb hby d10_210) (by rw [e207]; exact ⟨rfl, N207, K207, E_a_207, F_a_first_207, F_a_count_207, F_a_intervalMs_207, (eL ▸ F_a_lowest_207), (eH ▸ F_a_highest_207)⟩) (by decide) (by decide)
            · have hi189_4 := mt (c3_eq _ _).mpr hc189_4
              refine Dn.st (fun _ kk => XS.ifYes X142.here hx rfl (pc0 := 189) (pc' := 198) rfl (hb hby d10_189) rfl ((if0 _ _).trans (feq hc189_4).2) (by decide) (by decide) (XS.aloadN X142.here hx rfl (hb hby d10_198) rfl rfl (XS.iload X142.here hx rfl (hb hby d10_199) rfl  (kk)))) ?_
              show Dn p e below s _ _ _ (T142.setTop (mkF m 201 #[.val (.ref a), .val (.ref ar), .val (.ref lv), .val (.int fi), .val (.int cn), .val (.double dt), .second, .val (.ref sh), .val (.int (1 : Int32)), .val (.int (0 : Int32)), .val (.int (1 : Int32))] [(.int (0 : Int32)), (.ref a)]))
              obtain ⟨T201, h201, X201, e201, W201, st201⟩ := putF X142 hx hZ hown (host := "") (Or.inl (hw _ (List.mem_of_getElem? (i := 108) rfl))) Via.refl e142 F_a_lowest_142 E_a_142 (Or.inr ⟨(hw _ (List.mem_of_getElem? (i := 109) rfl)), rfl, hnm⟩) (hw _ (List.mem_of_getElem? (i := 9) rfl)) (ty := .int) (by decide) rfl rfl (g := (mkF m 201 #[.val (.ref a), .val (.ref ar), .val (.ref lv), .val (.int fi), .val (.int cn), .val (.double dt), .second, .val (.ref sh), .val (.int (1 : Int32)), .val (.int (0 : Int32)), .val (.int (1 : Int32))] [(.int (0 : Int32)), (.ref a)])) rfl rfl (hb hby d10_201)
              have E_a_201 := E_a_142.wr W201
              have F_a_reflectivity_201 := F_a_reflectivity_142.other W201 (Or.inr (slot_ne (Or.inr (hw _ (List.mem_of_getElem? (i := 97) rfl))) (Or.inr (hw _ (List.mem_of_getElem? (i := 109) rfl))) (by decide) (t := (.array .double)) (t' := .int) (by decide) (by decide)))
              have F_a_levels_201 := F_a_levels_142.other W201 (Or.inr (slot_ne (Or.inr (hw _ (List.mem_of_getElem? (i := 99) rfl))) (Or.inr (hw _ (List.mem_of_getElem? (i := 109) rfl))) (by decide) (t := (.object "java/util/Optional")) (t' := .int) (by decide) (by decide)))
              have F_a_first_201 := F_a_first_142.other W201 (Or.inr (slot_ne (Or.inr (hw _ (List.mem_of_getElem? (i := 101) rfl))) (Or.inr (hw _ (List.mem_of_getElem? (i := 109) rfl))) (by decide) (t := .int) (t' := .int) (by decide) (by decide)))
              have F_a_count_201 := F_a_count_142.other W201 (Or.inr (slot_ne (Or.inr (hw _ (List.mem_of_getElem? (i := 103) rfl))) (Or.inr (hw _ (List.mem_of_getElem? (i := 109) rfl))) (by decide) (t := .int) (t' := .int) (by decide) (by decide)))
              have F_a_intervalMs_201 := F_a_intervalMs_142.other W201 (Or.inr (slot_ne (Or.inr (hw _ (List.mem_of_getElem? (i := 105) rfl))) (Or.inr (hw _ (List.mem_of_getElem? (i := 109) rfl))) (by decide) (t := .double) (t' := .int) (by decide) (by decide)))
              have F_a_shift_201 := F_a_shift_142.other W201 (Or.inr (slot_ne (Or.inr (hw _ (List.mem_of_getElem? (i := 107) rfl))) (Or.inr (hw _ (List.mem_of_getElem? (i := 109) rfl))) (by decide) (t := (.object "java/util/Optional")) (t' := .int) (by decide) (by decide)))
              have F_a_highest_201 := F_a_highest_142.other W201 (Or.inr (slot_ne (Or.inr (hw _ (List.mem_of_getElem? (i := 111) rfl))) (Or.inr (hw _ (List.mem_of_getElem? (i := 109) rfl))) (by decide) (t := .int) (t' := .int) (by decide) (by decide)))
              have V_ar_201 := V_ar_142.other W201 ne_ar
              have E_sh_201 := E_sh_142.wr W201
              have F_sh_value_201 := F_sh_value_142.other W201 (Or.inl ne_sh)
              have E_sp_201 := E_sp_142.wr W201
              have F_sp_meanMs_201 := F_sp_meanMs_142.other W201 (Or.inl ne_sp)
              have F_sp_sdMs_201 := F_sp_sdMs_142.other W201 (Or.inl ne_sp)
              have F_a_lowest_201 := F_a_lowest_142.same W201
              have K201 := K142.wr W201 (Or.inl (List.mem_of_getElem? (i := 0) rfl))
              have N201 := Fr.snoc X201 N142 ga
              have Z201 : n0 ≤ h201.size := Nat.le_trans Z142 (Keep.of_wr W201).1
              refine Dn.st st201 ?_
              show Dn p e below s _ _ _ (T201.setTop (mkF m 204 #[.val (.ref a), .val (.ref ar), .val (.ref lv), .val (.int fi), .val (.int cn), .val (.double dt), .second, .val (.ref sh), .val (.int (1 : Int32)), .val (.int (0 : Int32)), .val (.int (1 : Int32))] []))
              refine Dn.st (fun _ kk => XS.aloadN X201.here hx rfl (hb hby d10_204) rfl rfl (XS.iload X201.here hx rfl (hb hby d10_205) rfl  (kk))) ?_
              show Dn p e below s _ _ _ (T201.setTop (mkF m 207 #[.val (.ref a), .val (.ref ar), .val (.ref lv), .val (.int fi), .val (.int cn), .val (.double dt), .second, .val (.ref sh), .val (.int (1 : Int32)), .val (.int (0 : Int32)), .val (.int (1 : Int32))] [(.int (1 : Int32)), (.ref a)]))
              obtain ⟨T207, h207, X207, e207, W207, st207⟩ := putF X201 hx hZ hown (host := "") (Or.inl (hw _ (List.mem_of_getElem? (i := 110) rfl))) Via.refl e201 F_a_highest_201 E_a_201 (Or.inr ⟨(hw _ (List.mem_of_getElem? (i := 111) rfl)), rfl, hnm⟩) (hw _ (List.mem_of_getElem? (i := 9) rfl)) (ty := .int) (by decide) rfl rfl (g := (mkF m 207 #[.val (.ref a), .val (.ref ar), .val (.ref lv), .val (.int fi), .val (.int cn), .val (.double dt), .second, .val (.ref sh), .val (.int (1 : Int32)), .val (.int (0 : Int32)), .val (.int (1 : Int32))] [(.int (1 : Int32)), (.ref a)])) rfl rfl (hb hby d10_207)
              have E_a_207 := E_a_201.wr W207
              have F_a_reflectivity_207 := F_a_reflectivity_201.other W207 (Or.inr (slot_ne (Or.inr (hw _ (List.mem_of_getElem? (i := 97) rfl))) (Or.inr (hw _ (List.mem_of_getElem? (i := 111) rfl))) (by decide) (t := (.array .double)) (t' := .int) (by decide) (by decide)))
              have F_a_levels_207 := F_a_levels_201.other W207 (Or.inr (slot_ne (Or.inr (hw _ (List.mem_of_getElem? (i := 99) rfl))) (Or.inr (hw _ (List.mem_of_getElem? (i := 111) rfl))) (by decide) (t := (.object "java/util/Optional")) (t' := .int) (by decide) (by decide)))
              have F_a_first_207 := F_a_first_201.other W207 (Or.inr (slot_ne (Or.inr (hw _ (List.mem_of_getElem? (i := 101) rfl))) (Or.inr (hw _ (List.mem_of_getElem? (i := 111) rfl))) (by decide) (t := .int) (t' := .int) (by decide) (by decide)))
              have F_a_count_207 := F_a_count_201.other W207 (Or.inr (slot_ne (Or.inr (hw _ (List.mem_of_getElem? (i := 103) rfl))) (Or.inr (hw _ (List.mem_of_getElem? (i := 111) rfl))) (by decide) (t := .int) (t' := .int) (by decide) (by decide)))
              have F_a_intervalMs_207 := F_a_intervalMs_201.other W207 (Or.inr (slot_ne (Or.inr (hw _ (List.mem_of_getElem? (i := 105) rfl))) (Or.inr (hw _ (List.mem_of_getElem? (i := 111) rfl))) (by decide) (t := .double) (t' := .int) (by decide) (by decide)))
              have F_a_shift_207 := F_a_shift_201.other W207 (Or.inr (slot_ne (Or.inr (hw _ (List.mem_of_getElem? (i := 107) rfl))) (Or.inr (hw _ (List.mem_of_getElem? (i := 111) rfl))) (by decide) (t := (.object "java/util/Optional")) (t' := .int) (by decide) (by decide)))
              have F_a_lowest_207 := F_a_lowest_201.other W207 (Or.inr (slot_ne (Or.inr (hw _ (List.mem_of_getElem? (i := 109) rfl))) (Or.inr (hw _ (List.mem_of_getElem? (i := 111) rfl))) (by decide) (t := .int) (t' := .int) (by decide) (by decide)))
              have V_ar_207 := V_ar_201.other W207 ne_ar
              have E_sh_207 := E_sh_201.wr W207
              have F_sh_value_207 := F_sh_value_201.other W207 (Or.inl ne_sh)
              have E_sp_207 := E_sp_201.wr W207
              have F_sp_meanMs_207 := F_sp_meanMs_201.other W207 (Or.inl ne_sp)
              have F_sp_sdMs_207 := F_sp_sdMs_201.other W207 (Or.inl ne_sp)
              have F_a_highest_207 := F_a_highest_201.same W207
              have K207 := K201.wr W207 (Or.inl (List.mem_of_getElem? (i := 0) rfl))
              have N207 := Fr.snoc X207 N201 ga
              have Z207 : n0 ≤ h207.size := Nat.le_trans Z201 (Keep.of_wr W207).1
              refine Dn.st st207 ?_
              show Dn p e below s _ _ _ (T207.setTop (mkF m 210 #[.val (.ref a), .val (.ref ar), .val (.ref lv), .val (.int fi), .val (.int cn), .val (.double dt), .second, .val (.ref sh), .val (.int (1 : Int32)), .val (.int (0 : Int32)), .val (.int (1 : Int32))] []))
              have eL : (own_low i0 i1 i2 i3 i4) = (0 : Int32) := by unfold own_low; rw [if_neg hi161]
              have eH : (own_high i0 i1 i2 i3 i4) = (1 : Int32) := by unfold own_high; rw [if_pos hi189, if_pos hi189_2, if_pos hi189_3, if_neg hi189_4]
              exact Dn.ret0 X207 hlk hx hret (hb hby d10_210) (by rw [e207]; exact ⟨rfl, N207, K207, E_a_207, F_a_first_207, F_a_count_207, F_a_intervalMs_207, (eL ▸ F_a_lowest_207), (eH ▸ F_a_highest_207)⟩) (by decide) (by decide)
          · have hi189_3 := mt (c3_eq _ _).mpr hc189_3
            refine Dn.st (fun _ kk => XS.ifYes X142.here hx rfl (pc0 := 189) (pc' := 198) rfl (hb hby d10_189) rfl ((if0 _ _).trans (feq hc189_3).2) (by decide) (by decide) (XS.aloadN X142.here hx rfl (hb hby d10_198) rfl rfl (XS.iload X142.here hx rfl (hb hby d10_199) rfl  (kk)))) ?_
            show Dn p e below s _ _ _ (T142.setTop (mkF m 201 #[.val (.ref a), .val (.ref ar), .val (.ref lv), .val (.int fi), .val (.int cn), .val (.double dt), .second, .val (.ref sh), .val (.int (1 : Int32)), .val (.int (0 : Int32)), .val (.int (2 : Int32))] [(.int (0 : Int32)), (.ref a)]))
            obtain ⟨T201, h201, X201, e201, W201, st201⟩ := putF X142 hx hZ hown (host := "") (Or.inl (hw _ (List.mem_of_getElem? (i := 108) rfl))) Via.refl e142 F_a_lowest_142 E_a_142 (Or.inr ⟨(hw _ (List.mem_of_getElem? (i := 109) rfl)), rfl, hnm⟩) (hw _ (List.mem_of_getElem? (i := 9) rfl)) (ty := .int) (by decide) rfl rfl (g := (mkF m 201 #[.val (.ref a), .val (.ref ar), .val (.ref lv), .val (.int fi), .val (.int cn), .val (.double dt), .second, .val (.ref sh), .val (.int (1 : Int32)), .val (.int (0 : Int32)), .val (.int (2 : Int32))] [(.int (0 : Int32)), (.ref a)])) rfl rfl (hb hby d10_201)
            have E_a_201 := E_a_142.wr W201
            have F_a_reflectivity_201 := F_a_reflectivity_142.other W201 (Or.inr (slot_ne (Or.inr (hw _ (List.mem_of_getElem? (i := 97) rfl))) (Or.inr (hw _ (List.mem_of_getElem? (i := 109) rfl))) (by decide) (t := (.array .double)) (t' := .int) (by decide) (by decide)))
            have F_a_levels_201 := F_a_levels_142.other W201 (Or.inr (slot_ne (Or.inr (hw _ (List.mem_of_getElem? (i := 99) rfl))) (Or.inr (hw _ (List.mem_of_getElem? (i := 109) rfl))) (by decide) (t := (.object "java/util/Optional")) (t' := .int) (by decide) (by decide)))
            have F_a_first_201 := F_a_first_142.other W201 (Or.inr (slot_ne (Or.inr (hw _ (List.mem_of_getElem? (i := 101) rfl))) (Or.inr (hw _ (List.mem_of_getElem? (i := 109) rfl))) (by decide) (t := .int) (t' := .int) (by decide) (by decide)))
            have F_a_count_201 := F_a_count_142.other W201 (Or.inr (slot_ne (Or.inr (hw _ (List.mem_of_getElem? (i := 103) rfl))) (Or.inr (hw _ (List.mem_of_getElem? (i := 109) rfl))) (by decide) (t := .int) (t' := .int) (by decide) (by decide)))
            have F_a_intervalMs_201 := F_a_intervalMs_142.other W201 (Or.inr (slot_ne (Or.inr (hw _ (List.mem_of_getElem? (i := 105) rfl))) (Or.inr (hw _ (List.mem_of_getElem? (i := 109) rfl))) (by decide) (t := .double) (t' := .int) (by decide) (by decide)))
            have F_a_shift_201 := F_a_shift_142.other W201 (Or.inr (slot_ne (Or.inr (hw _ (List.mem_of_getElem? (i := 107) rfl))) (Or.inr (hw _ (List.mem_of_getElem? (i := 109) rfl))) (by decide) (t := (.object "java/util/Optional")) (t' := .int) (by decide) (by decide)))
            have F_a_highest_201 := F_a_highest_142.other W201 (Or.inr (slot_ne (Or.inr (hw _ (List.mem_of_getElem? (i := 111) rfl))) (Or.inr (hw _ (List.mem_of_getElem? (i := 109) rfl))) (by decide) (t := .int) (t' := .int) (by decide) (by decide)))
            have V_ar_201 := V_ar_142.other W201 ne_ar
            have E_sh_201 := E_sh_142.wr W201
            have F_sh_value_201 := F_sh_value_142.other W201 (Or.inl ne_sh)
            have E_sp_201 := E_sp_142.wr W201
            have F_sp_meanMs_201 := F_sp_meanMs_142.other W201 (Or.inl ne_sp)
            have F_sp_sdMs_201 := F_sp_sdMs_142.other W201 (Or.inl ne_sp)
            have F_a_lowest_201 := F_a_lowest_142.same W201
            have K201 := K142.wr W201 (Or.inl (List.mem_of_getElem? (i := 0) rfl))
            have N201 := Fr.snoc X201 N142 ga
            have Z201 : n0 ≤ h201.size := Nat.le_trans Z142 (Keep.of_wr W201).1
            refine Dn.st st201 ?_
            show Dn p e below s _ _ _ (T201.setTop (mkF m 204 #[.val (.ref a), .val (.ref ar), .val (.ref lv), .val (.int fi), .val (.int cn), .val (.double dt), .second, .val (.ref sh), .val (.int (1 : Int32)), .val (.int (0 : Int32)), .val (.int (2 : Int32))] []))
            refine Dn.st (fun _ kk => XS.aloadN X201.here hx rfl (hb hby d10_204) rfl rfl (XS.iload X201.here hx rfl (hb hby d10_205) rfl  (kk))) ?_
            show Dn p e below s _ _ _ (T201.setTop (mkF m 207 #[.val (.ref a), .val (.ref ar), .val (.ref lv), .val (.int fi), .val (.int cn), .val (.double dt), .second, .val (.ref sh), .val (.int (1 : Int32)), .val (.int (0 : Int32)), .val (.int (2 : Int32))] [(.int (2 : Int32)), (.ref a)]))
            obtain ⟨T207, h207, X207, e207, W207, st207⟩ := putF X201 hx hZ hown (host := "") (Or.inl (hw _ (List.mem_of_getElem? (i := 110) rfl))) Via.refl e201 F_a_highest_201 E_a_201 (Or.inr ⟨(hw _ (List.mem_of_getElem? (i := 111) rfl)), rfl, hnm⟩) (hw _ (List.mem_of_getElem? (i := 9) rfl)) (ty := .int) (by decide) rfl rfl (g := (mkF m 207 #[.val (.ref a), .val (.ref ar), .val (.ref lv), .val (.int fi), .val (.int cn), .val (.double dt), .second, .val (.ref sh), .val (.int (1 : Int32)), .val (.int (0 : Int32)), .val (.int (2 : Int32))] [(.int (2 : Int32)), (.ref a)])) rfl rfl (hb hby d10_207)
            have E_a_207 := E_a_201.wr W207
            have F_a_reflectivity_207 := F_a_reflectivity_201.other W207 (Or.inr (slot_ne (Or.inr (hw _ (List.mem_of_getElem? (i := 97) rfl))) (Or.inr (hw _ (List.mem_of_getElem? (i := 111) rfl))) (by decide) (t := (.array .double)) (t' := .int) (by decide) (by decide)))
            have F_a_levels_207 := F_a_levels_201.other W207 (Or.inr (slot_ne (Or.inr (hw _ (List.mem_of_getElem? (i := 99) rfl))) (Or.inr (hw _ (List.mem_of_getElem? (i := 111) rfl))) (by decide) (t := (.object "java/util/Optional")) (t' := .int) (by decide) (by decide)))
            have F_a_first_207 := F_a_first_201.other W207 (Or.inr (slot_ne (Or.inr (hw _ (List.mem_of_getElem? (i := 101) rfl))) (Or.inr (hw _ (List.mem_of_getElem? (i := 111) rfl))) (by decide) (t := .int) (t' := .int) (by decide) (by decide)))
            have F_a_count_207 := F_a_count_201.other W207 (Or.inr (slot_ne (Or.inr (hw _ (List.mem_of_getElem? (i := 103) rfl))) (Or.inr (hw _ (List.mem_of_getElem? (i := 111) rfl))) (by decide) (t := .int) (t' := .int) (by decide) (by decide)))
            have F_a_intervalMs_207 := F_a_intervalMs_201.other W207 (Or.inr (slot_ne (Or.inr (hw _ (List.mem_of_getElem? (i := 105) rfl))) (Or.inr (hw _ (List.mem_of_getElem? (i := 111) rfl))) (by decide) (t := .double) (t' := .int) (by decide) (by decide)))
            have F_a_shift_207 := F_a_shift_201.other W207 (Or.inr (slot_ne (Or.inr (hw _ (List.mem_of_getElem? (i := 107) rfl))) (Or.inr (hw _ (List.mem_of_getElem? (i := 111) rfl))) (by decide) (t := (.object "java/util/Optional")) (t' := .int) (by decide) (by decide)))
            have F_a_lowest_207 := F_a_lowest_201.other W207 (Or.inr (slot_ne (Or.inr (hw _ (List.mem_of_getElem? (i := 109) rfl))) (Or.inr (hw _ (List.mem_of_getElem? (i := 111) rfl))) (by decide) (t := .int) (t' := .int) (by decide) (by decide)))
            have V_ar_207 := V_ar_201.other W207 ne_ar
            have E_sh_207 := E_sh_201.wr W207
            have F_sh_value_207 := F_sh_value_201.other W207 (Or.inl ne_sh)
            have E_sp_207 := E_sp_201.wr W207
            have F_sp_meanMs_207 := F_sp_meanMs_201.other W207 (Or.inl ne_sp)
            have F_sp_sdMs_207 := F_sp_sdMs_201.other W207 (Or.inl ne_sp)
            have F_a_highest_207 := F_a_highest_201.same W207
            have K207 := K201.wr W207 (Or.inl (List.mem_of_getElem? (i := 0) rfl))
            have N207 := Fr.snoc X207 N201 ga
            have Z207 : n0 ≤ h207.size := Nat.le_trans Z201 (Keep.of_wr W207).1
            refine Dn.st st207 ?_
            show Dn p e below s _ _ _ (T207.setTop (mkF m 210 #[.val (.ref a), .val (.ref ar), .val (.ref lv), .val (.int fi), .val (.int cn), .val (.double dt), .second, .val (.ref sh), .val (.int (1 : Int32)), .val (.int (0 : Int32)), .val (.int (2 : Int32))] []))
            have eL : (own_low i0 i1 i2 i3 i4) = (0 : Int32) := by unfold own_low; rw [if_neg hi161]
            have eH : (own_high i0 i1 i2 i3 i4) = (2 : Int32) := by unfold own_high; rw [if_pos hi189, if_pos hi189_2, if_neg hi189_3]
            exact Dn.ret0 X207 hlk hx hret (hb hby d10_210) (by rw [e207]; exact ⟨rfl, N207, K207, E_a_207, F_a_first_207, F_a_count_207, F_a_intervalMs_207, (eL ▸ F_a_lowest_207), (eH ▸ F_a_highest_207)⟩) (by decide) (by decide)
        · have hi189_2 := mt (c3_eq _ _).mpr hc189_2
          refine Dn.st (fun _ kk => XS.ifYes X142.here hx rfl (pc0 := 189) (pc' := 198) rfl (hb hby d10_189) rfl ((if0 _ _).trans (feq hc189_2).2) (by decide) (by decide) (XS.aloadN X142.here hx rfl (hb hby d10_198) rfl rfl (XS.iload X142.here hx rfl (hb hby d10_199) rfl  (kk)))) ?_
          show Dn p e below s _ _ _ (T142.setTop (mkF m 201 #[.val (.ref a), .val (.ref ar), .val (.ref lv), .val (.int fi), .val (.int cn), .val (.double dt), .second, .val (.ref sh), .val (.int (1 : Int32)), .val (.int (0 : Int32)), .val (.int (3 : Int32))] [(.int (0 : Int32)), (.ref a)]))
          obtain ⟨T201, h201, X201, e201, W201, st201⟩ := putF X142 hx hZ hown (host := "") (Or.inl (hw _ (List.mem_of_getElem? (i := 108) rfl))) Via.refl e142 F_a_lowest_142 E_a_142 (Or.inr ⟨(hw _ (List.mem_of_getElem? (i := 109) rfl)), rfl, hnm⟩) (hw _ (List.mem_of_getElem? (i := 9) rfl)) (ty := .int) (by decide) rfl rfl (g := (mkF m 201 #[.val (.ref a), .val (.ref ar), .val (.ref lv), .val (.int fi), .val (.int cn), .val (.double dt), .second, .val (.ref sh), .val (.int (1 : Int32)), .val (.int (0 : Int32)), .val (.int (3 : Int32))] [(.int (0 : Int32)), (.ref a)])) rfl rfl (hb hby d10_201)
          have E_a_201 := E_a_142.wr W201
          have F_a_reflectivity_201 := F_a_reflectivity_142.other W201 (Or.inr (slot_ne (Or.inr (hw _ (List.mem_of_getElem? (i := 97) rfl))) (Or.inr (hw _ (List.mem_of_getElem? (i := 109) rfl))) (by decide) (t := (.array .double)) (t' := .int) (by decide) (by decide)))
          have F_a_levels_201 := F_a_levels_142.other W201 (Or.inr (slot_ne (Or.inr (hw _ (List.mem_of_getElem? (i := 99) rfl))) (Or.inr (hw _ (List.mem_of_getElem? (i := 109) rfl))) (by decide) (t := (.object "java/util/Optional")) (t' := .int) (by decide) (by decide)))
          have F_a_first_201 := F_a_first_142.other W201 (Or.inr (slot_ne (Or.inr (hw _ (List.mem_of_getElem? (i := 101) rfl))) (Or.inr (hw _ (List.mem_of_getElem? (i := 109) rfl))) (by decide) (t := .int) (t' := .int) (by decide) (by decide)))
          have F_a_count_201 := F_a_count_142.other W201 (Or.inr (slot_ne (Or.inr (hw _ (List.mem_of_getElem? (i := 103) rfl))) (Or.inr (hw _ (List.mem_of_getElem? (i := 109) rfl))) (by decide) (t := .int) (t' := .int) (by decide) (by decide)))
          have F_a_intervalMs_201 := F_a_intervalMs_142.other W201 (Or.inr (slot_ne (Or.inr (hw _ (List.mem_of_getElem? (i := 105) rfl))) (Or.inr (hw _ (List.mem_of_getElem? (i := 109) rfl))) (by decide) (t := .double) (t' := .int) (by decide) (by decide)))
          have F_a_shift_201 := F_a_shift_142.other W201 (Or.inr (slot_ne (Or.inr (hw _ (List.mem_of_getElem? (i := 107) rfl))) (Or.inr (hw _ (List.mem_of_getElem? (i := 109) rfl))) (by decide) (t := (.object "java/util/Optional")) (t' := .int) (by decide) (by decide)))
          have F_a_highest_201 := F_a_highest_142.other W201 (Or.inr (slot_ne (Or.inr (hw _ (List.mem_of_getElem? (i := 111) rfl))) (Or.inr (hw _ (List.mem_of_getElem? (i := 109) rfl))) (by decide) (t := .int) (t' := .int) (by decide) (by decide)))
          have V_ar_201 := V_ar_142.other W201 ne_ar
          have E_sh_201 := E_sh_142.wr W201
          have F_sh_value_201 := F_sh_value_142.other W201 (Or.inl ne_sh)
          have E_sp_201 := E_sp_142.wr W201
          have F_sp_meanMs_201 := F_sp_meanMs_142.other W201 (Or.inl ne_sp)
          have F_sp_sdMs_201 := F_sp_sdMs_142.other W201 (Or.inl ne_sp)
          have F_a_lowest_201 := F_a_lowest_142.same W201
          have K201 := K142.wr W201 (Or.inl (List.mem_of_getElem? (i := 0) rfl))
          have N201 := Fr.snoc X201 N142 ga
          have Z201 : n0 ≤ h201.size := Nat.le_trans Z142 (Keep.of_wr W201).1
          refine Dn.st st201 ?_
          show Dn p e below s _ _ _ (T201.setTop (mkF m 204 #[.val (.ref a), .val (.ref ar), .val (.ref lv), .val (.int fi), .val (.int cn), .val (.double dt), .second, .val (.ref sh), .val (.int (1 : Int32)), .val (.int (0 : Int32)), .val (.int (3 : Int32))] []))
          refine Dn.st (fun _ kk => XS.aloadN X201.here hx rfl (hb hby d10_204) rfl rfl (XS.iload X201.here hx rfl (hb hby d10_205) rfl  (kk))) ?_
          show Dn p e below s _ _ _ (T201.setTop (mkF m 207 #[.val (.ref a), .val (.ref ar), .val (.ref lv), .val (.int fi), .val (.int cn), .val (.double dt), .second, .val (.ref sh), .val (.int (1 : Int32)), .val (.int (0 : Int32)), .val (.int (3 : Int32))] [(.int (3 : Int32)), (.ref a)]))
          obtain ⟨T207, h207, X207, e207, W207, st207⟩ := putF X201 hx hZ hown (host := "") (Or.inl (hw _ (List.mem_of_getElem? (i := 110) rfl))) Via.refl e201 F_a_highest_201 E_a_201 (Or.inr ⟨(hw _ (List.mem_of_getElem? (i := 111) rfl)), rfl, hnm⟩) (hw _ (List.mem_of_getElem? (i := 9) rfl)) (ty := .int) (by decide) rfl rfl (g := (mkF m 207 #[.val (.ref a), .val (.ref ar), .val (.ref lv), .val (.int fi), .val (.int cn), .val (.double dt), .second, .val (.ref sh), .val (.int (1 : Int32)), .val (.int (0 : Int32)), .val (.int (3 : Int32))] [(.int (3 : Int32)), (.ref a)])) rfl rfl (hb hby d10_207)
          have E_a_207 := E_a_201.wr W207
          have F_a_reflectivity_207 := F_a_reflectivity_201.other W207 (Or.inr (slot_ne (Or.inr (hw _ (List.mem_of_getElem? (i := 97) rfl))) (Or.inr (hw _ (List.mem_of_getElem? (i := 111) rfl))) (by decide) (t := (.array .double)) (t' := .int) (by decide) (by decide)))
          have F_a_levels_207 := F_a_levels_201.other W207 (Or.inr (slot_ne (Or.inr (hw _ (List.mem_of_getElem? (i := 99) rfl))) (Or.inr (hw _ (List.mem_of_getElem? (i := 111) rfl))) (by decide) (t := (.object "java/util/Optional")) (t' := .int) (by decide) (by decide)))
          have F_a_first_207 := F_a_first_201.other W207 (Or.inr (slot_ne (Or.inr (hw _ (List.mem_of_getElem? (i := 101) rfl))) (Or.inr (hw _ (List.mem_of_getElem? (i := 111) rfl))) (by decide) (t := .int) (t' := .int) (by decide) (by decide)))
          have F_a_count_207 := F_a_count_201.other W207 (Or.inr (slot_ne (Or.inr (hw _ (List.mem_of_getElem? (i := 103) rfl))) (Or.inr (hw _ (List.mem_of_getElem? (i := 111) rfl))) (by decide) (t := .int) (t' := .int) (by decide) (by decide)))
          have F_a_intervalMs_207 := F_a_intervalMs_201.other W207 (Or.inr (slot_ne (Or.inr (hw _ (List.mem_of_getElem? (i := 105) rfl))) (Or.inr (hw _ (List.mem_of_getElem? (i := 111) rfl))) (by decide) (t := .double) (t' := .int) (by decide) (by decide)))
          have F_a_shift_207 := F_a_shift_201.other W207 (Or.inr (slot_ne (Or.inr (hw _ (List.mem_of_getElem? (i := 107) rfl))) (Or.inr (hw _ (List.mem_of_getElem? (i := 111) rfl))) (by decide) (t := (.object "java/util/Optional")) (t' := .int) (by decide) (by decide)))
          have F_a_lowest_207 := F_a_lowest_201.other W207 (Or.inr (slot_ne (Or.inr (hw _ (List.mem_of_getElem? (i := 109) rfl))) (Or.inr (hw _ (List.mem_of_getElem? (i := 111) rfl))) (by decide) (t := .int) (t' := .int) (by decide) (by decide)))
          have V_ar_207 := V_ar_201.other W207 ne_ar
          have E_sh_207 := E_sh_201.wr W207
          have F_sh_value_207 := F_sh_value_201.other W207 (Or.inl ne_sh)
          have E_sp_207 := E_sp_201.wr W207
          have F_sp_meanMs_207 := F_sp_meanMs_201.other W207 (Or.inl ne_sp)
          have F_sp_sdMs_207 := F_sp_sdMs_201.other W207 (Or.inl ne_sp)
          have F_a_highest_207 := F_a_highest_201.same W207
          have K207 := K201.wr W207 (Or.inl (List.mem_of_getElem? (i := 0) rfl))
          have N207 := Fr.snoc X207 N201 ga
          have Z207 : n0 ≤ h207.size := Nat.le_trans Z201 (Keep.of_wr W207).1
          refine Dn.st st207 ?_
          show Dn p e below s _ _ _ (T207.setTop (mkF m 210 #[.val (.ref a), .val (.ref ar), .val (.ref lv), .val (.int fi), .val (.int cn), .val (.double dt), .second, .val (.ref sh), .val (.int (1 : Int32)), .val (.int (0 : Int32)), .val (.int (3 : Int32))] []))
          have eL : (own_low i0 i1 i2 i3 i4) = (0 : Int32) := by unfold own_low; rw [if_neg hi161]
          have eH : (own_high i0 i1 i2 i3 i4) = (3 : Int32) := by unfold own_high; rw [if_pos hi189, if_neg hi189_2]
          exact Dn.ret0 X207 hlk hx hret (hb hby d10_210) (by rw [e207]; exact ⟨rfl, N207, K207, E_a_207, F_a_first_207, F_a_count_207, F_a_intervalMs_207, (eL ▸ F_a_lowest_207), (eH ▸ F_a_highest_207)⟩) (by decide) (by decide)
      · have hi189 := mt (c3_eq _ _).mpr hc189
        refine Dn.st (fun _ kk => XS.ifYes X142.here hx rfl (pc0 := 189) (pc' := 198) rfl (hb hby d10_189) rfl ((if0 _ _).trans (feq hc189).2) (by decide) (by decide) (XS.aloadN X142.here hx rfl (hb hby d10_198) rfl rfl (XS.iload X142.here hx rfl (hb hby d10_199) rfl  (kk)))) ?_
        show Dn p e below s _ _ _ (T142.setTop (mkF m 201 #[.val (.ref a), .val (.ref ar), .val (.ref lv), .val (.int fi), .val (.int cn), .val (.double dt), .second, .val (.ref sh), .val (.int (1 : Int32)), .val (.int (0 : Int32)), .val (.int (4 : Int32))] [(.int (0 : Int32)), (.ref a)]))
        obtain ⟨T201, h201, X201, e201, W201, st201⟩ := putF X142 hx hZ hown (host := "") (Or.inl (hw _ (List.mem_of_getElem? (i := 108) rfl))) Via.refl e142 F_a_lowest_142 E_a_142 (Or.inr ⟨(hw _ (List.mem_of_getElem? (i := 109) rfl)), rfl, hnm⟩) (hw _ (List.mem_of_getElem? (i := 9) rfl)) (ty := .int) (by decide) rfl rfl (g := (mkF m 201 #[.val (.ref a), .val (.ref ar), .val (.ref lv), .val (.int fi), .val (.int cn), .val (.double dt), .second, .val (.ref sh), .val (.int (1 : Int32)), .val (.int (0 : Int32)), .val (.int (4 : Int32))] [(.int (0 : Int32)), (.ref a)])) rfl rfl (hb hby d10_201)
        have E_a_201 := E_a_142.wr W201
        have F_a_reflectivity_201 := F_a_reflectivity_142.other W201 (Or.inr (slot_ne (Or.inr (hw _ (List.mem_of_getElem? (i := 97) rfl))) (Or.inr (hw _ (List.mem_of_getElem? (i := 109) rfl))) (by decide) (t := (.array .double)) (t' := .int) (by decide) (by decide)))
        have F_a_levels_201 := F_a_levels_142.other W201 (Or.inr (slot_ne (Or.inr (hw _ (List.mem_of_getElem? (i := 99) rfl))) (Or.inr (hw _ (List.mem_of_getElem? (i := 109) rfl))) (by decide) (t := (.object "java/util/Optional")) (t' := .int) (by decide) (by decide)))
        have F_a_first_201 := F_a_first_142.other W201 (Or.inr (slot_ne (Or.inr (hw _ (List.mem_of_getElem? (i := 101) rfl))) (Or.inr (hw _ (List.mem_of_getElem? (i := 109) rfl))) (by decide) (t := .int) (t' := .int) (by decide) (by decide)))
        have F_a_count_201 := F_a_count_142.other W201 (Or.inr (slot_ne (Or.inr (hw _ (List.mem_of_getElem? (i := 103) rfl))) (Or.inr (hw _ (List.mem_of_getElem? (i := 109) rfl))) (by decide) (t := .int) (t' := .int) (by decide) (by decide)))
        have F_a_intervalMs_201 := F_a_intervalMs_142.other W201 (Or.inr (slot_ne (Or.inr (hw _ (List.mem_of_getElem? (i := 105) rfl))) (Or.inr (hw _ (List.mem_of_getElem? (i := 109) rfl))) (by decide) (t := .double) (t' := .int) (by decide) (by decide)))
        have F_a_shift_201 := F_a_shift_142.other W201 (Or.inr (slot_ne (Or.inr (hw _ (List.mem_of_getElem? (i := 107) rfl))) (Or.inr (hw _ (List.mem_of_getElem? (i := 109) rfl))) (by decide) (t := (.object "java/util/Optional")) (t' := .int) (by decide) (by decide)))
        have F_a_highest_201 := F_a_highest_142.other W201 (Or.inr (slot_ne (Or.inr (hw _ (List.mem_of_getElem? (i := 111) rfl))) (Or.inr (hw _ (List.mem_of_getElem? (i := 109) rfl))) (by decide) (t := .int) (t' := .int) (by decide) (by decide)))
        have V_ar_201 := V_ar_142.other W201 ne_ar
        have E_sh_201 := E_sh_142.wr W201
        have F_sh_value_201 := F_sh_value_142.other W201 (Or.inl ne_sh)
        have E_sp_201 := E_sp_142.wr W201
        have F_sp_meanMs_201 := F_sp_meanMs_142.other W201 (Or.inl ne_sp)
        have F_sp_sdMs_201 := F_sp_sdMs_142.other W201 (Or.inl ne_sp)
        have F_a_lowest_201 := F_a_lowest_142.same W201
        have K201 := K142.wr W201 (Or.inl (List.mem_of_getElem? (i := 0) rfl))
        have N201 := Fr.snoc X201 N142 ga
        have Z201 : n0 ≤ h201.size := Nat.le_trans Z142 (Keep.of_wr W201).1
        refine Dn.st st201 ?_
        show Dn p e below s _ _ _ (T201.setTop (mkF m 204 #[.val (.ref a), .val (.ref ar), .val (.ref lv), .val (.int fi), .val (.int cn), .val (.double dt), .second, .val (.ref sh), .val (.int (1 : Int32)), .val (.int (0 : Int32)), .val (.int (4 : Int32))] []))
        refine Dn.st (fun _ kk => XS.aloadN X201.here hx rfl (hb hby d10_204) rfl rfl (XS.iload X201.here hx rfl (hb hby d10_205) rfl  (kk))) ?_
        show Dn p e below s _ _ _ (T201.setTop (mkF m 207 #[.val (.ref a), .val (.ref ar), .val (.ref lv), .val (.int fi), .val (.int cn), .val (.double dt), .second, .val (.ref sh), .val (.int (1 : Int32)), .val (.int (0 : Int32)), .val (.int (4 : Int32))] [(.int (4 : Int32)), (.ref a)]))
        obtain ⟨T207, h207, X207, e207, W207, st207⟩ := putF X201 hx hZ hown (host := "") (Or.inl (hw _ (List.mem_of_getElem? (i := 110) rfl))) Via.refl e201 F_a_highest_201 E_a_201 (Or.inr ⟨(hw _ (List.mem_of_getElem? (i := 111) rfl)), rfl, hnm⟩) (hw _ (List.mem_of_getElem? (i := 9) rfl)) (ty := .int) (by decide) rfl rfl (g := (mkF m 207 #[.val (.ref a), .val (.ref ar), .val (.ref lv), .val (.int fi), .val (.int cn), .val (.double dt), .second, .val (.ref sh), .val (.int (1 : Int32)), .val (.int (0 : Int32)), .val (.int (4 : Int32))] [(.int (4 : Int32)), (.ref a)])) rfl rfl (hb hby d10_207)
        have E_a_207 := E_a_201.wr W207
        have F_a_reflectivity_207 := F_a_reflectivity_201.other W207 (Or.inr (slot_ne (Or.inr (hw _ (List.mem_of_getElem? (i := 97) rfl))) (Or.inr (hw _ (List.mem_of_getElem? (i := 111) rfl))) (by decide) (t := (.array .double)) (t' := .int) (by decide) (by decide)))
        have F_a_levels_207 := F_a_levels_201.other W207 (Or.inr (slot_ne (Or.inr (hw _ (List.mem_of_getElem? (i := 99) rfl))) (Or.inr (hw _ (List.mem_of_getElem? (i := 111) rfl))) (by decide) (t := (.object "java/util/Optional")) (t' := .int) (by decide) (by decide)))
        have F_a_first_207 := F_a_first_201.other W207 (Or.inr (slot_ne (Or.inr (hw _ (List.mem_of_getElem? (i := 101) rfl))) (Or.inr (hw _ (List.mem_of_getElem? (i := 111) rfl))) (by decide) (t := .int) (t' := .int) (by decide) (by decide)))
        have F_a_count_207 := F_a_count_201.other W207 (Or.inr (slot_ne (Or.inr (hw _ (List.mem_of_getElem? (i := 103) rfl))) (Or.inr (hw _ (List.mem_of_getElem? (i := 111) rfl))) (by decide) (t := .int) (t' := .int) (by decide) (by decide)))
        have F_a_intervalMs_207 := F_a_intervalMs_201.other W207 (Or.inr (slot_ne (Or.inr (hw _ (List.mem_of_getElem? (i := 105) rfl))) (Or.inr (hw _ (List.mem_of_getElem? (i := 111) rfl))) (by decide) (t := .double) (t' := .int) (by decide) (by decide)))
        have F_a_shift_207 := F_a_shift_201.other W207 (Or.inr (slot_ne (Or.inr (hw _ (List.mem_of_getElem? (i := 107) rfl))) (Or.inr (hw _ (List.mem_of_getElem? (i := 111) rfl))) (by decide) (t := (.object "java/util/Optional")) (t' := .int) (by decide) (by decide)))
        have F_a_lowest_207 := F_a_lowest_201.other W207 (Or.inr (slot_ne (Or.inr (hw _ (List.mem_of_getElem? (i := 109) rfl))) (Or.inr (hw _ (List.mem_of_getElem? (i := 111) rfl))) (by decide) (t := .int) (t' := .int) (by decide) (by decide)))
        have V_ar_207 := V_ar_201.other W207 ne_ar
        have E_sh_207 := E_sh_201.wr W207
        have F_sh_value_207 := F_sh_value_201.other W207 (Or.inl ne_sh)
        have E_sp_207 := E_sp_201.wr W207
        have F_sp_meanMs_207 := F_sp_meanMs_201.other W207 (Or.inl ne_sp)
        have F_sp_sdMs_207 := F_sp_sdMs_201.other W207 (Or.inl ne_sp)
        have F_a_highest_207 := F_a_highest_201.same W207
        have K207 := K201.wr W207 (Or.inl (List.mem_of_getElem? (i := 0) rfl))
        have N207 := Fr.snoc X207 N201 ga
        have Z207 : n0 ≤ h207.size := Nat.le_trans Z201 (Keep.of_wr W207).1
        refine Dn.st st207 ?_
        show Dn p e below s _ _ _ (T207.setTop (mkF m 210 #[.val (.ref a), .val (.ref ar), .val (.ref lv), .val (.int fi), .val (.int cn), .val (.double dt), .second, .val (.ref sh), .val (.int (1 : Int32)), .val (.int (0 : Int32)), .val (.int (4 : Int32))] []))
        have eL : (own_low i0 i1 i2 i3 i4) = (0 : Int32) := by unfold own_low; rw [if_neg hi161]
        have eH : (own_high i0 i1 i2 i3 i4) = (4 : Int32) := by unfold own_high; rw [if_neg hi189]
        exact Dn.ret0 X207 hlk hx hret (hb hby d10_210) (by rw [e207]; exact ⟨rfl, N207, K207, E_a_207, F_a_first_207, F_a_count_207, F_a_intervalMs_207, (eL ▸ F_a_lowest_207), (eH ▸ F_a_highest_207)⟩) (by decide) (by decide)

theorem d2_0 : decode prog_38_method_1_code 0 = .ok (.aload_n 0, 1) := by decide +kernel
theorem d2_1 : decode prog_38_method_1_code 1 = .ok (.aload_n 1, 1) := by decide +kernel
theorem d2_2 : decode prog_38_method_1_code 2 = .ok (.invokevirtual 1, 3) := by decide +kernel
theorem d2_5 : decode prog_38_method_1_code 5 = .ok (.checkcast 2, 3) := by decide +kernel
theorem d2_8 : decode prog_38_method_1_code 8 = .ok (.invokestatic 7, 3) := by decide +kernel
theorem d2_11 : decode prog_38_method_1_code 11 = .ok (.iload_n 2, 1) := by decide +kernel
theorem d2_12 : decode prog_38_method_1_code 12 = .ok (.iload_n 3, 1) := by decide +kernel
theorem d2_13 : decode prog_38_method_1_code 13 = .ok (.dload 4, 2) := by decide +kernel
theorem d2_15 : decode prog_38_method_1_code 15 = .ok (.new 13, 3) := by decide +kernel
theorem d2_18 : decode prog_38_method_1_code 18 = .ok (.dup, 1) := by decide +kernel
theorem d2_19 : decode prog_38_method_1_code 19 = .ok (.dload 6, 2) := by decide +kernel
theorem d2_21 : decode prog_38_method_1_code 21 = .ok (.dload 8, 2) := by decide +kernel
theorem d2_23 : decode prog_38_method_1_code 23 = .ok (.invokespecial 15, 3) := by decide +kernel
theorem d2_26 : decode prog_38_method_1_code 26 = .ok (.invokestatic 19, 3) := by decide +kernel
theorem d2_29 : decode prog_38_method_1_code 29 = .ok (.invokespecial 23, 3) := by decide +kernel
theorem d2_32 : decode prog_38_method_1_code 32 = .ok (.return_, 1) := by decide +kernel
theorem pd7 : parseMethodDescriptor "()Ljava/util/Optional;" = some ⟨[], some (.object "java/util/Optional")⟩ := by decide +kernel
theorem pd8 : parseMethodDescriptor "(DD)V" = some ⟨[.double, .double], none⟩ := by decide +kernel
theorem pd9 : parseMethodDescriptor "(Ljava/lang/Object;)Ljava/util/Optional;" = some ⟨[(.object "java/lang/Object")], some (.object "java/util/Optional")⟩ := by decide +kernel
theorem pd10 : parseMethodDescriptor "([DLjava/util/Optional;IIDLjava/util/Optional;)V" = some ⟨[(.array .double), (.object "java/util/Optional"), .int, .int, .double, (.object "java/util/Optional")], none⟩ := by decide +kernel
theorem ef2_rm2 (m : MethodId) (x0 : Addr) (x1 : Addr) (x2 : Int32) (x3 : Int32) (x4 : UInt64) (x5 : UInt64) (x6 : UInt64) : entryFrame m #[(.ref x0), (.ref x1), (.int x2), (.int x3), (.double x4), (.double x5), (.double x6)] 10 = mkF m 0 #[.val (.ref x0), .val (.ref x1), .val (.int x2), .val (.int x3), .val (.double x4), .second, .val (.double x5), .second, .val (.double x6), .second] [] := by first | (simp [entryFrame, mkF, argsToLocals, Value.category]; done) | rfl
def Q2 (Z : State) (a : Addr) (ar : Addr) (fi : Int32) (cn : Int32) (dt : UInt64) (mu : UInt64) (sd : UInt64) (aE : Addr) (kr : ClassId) (z0 z1 z2 z3 z4 : UInt64) (i0 i1 i2 i3 i4 it : Int) (h0 : Heap) (n0 : Nat) (v : Option Value) (h : Heap) (L : List Loc) : Prop := v = none ∧ Fr n0 L ∧ Keep h0 h [a] ∧ Exa Z h a "com/example/tieline/tieline/wavelet/Registration" ∧ (Fld Z h a "com/example/tieline/tieline/wavelet/Registration" "first" "I" (.int fi)) ∧ (Fld Z h a "com/example/tieline/tieline/wavelet/Registration" "count" "I" (.int cn)) ∧ (Fld Z h a "com/example/tieline/tieline/wavelet/Registration" "intervalMs" "D" (.double dt)) ∧ (Fld Z h a "com/example/tieline/tieline/wavelet/Registration" "lowest" "I" (.int (own_low i0 i1 i2 i3 i4))) ∧ (Fld Z h a "com/example/tieline/tieline/wavelet/Registration" "highest" "I" (.int (own_high i0 i1 i2 i3 i4)))
set_option maxRecDepth 65536 in
set_option maxHeartbeats 40000000 in
theorem rm2 (l : Launch) (Z : State) (a0 : Array Value) (hw : ∀ d ∈ tables_1, d.before a0 Z = true) (ws : List Jvm.Cond) (a : Addr) (ar : Addr) (fi : Int32) (cn : Int32) (dt : UInt64) (mu : UInt64) (sd : UInt64) (aE : Addr) (kr : ClassId) (z0 z1 z2 z3 z4 : UInt64) (i0 i1 i2 i3 i4 it : Int) (h0 : Heap) (n0 : Nat) (Z0 : n0 ≤ h0.size) (S_E : Sta Z h0 "java/util/Optional" "EMPTY" "Ljava/util/Optional;" (.ref aE)) (ga : n0 ≤ a) (Ea : Exa Z h0 a "com/example/tieline/tieline/wavelet/Registration") (F_reflectivity : Fld Z h0 a "com/example/tieline/tieline/wavelet/Registration" "reflectivity" "[D" .null) (F_levels : Fld Z h0 a "com/example/tieline/tieline/wavelet/Registration" "levels" "Ljava/util/Optional;" .null) (F_first : Fld Z h0 a "com/example/tieline/tieline/wavelet/Registration" "first" "I" (.int 0)) (F_count : Fld Z h0 a "com/example/tieline/tieline/wavelet/Registration" "count" "I" (.int 0)) (F_intervalMs : Fld Z h0 a "com/example/tieline/tieline/wavelet/Registration" "intervalMs" "D" (.double 0)) (F_shift : Fld Z h0 a "com/example/tieline/tieline/wavelet/Registration" "shift" "Ljava/util/Optional;" .null) (F_lowest : Fld Z h0 a "com/example/tieline/tieline/wavelet/Registration" "lowest" "I" (.int 0)) (F_highest : Fld Z h0 a "com/example/tieline/tieline/wavelet/Registration" "highest" "I" (.int 0)) (Va : Arv Z h0 ar kr .double 5 [(.double z0), (.double z1), (.double z2), (.double z3), (.double z4)] (.double 0)) (Er : Exa Z h0 ar "[D") (ne_ar : ar ≠ a) (hfm : Jvm.Free.Fl.Fin64 mu) (hfs : Jvm.Free.Fl.Fin64 sd) (hc1 : 1 ≤ cn.toInt) (ddt : DS 0 it dt) (hit : 1 ≤ it) (dsd : DS 0 1 sd) (d_z0 : DS 0 i0 z0) (d_z1 : DS 0 i1 z1) (d_z2 : DS 0 i2 z2) (d_z3 : DS 0 i3 z3) (d_z4 : DS 0 i4 z4) :
    MetFree l (⟨"com/example/tieline/tieline/wavelet/Registration", "<init>", "([DIIDDD)V"⟩ : MethodName) (head1 (Jvm.Cond.code (⟨"com/example/tieline/tieline/wavelet/Registration", "<init>", "([DIIDDD)V"⟩ : MethodName) prog_38_method_1_code 10 none :: ws) ({ frames := 4, cells := 3, slots := 8, locals := 90 } : Room)) (fun aa UU => aa = #[(.ref a), (.ref ar), (.int fi), (.int cn), (.double dt), (.double mu), (.double sd)] ∧ Z.Warmed39 UU.vm ∧ UU.heap = h0) (fun _ _ _ _ _ => True) (fun _ UU oo UU' => ∃ vv LL, oo = .returned vv ∧ Q2 Z a ar fi cn dt mu sd aE kr z0 z1 z2 z3 z4 i0 i1 i2 i3 i4 it h0 n0 vv UU'.heap LL ∧ FrameEnd UU oo UU' LL ({ frames := 4, cells := 3, slots := 8, locals := 90 } : Room).cells ({ frames := 4, cells := 3, slots := 8, locals := 90 } : Room).slots) := by
  refine MetFree.of_bodySF (plainFor_of_name pn5) hisR ?_
  intro p e s m args below meth c s₁ Bd hml0 hP hK
  obtain ⟨rfl, hZ, hh⟩ := hP
  have hx := Bd.exec
  have hby := Bd.bytes
  have hlk : meth.locks = false := BodyLoose.notSynchronized Bd
  have hret := Bd.returns
  have hml : c.maxLocals = 10 := hml0
  have hown : s.vm.findClass "com/example/tieline/tieline/wavelet/Registration" = some m.cls := findClass_of_methodNamed Bd.named
  have hnm := (name_of_methodNamed Bd.named Bd.method).1
  have X0 : Stand p l e ({ frames := 4, cells := 3, slots := 8, locals := 90 } : Room) s m #[(.ref a), (.ref ar), (.int fi), (.int cn), (.double dt), (.double mu), (.double sd)] below meth c s₁ [] 0 0 := Stand.of_body Bd
  have e0 : s₁.heap = h0 := by rw [← hh, Bd.state]; rfl
  have N0 := Fr.nil n0
  show Dn p e below s (Q2 Z a ar fi cn dt mu sd aE kr z0 z1 z2 z3 z4 i0 i1 i2 i3 i4 it h0 n0) ({ frames := 4, cells := 3, slots := 8, locals := 90 } : Room).cells ({ frames := 4, cells := 3, slots := 8, locals := 90 } : Room).slots (s₁.setTop (entryFrame m #[(.ref a), (.ref ar), (.int fi), (.int cn), (.double dt), (.double mu), (.double sd)] 10))
  refine Dn.st (fun _ kk => castTop (ef2_rm2 m a ar fi cn dt mu sd) kk) ?_
  show Dn p e below s _ _ _ (s₁.setTop (mkF m 0 #[.val (.ref a), .val (.ref ar), .val (.int fi), .val (.int cn), .val (.double dt), .second, .val (.double mu), .second, .val (.double sd), .second] []))
  refine Dn.st (fun _ kk => XS.aloadN X0.here hx rfl (hb hby d2_0) rfl rfl (XS.aloadN X0.here hx rfl (hb hby d2_1) rfl rfl (kk))) ?_
  show Dn p e below s _ _ _ (s₁.setTop (mkF m 2 #[.val (.ref a), .val (.ref ar), .val (.int fi), .val (.int cn), .val (.double dt), .second, .val (.double mu), .second, .val (.double sd), .second] [(.ref ar), (.ref a)]))
  have Vc_ar_2 := Va
  obtain ⟨cl_ar_2, Ar_ar_2, q_ar_2, S_ar_2, N_ar_2, H_ar_2, G_ar_2⟩ := Vc_ar_2
  have FC2 : FitC Z cl_ar_2 := fitC_of Ar_ar_2 fun i hi v hv => by rw [H_ar_2 i hi] at hv; cases hv; exact G_ar_2 i hi
  obtain ⟨T2, h2, X2, e2, E2, A2, B2, st2⟩ := cloneA X0 hx hZ hown (hw _ (List.mem_of_getElem? (i := 14) rfl)) (hw _ (List.mem_of_getElem? (i := 15) rfl)) (hw _ (List.mem_of_getElem? (i := 19) rfl)) (hw _ (List.mem_of_getElem? (i := 17) rfl)) (hw _ (List.mem_of_getElem? (i := 18) rfl)) (hw _ (List.mem_of_getElem? (i := 20) rfl)) e0 Ar_ar_2 Er FC2 (g := (mkF m 2 #[.val (.ref a), .val (.ref ar), .val (.int fi), .val (.int cn), .val (.double dt), .second, .val (.double mu), .second, .val (.double sd), .second] [(.ref ar), (.ref a)])) rfl (by rw [hml]; rfl) rfl (hb hby d2_2) (by decide) (W := 1) (cap := 5) (by show 2 * 0 + _ ≤ _; exact Nat.le_of_eq rfl) (by decide) (by rw [S_ar_2]; decide) (by decide) (by decide)
  obtain ⟨b2, g2⟩ : ∃ z, z = h0.size := ⟨_, rfl⟩
  rw [← g2] at A2 B2 st2
  have ne_a_b2 : a ≠ b2 := Nat.ne_of_lt (Nat.lt_of_lt_of_le Ea.lt (Nat.le_of_eq g2.symm))
  have ne_ar_b2 : ar ≠ b2 := Nat.ne_of_lt (Nat.lt_of_lt_of_le Va.lt (Nat.le_of_eq g2.symm))
  have gz_b2 : h0.size ≤ b2 := Nat.le_trans (Keep.refl h0 [a]).1 (Nat.le_of_eq g2.symm)
  have S_Optional_EMPTY_2 := S_E.ext E2
  have E_a_2 := Ea.ext E2
  have F_a_reflectivity_2 := F_reflectivity.ext E2
  have F_a_levels_2 := F_levels.ext E2
  have F_a_first_2 := F_first.ext E2
  have F_a_count_2 := F_count.ext E2
  have F_a_intervalMs_2 := F_intervalMs.ext E2
  have F_a_shift_2 := F_shift.ext E2
  have F_a_lowest_2 := F_lowest.ext E2
  have F_a_highest_2 := F_highest.ext E2
  have V_ar_2 := Va.ext E2
  have E_ar_2 := Er.ext E2
  have K2 := (Keep.refl h0 [a]).ext E2
  have gn_b2 : n0 ≤ b2 := Nat.le_trans Z0 (Nat.le_of_eq g2.symm)
  have Z2 : n0 ≤ h2.size := Nat.le_trans Z0 E2.1
  have V_b2 : Arv Z h2 b2 kr .double (5 : Int32) [(.double z0), (.double z1), (.double z2), (.double z3), (.double z4)] (.double (0 : UInt64)) := ⟨_, A2, q_ar_2, S_ar_2, N_ar_2, H_ar_2, G_ar_2⟩
  refine Dn.st st2 ?_
  show Dn p e below s _ _ _ (T2.setTop (mkF m 5 #[.val (.ref a), .val (.ref ar), .val (.int fi), .val (.int cn), .val (.double dt), .second, .val (.double mu), .second, .val (.double sd), .second] [(.ref b2), (.ref a)]))
  obtain ⟨T5, X5, e5, st5⟩ := castY X2 hx hZ hown (hw _ (List.mem_of_getElem? (i := 21) rfl)) e2 (Ins.self B2) (g := (mkF m 5 #[.val (.ref a), .val (.ref ar), .val (.int fi), .val (.int cn), .val (.double dt), .second, .val (.double mu), .second, .val (.double sd), .second] [(.ref b2), (.ref a)])) rfl rfl (hb hby d2_5)
  refine Dn.st st5 ?_
  show Dn p e below s _ _ _ (T5.setTop (mkF m 8 #[.val (.ref a), .val (.ref ar), .val (.int fi), .val (.int cn), .val (.double dt), .second, .val (.double mu), .second, .val (.double sd), .second] [(.ref b2), (.ref a)]))
  obtain ⟨_, _, ⟨T8, L8, k8, n8⟩, -, X8, ⟨Lc8, hQ8, l8, y8, z8⟩, st8⟩ := Jvm.LawKit.callS X5 hx (y := (⟨"java/util/Optional", "empty", "()Ljava/util/Optional;"⟩ : MethodName)) hown (mvT hZ (hw _ (List.mem_of_getElem? (i := 23) rfl))) (mvT hZ (hw _ (List.mem_of_getElem? (i := 24) rfl))) (mvT hZ (hw _ (List.mem_of_getElem? (i := 25) rfl))) (mvT hZ (hw _ (List.mem_of_getElem? (i := 26) rfl))) (by decide) (backOf (W := 2) (rm3 l Z a0 hw []  aE h2 n0 Z2 S_Optional_EMPTY_2) hZ (hw _ (List.mem_of_getElem? (i := 26) rfl)) (hw _ (List.mem_of_getElem? (i := 25) rfl)) (by decide) (by decide)) (g := (mkF m 8 #[.val (.ref a), .val (.ref ar), .val (.int fi), .val (.int cn), .val (.double dt), .second, .val (.double mu), .second, .val (.double sd), .second] [(.ref b2), (.ref a)])) rfl (by rw [hml]; rfl) (argsL := []) (rest := [(.ref b2), (.ref a)]) (lenOf pd7 rfl) rfl (by show 2 * 0 + _ ≤ _; exact Nat.le_of_eq rfl) (hb hby d2_8) (fun _ _ => ⟨rfl, e5, (by decide : 1 + 0 ≤ _), (by decide : 5 + 0 ≤ _)⟩)
  dsimp only [Pt.U, Pt.locs, Pt.cells, Pt.slots] at X8 l8 y8 z8 st8 hQ8
  subst l8 y8 z8
  obtain ⟨rfl, Nq8, hh8⟩ := hQ8
  have N8 := Fr.app N0 Nq8
  refine Dn.st st8 ?_
  show Dn p e below s _ _ _ (T8.setTop (mkF m 11 #[.val (.ref a), .val (.ref ar), .val (.int fi), .val (.int cn), .val (.double dt), .second, .val (.double mu), .second, .val (.double sd), .second] [(.ref aE), (.ref b2), (.ref a)]))
  refine Dn.st (fun _ kk => XS.iloadN X8.here hx rfl (hb hby d2_11) rfl  (XS.iloadN X8.here hx rfl (hb hby d2_12) rfl  (XS.dload X8.here hx rfl (hb hby d2_13) rfl  (kk)))) ?_
  show Dn p e below s _ _ _ (T8.setTop (mkF m 15 #[.val (.ref a), .val (.ref ar), .val (.int fi), .val (.int cn), .val (.double dt), .second, .val (.double mu), .second, .val (.double sd), .second] [(.double dt), (.int cn), (.int fi), (.ref aE), (.ref b2), (.ref a)]))
  obtain ⟨T15, h15, X15, e15, E15, A15, D15, -, st15⟩ := newO X8 hx hZ hown (hw _ (List.mem_of_getElem? (i := 28) rfl)) (hw _ (List.mem_of_getElem? (i := 29) rfl)) (hw _ (List.mem_of_getElem? (i := 30) rfl)) hh8 (g := (mkF m 15 #[.val (.ref a), .val (.ref ar), .val (.int fi), .val (.int cn), .val (.double dt), .second, .val (.double mu), .second, .val (.double sd), .second] [(.double dt), (.int cn), (.int fi), (.ref aE), (.ref b2), (.ref a)])) rfl (hb hby d2_15) (by decide) (by decide)
  obtain ⟨b15, g15⟩ : ∃ z, z = h2.size := ⟨_, rfl⟩
  rw [← g15] at A15 D15 st15
  have ne_a_b15 : a ≠ b15 := Nat.ne_of_lt (Nat.lt_of_lt_of_le E_a_2.lt (Nat.le_of_eq g15.symm))
  have ne_ar_b15 : ar ≠ b15 := Nat.ne_of_lt (Nat.lt_of_lt_of_le V_ar_2.lt (Nat.le_of_eq g15.symm))
  have ne_b2_b15 : b2 ≠ b15 := Nat.ne_of_lt (Nat.lt_of_lt_of_le V_b2.lt (Nat.le_of_eq g15.symm))
  have gz_b15 : h0.size ≤ b15 := Nat.le_trans K2.1 (Nat.le_of_eq g15.symm)
  have S_Optional_EMPTY_15 := S_Optional_EMPTY_2.ext E15
  have E_a_15 := E_a_2.ext E15
  have F_a_reflectivity_15 := F_a_reflectivity_2.ext E15
  have F_a_levels_15 := F_a_levels_2.ext E15
  have F_a_first_15 := F_a_first_2.ext E15
  have F_a_count_15 := F_a_count_2.ext E15
  have F_a_intervalMs_15 := F_a_intervalMs_2.ext E15
  have F_a_shift_15 := F_a_shift_2.ext E15
  have F_a_lowest_15 := F_a_lowest_2.ext E15
  have F_a_highest_15 := F_a_highest_2.ext E15
  have V_ar_15 := V_ar_2.ext E15
  have E_ar_15 := E_ar_2.ext E15
  have V_b2_15 := V_b2.ext E15
  have E_b2_15 := B2.ext E15
  have K15 := K2.ext E15
  have gn_b15 : n0 ≤ b15 := Nat.le_trans Z2 (Nat.le_of_eq g15.symm)
  have Z15 : n0 ≤ h15.size := Nat.le_trans Z2 E15.1
  have F_b15_meanMs : Fld Z h15 b15 "com/example/tieline/tieline/wavelet/Registration$ShiftPrior" "meanMs" "D" (.double (0 : UInt64)) := D15 (Or.inr (hw _ (List.mem_of_getElem? (i := 43) rfl))) (ty := .double) (by decide)
  have F_b15_sdMs : Fld Z h15 b15 "com/example/tieline/tieline/wavelet/Registration$ShiftPrior" "sdMs" "D" (.double (0 : UInt64)) := D15 (Or.inr (hw _ (List.mem_of_getElem? (i := 45) rfl))) (ty := .double) (by decide)
  refine Dn.st st15 ?_
  show Dn p e below s _ _ _ (T15.setTop (mkF m 18 #[.val (.ref a), .val (.ref ar), .val (.int fi), .val (.int cn), .val (.double dt), .second, .val (.double mu), .second, .val (.double sd), .second] [(.ref b15), (.double dt), (.int cn), (.int fi), (.ref aE), (.ref b2), (.ref a)]))
  refine Dn.st (fun _ kk => XS.dup X15.here hx rfl (hb hby d2_18) rfl rfl (XS.dload X15.here hx rfl (hb hby d2_19) rfl  (XS.dload X15.here hx rfl (hb hby d2_21) rfl  (kk)))) ?_
  show Dn p e below s _ _ _ (T15.setTop (mkF m 23 #[.val (.ref a), .val (.ref ar), .val (.int fi), .val (.int cn), .val (.double dt), .second, .val (.double mu), .second, .val (.double sd), .second] [(.double sd), (.double mu), (.ref b15), (.ref b15), (.double dt), (.int cn), (.int fi), (.ref aE), (.ref b2), (.ref a)]))
  obtain ⟨_, _, ⟨T23, L23, k23, n23⟩, -, X23, ⟨Lc23, hQ23, l23, y23, z23⟩, st23⟩ := X15.specialBack hx (y := (⟨"com/example/tieline/tieline/wavelet/Registration$ShiftPrior", "<init>", "(DD)V"⟩ : MethodName)) rfl hown (mvT hZ (hw _ (List.mem_of_getElem? (i := 31) rfl))) (mvT hZ (hw _ (List.mem_of_getElem? (i := 32) rfl))) (mvT hZ (hw _ (List.mem_of_getElem? (i := 33) rfl))) (by decide) (backOf (W := 8) (rm4 l Z a0 hw [] b15 mu sd  h15 n0 Z15 gn_b15 A15 F_b15_meanMs F_b15_sdMs ) hZ (hw _ (List.mem_of_getElem? (i := 33) rfl)) (hw _ (List.mem_of_getElem? (i := 30) rfl)) (by decide) (by decide)) (g := (mkF m 23 #[.val (.ref a), .val (.ref ar), .val (.int fi), .val (.int cn), .val (.double dt), .second, .val (.double mu), .second, .val (.double sd), .second] [(.double sd), (.double mu), (.ref b15), (.ref b15), (.double dt), (.int cn), (.int fi), (.ref aE), (.ref b2), (.ref a)])) rfl (by rw [hml]; rfl) (Steps.refl _) (a := b15) (argsL := [(.double mu), (.double sd)]) (rest := [(.ref b15), (.double dt), (.int cn), (.int fi), (.ref aE), (.ref b2), (.ref a)]) (lenOf pd8 rfl) rfl (by show 2 * 0 + _ ≤ _; exact Nat.le_of_eq rfl) (hb hby d2_23) (fun _ _ => ⟨rfl, e15, (by decide : 2 + 0 ≤ _), (by decide : 7 + 0 ≤ _)⟩)
  dsimp only [Pt.U, Pt.locs, Pt.cells, Pt.slots] at X23 l23 y23 z23 st23 hQ23
  subst l23 y23 z23
  obtain ⟨rfl, Nq23, K23, E_b15_23, F_b15_meanMs_23, F_b15_sdMs_23⟩ := hQ23
  have N23 := Fr.app N8 Nq23
  refine Dn.tr st23 ?_
  have E_a_23 := E_a_15.keep K23
  have F_a_reflectivity_23 := F_a_reflectivity_15.keep K23 (ninS ne_a_b15 nin0)
  have F_a_levels_23 := F_a_levels_15.keep K23 (ninS ne_a_b15 nin0)
  have F_a_first_23 := F_a_first_15.keep K23 (ninS ne_a_b15 nin0)
  have F_a_count_23 := F_a_count_15.keep K23 (ninS ne_a_b15 nin0)
  have F_a_intervalMs_23 := F_a_intervalMs_15.keep K23 (ninS ne_a_b15 nin0)
  have F_a_shift_23 := F_a_shift_15.keep K23 (ninS ne_a_b15 nin0)
  have F_a_lowest_23 := F_a_lowest_15.keep K23 (ninS ne_a_b15 nin0)
  have F_a_highest_23 := F_a_highest_15.keep K23 (ninS ne_a_b15 nin0)
  have V_ar_23 := V_ar_15.keep K23 (ninS ne_ar_b15 nin0)
  have E_ar_23 := E_ar_15.keep K23
  have V_b2_23 := V_b2_15.keep K23 (ninS ne_b2_b15 nin0)
  have E_b2_23 := E_b2_15.keep K23
  have Z23 : n0 ≤ T23.heap.size := Nat.le_trans Z15 K23.1
  have KK23 := K15.trans K23 (allS (Or.inr gz_b15) all0)
  show Dn p e below s _ _ _ (T23.setTop (mkF m 26 #[.val (.ref a), .val (.ref ar), .val (.int fi), .val (.int cn), .val (.double dt), .second, .val (.double mu), .second, .val (.double sd), .second] [(.ref b15), (.double dt), (.int cn), (.int fi), (.ref aE), (.ref b2), (.ref a)]))
  obtain ⟨_, _, ⟨T26, L26, k26, n26⟩, -, X26, ⟨Lc26, hQ26, l26, y26, z26⟩, st26⟩ := Jvm.LawKit.callS X23 hx (y := (⟨"java/util/Optional", "of", "(Ljava/lang/Object;)Ljava/util/Optional;"⟩ : MethodName)) hown (mvT hZ (hw _ (List.mem_of_getElem? (i := 46) rfl))) (mvT hZ (hw _ (List.mem_of_getElem? (i := 47) rfl))) (mvT hZ (hw _ (List.mem_of_getElem? (i := 25) rfl))) (mvT hZ (hw _ (List.mem_of_getElem? (i := 48) rfl))) (by decide) (backOf (W := 7) (rm7 l Z a0 hw [] b15  T23.heap n0 Z23 ) hZ (hw _ (List.mem_of_getElem? (i := 48) rfl)) (hw _ (List.mem_of_getElem? (i := 25) rfl)) (by decide) (by decide)) (g := (mkF m 26 #[.val (.ref a), .val (.ref ar), .val (.int fi), .val (.int cn), .val (.double dt), .second, .val (.double mu), .second, .val (.double sd), .second] [(.ref b15), (.double dt), (.int cn), (.int fi), (.ref aE), (.ref b2), (.ref a)])) rfl (by rw [hml]; rfl) (argsL := [(.ref b15)]) (rest := [(.double dt), (.int cn), (.int fi), (.ref aE), (.ref b2), (.ref a)]) (lenOf pd9 rfl) rfl (by show 2 * 0 + _ ≤ _; exact Nat.le_of_eq rfl) (hb hby d2_26) (fun _ _ => ⟨rfl, rfl, (by decide : 2 + 1 ≤ _), (by decide : 7 + 1 ≤ _)⟩)
  dsimp only [Pt.U, Pt.locs, Pt.cells, Pt.slots] at X26 l26 y26 z26 st26 hQ26
  subst l26 y26 z26
  obtain ⟨bb26, rfl, gz26, Nq26, K26, E_bb26, F_bb26⟩ := hQ26
  have N26 := Fr.app N23 Nq26
  refine Dn.st st26 ?_
  have ne_a_bb26 : a ≠ bb26 := Nat.ne_of_lt (Nat.lt_of_lt_of_le E_a_23.lt gz26)
  have ne_ar_bb26 : ar ≠ bb26 := Nat.ne_of_lt (Nat.lt_of_lt_of_le V_ar_23.lt gz26)
  have ne_b2_bb26 : b2 ≠ bb26 := Nat.ne_of_lt (Nat.lt_of_lt_of_le V_b2_23.lt gz26)
  have ne_b15_bb26 : b15 ≠ bb26 := Nat.ne_of_lt (Nat.lt_of_lt_of_le E_b15_23.lt gz26)
  have E_a_26 := E_a_23.keep K26
  have F_a_reflectivity_26 := F_a_reflectivity_23.keep K26 nin0
  have F_a_levels_26 := F_a_levels_23.keep K26 nin0
  have F_a_first_26 := F_a_first_23.keep K26 nin0
  have F_a_count_26 := F_a_count_23.keep K26 nin0
  have F_a_intervalMs_26 := F_a_intervalMs_23.keep K26 nin0
  have F_a_shift_26 := F_a_shift_23.keep K26 nin0
  have F_a_lowest_26 := F_a_lowest_23.keep K26 nin0
  have F_a_highest_26 := F_a_highest_23.keep K26 nin0
  have V_ar_26 := V_ar_23.keep K26 nin0
  have E_ar_26 := E_ar_23.keep K26
  have V_b2_26 := V_b2_23.keep K26 nin0
  have E_b2_26 := E_b2_23.keep K26
  have E_b15_26 := E_b15_23.keep K26
  have F_b15_meanMs_26 := F_b15_meanMs_23.keep K26 nin0
  have F_b15_sdMs_26 := F_b15_sdMs_23.keep K26 nin0
  have Z26 : n0 ≤ T26.heap.size := Nat.le_trans Z23 K26.1
  have KK26 := KK23.trans K26 all0
  show Dn p e below s _ _ _ (T26.setTop (mkF m 29 #[.val (.ref a), .val (.ref ar), .val (.int fi), .val (.int cn), .val (.double dt), .second, .val (.double mu), .second, .val (.double sd), .second] [(.ref bb26), (.double dt), (.int cn), (.int fi), (.ref aE), (.ref b2), (.ref a)]))
  obtain ⟨_, _, ⟨T29, L29, k29, n29⟩, -, X29, ⟨Lc29, hQ29, l29, y29, z29⟩, st29⟩ := X26.specialBack hx (y := (⟨"com/example/tieline/tieline/wavelet/Registration", "<init>", "([DLjava/util/Optional;IIDLjava/util/Optional;)V"⟩ : MethodName)) rfl hown (mvT hZ (hw _ (List.mem_of_getElem? (i := 62) rfl))) (mvT hZ (hw _ (List.mem_of_getElem? (i := 63) rfl))) (mvT hZ (hw _ (List.mem_of_getElem? (i := 64) rfl))) (by decide) (backOf (W := 0) (rm10 l Z a0 hw [] a b2 aE fi cn dt bb26 kr z0 z1 z2 z3 z4 mu sd b15 i0 i1 i2 i3 i4 it T26.heap n0 Z26 ga E_a_26 F_a_reflectivity_26 F_a_levels_26 F_a_first_26 F_a_count_26 F_a_intervalMs_26 F_a_shift_26 F_a_lowest_26 F_a_highest_26 V_b2_26 (Ne.symm ne_a_b2) (Ne.symm ne_a_bb26) (Ne.symm ne_a_b15) E_bb26 F_bb26 E_b15_26 F_b15_meanMs_26 F_b15_sdMs_26 hfm hfs hc1 ddt hit dsd d_z0 d_z1 d_z2 d_z3 d_z4) hZ (hw _ (List.mem_of_getElem? (i := 64) rfl)) (hw _ (List.mem_of_getElem? (i := 10) rfl)) (by decide) (by decide)) (g := (mkF m 29 #[.val (.ref a), .val (.ref ar), .val (.int fi), .val (.int cn), .val (.double dt), .second, .val (.double mu), .second, .val (.double sd), .second] [(.ref bb26), (.double dt), (.int cn), (.int fi), (.ref aE), (.ref b2), (.ref a)])) rfl (by rw [hml]; rfl) (Steps.refl _) (a := a) (argsL := [(.ref b2), (.ref aE), (.int fi), (.int cn), (.double dt), (.ref bb26)]) (rest := []) (lenOf pd10 rfl) rfl (by show 2 * 0 + _ ≤ _; exact Nat.le_of_eq rfl) (hb hby d2_29) (fun _ _ => ⟨rfl, rfl, (by decide : 3 + 0 ≤ _), (by decide : 8 + 0 ≤ _)⟩)
  dsimp only [Pt.U, Pt.locs, Pt.cells, Pt.slots] at X29 l29 y29 z29 st29 hQ29
  subst l29 y29 z29
  obtain ⟨rfl, Nq29, K29, E29, G1_29, G2_29, G3_29, G4_29, G5_29⟩ := hQ29
  have N29 := Fr.app N26 Nq29
  refine Dn.tr st29 ?_
  have KK29 := KK26.trans K29 (allS (Or.inl (List.mem_of_getElem? (i := 0) rfl)) all0)
  show Dn p e below s _ _ _ (T29.setTop (mkF m 32 #[.val (.ref a), .val (.ref ar), .val (.int fi), .val (.int cn), .val (.double dt), .second, .val (.double mu), .second, .val (.double sd), .second] []))
  exact Dn.ret0 X29 hlk hx hret (hb hby d2_32) ⟨rfl, N29, KK29, E29, G1_29, G2_29, G3_29, G4_29, G5_29⟩ (by decide) (by decide)

theorem d17_0 : decode prog_38_method_23_code 0 = .ok (.bipush 25, 2) := by decide +kernel
theorem d17_2 : decode prog_38_method_23_code 2 = .ok (.istore_n 2, 1) := by decide +kernel
theorem d17_3 : decode prog_38_method_23_code 3 = .ok (.iconst 2, 1) := by decide +kernel
theorem d17_4 : decode prog_38_method_23_code 4 = .ok (.newarray .double, 2) := by decide +kernel
theorem d17_6 : decode prog_38_method_23_code 6 = .ok (.dup, 1) := by decide +kernel
theorem d17_7 : decode prog_38_method_23_code 7 = .ok (.iconst 0, 1) := by decide +kernel
theorem d17_8 : decode prog_38_method_23_code 8 = .ok (.aload_n 0, 1) := by decide +kernel
theorem d17_9 : decode prog_38_method_23_code 9 = .ok (.getfield 90, 3) := by decide +kernel
theorem d17_12 : decode prog_38_method_23_code 12 = .ok (.iload_n 1, 1) := by decide +kernel
theorem d17_13 : decode prog_38_method_23_code 13 = .ok (.isub, 1) := by decide +kernel
theorem d17_14 : decode prog_38_method_23_code 14 = .ok (.aload_n 0, 1) := by decide +kernel
theorem d17_15 : decode prog_38_method_23_code 15 = .ok (.getfield 107, 3) := by decide +kernel
theorem d17_18 : decode prog_38_method_23_code 18 = .ok (.isub, 1) := by decide +kernel
theorem d17_19 : decode prog_38_method_23_code 19 = .ok (.iload_n 2, 1) := by decide +kernel
theorem d17_20 : decode prog_38_method_23_code 20 = .ok (.isub, 1) := by decide +kernel
theorem d17_21 : decode prog_38_method_23_code 21 = .ok (.i2d, 1) := by decide +kernel
theorem d17_22 : decode prog_38_method_23_code 22 = .ok (.aload_n 0, 1) := by decide +kernel
theorem d17_23 : decode prog_38_method_23_code 23 = .ok (.getfield 97, 3) := by decide +kernel
theorem d17_26 : decode prog_38_method_23_code 26 = .ok (.dmul, 1) := by decide +kernel
theorem d17_27 : decode prog_38_method_23_code 27 = .ok (.dastore, 1) := by decide +kernel
theorem d17_28 : decode prog_38_method_23_code 28 = .ok (.dup, 1) := by decide +kernel
theorem d17_29 : decode prog_38_method_23_code 29 = .ok (.iconst 1, 1) := by decide +kernel
theorem d17_30 : decode prog_38_method_23_code 30 = .ok (.aload_n 0, 1) := by decide +kernel
theorem d17_31 : decode prog_38_method_23_code 31 = .ok (.getfield 90, 3) := by decide +kernel
theorem d17_34 : decode prog_38_method_23_code 34 = .ok (.aload_n 0, 1) := by decide +kernel
theorem d17_35 : decode prog_38_method_23_code 35 = .ok (.getfield 94, 3) := by decide +kernel
theorem d17_38 : decode prog_38_method_23_code 38 = .ok (.iadd, 1) := by decide +kernel
theorem d17_39 : decode prog_38_method_23_code 39 = .ok (.iconst 1, 1) := by decide +kernel
theorem d17_40 : decode prog_38_method_23_code 40 = .ok (.isub, 1) := by decide +kernel
theorem d17_41 : decode prog_38_method_23_code 41 = .ok (.iload_n 1, 1) := by decide +kernel
theorem d17_42 : decode prog_38_method_23_code 42 = .ok (.iadd, 1) := by decide +kernel
theorem d17_43 : decode prog_38_method_23_code 43 = .ok (.aload_n 0, 1) := by decide +kernel
theorem d17_44 : decode prog_38_method_23_code 44 = .ok (.getfield 104, 3) := by decide +kernel
theorem d17_47 : decode prog_38_method_23_code 47 = .ok (.isub, 1) := by decide +kernel
theorem d17_48 : decode prog_38_method_23_code 48 = .ok (.iload_n 2, 1) := by decide +kernel
theorem d17_49 : decode prog_38_method_23_code 49 = .ok (.iadd, 1) := by decide +kernel
theorem d17_50 : decode prog_38_method_23_code 50 = .ok (.i2d, 1) := by decide +kernel
theorem d17_51 : decode prog_38_method_23_code 51 = .ok (.aload_n 0, 1) := by decide +kernel
theorem d17_52 : decode prog_38_method_23_code 52 = .ok (.getfield 97, 3) := by decide +kernel
theorem d17_55 : decode prog_38_method_23_code 55 = .ok (.dmul, 1) := by decide +kernel
theorem d17_56 : decode prog_38_method_23_code 56 = .ok (.dastore, 1) := by decide +kernel
theorem d17_57 : decode prog_38_method_23_code 57 = .ok (.areturn, 1) := by decide +kernel
theorem ef17_rm17 (m : MethodId) (x0 : Addr) (x1 : Int32) : entryFrame m #[(.ref x0), (.int x1)] 3 = mkF m 0 #[.val (.ref x0), .val (.int x1), .unset] [] := by first | (simp [entryFrame, mkF, argsToLocals, Value.category]; done) | rfl
def Q17 (Z : State) (a : Addr) (mm : Int32) (fi cn lo hg : Int32) (dt : UInt64) (it : Int) (h0 : Heap) (n0 : Nat) (v : Option Value) (h : Heap) (L : List Loc) : Prop := ∃ (b : Addr) (kb : ClassId) (w0 w1 : UInt64), v = some (.ref b) ∧ h0.size ≤ b ∧ Fr n0 L ∧ Keep h0 h [] ∧ Arv Z h b kb .double 2 [(.double w0), (.double w1)] (.double 0) ∧ DS 0 ((fi.toInt - mm.toInt - hg.toInt - 25) * it) w0 ∧ DS 0 ((fi.toInt + cn.toInt - 1 + mm.toInt - lo.toInt + 25) * it) w1
set_option maxRecDepth 65536 in
set_option maxHeartbeats 40000000 in
theorem rm17 (l : Launch) (Z : State) (a0 : Array Value) (hw : ∀ d ∈ tables_1, d.before a0 Z = true) (ws : List Jvm.Cond) (a : Addr) (mm : Int32) (fi cn lo hg : Int32) (dt : UInt64) (it : Int) (h0 : Heap) (n0 : Nat) (Z0 : n0 ≤ h0.size) (F_first : Fld Z h0 a "com/example/tieline/tieline/wavelet/Registration" "first" "I" (.int fi)) (F_count : Fld Z h0 a "com/example/tieline/tieline/wavelet/Registration" "count" "I" (.int cn)) (F_intervalMs : Fld Z h0 a "com/example/tieline/tieline/wavelet/Registration" "intervalMs" "D" (.double dt)) (F_lowest : Fld Z h0 a "com/example/tieline/tieline/wavelet/Registration" "lowest" "I" (.int lo)) (F_highest : Fld Z h0 a "com/example/tieline/tieline/wavelet/Registration" "highest" "I" (.int hg)) (ddt : DS 0 it dt) (hit : 1 ≤ it ∧ it ≤ 64) (hb1 : -1048576 ≤ fi.toInt ∧ fi.toInt ≤ 1048576) (hb2 : 0 ≤ cn.toInt ∧ cn.toInt ≤ 1048576) (hb3 : 0 ≤ mm.toInt ∧ mm.toInt ≤ 1048576) (hb4 : 0 ≤ lo.toInt ∧ lo.toInt ≤ 5) (hb5 : 0 ≤ hg.toInt ∧ hg.toInt ≤ 5) :
    MetFree l (⟨"com/example/tieline/tieline/wavelet/Registration", "reach", "(I)[D"⟩ : MethodName) (head1 (Jvm.Cond.code (⟨"com/example/tieline/tieline/wavelet/Registration", "reach", "(I)[D"⟩ : MethodName) prog_38_method_23_code 3 (some (.array .double)) :: ws) ({ frames := 0, cells := 1, slots := 2, locals := 0 } : Room)) (fun aa UU => aa = #[(.ref a), (.int mm)] ∧ Z.Warmed39 UU.vm ∧ UU.heap = h0) (fun _ _ _ _ _ => True) (fun _ UU oo UU' => ∃ vv LL, oo = .returned vv ∧ Q17 Z a mm fi cn lo hg dt it h0 n0 vv UU'.heap LL ∧ FrameEnd UU oo UU' LL ({ frames := 0, cells := 1, slots := 2, locals := 0 } : Room).cells ({ frames := 0, cells := 1, slots := 2, locals := 0 } : Room).slots) := by
  refine MetFree.of_bodySF (plainFor_of_name pn5) hisR ?_
  intro p e s m args below meth c s₁ Bd hml0 hP hK
  obtain ⟨rfl, hZ, hh⟩ := hP
  have hx := Bd.exec
  have hby := Bd.bytes
  have hlk : meth.locks = false := BodyLoose.notSynchronized Bd
  have hret := Bd.returns
  have hml : c.maxLocals = 3 := hml0
  have hown : s.vm.findClass "com/example/tieline/tieline/wavelet/Registration" = some m.cls := findClass_of_methodNamed Bd.named
  have hnm := (name_of_methodNamed Bd.named Bd.method).1
  have X0 : Stand p l e ({ frames := 0, cells := 1, slots := 2, locals := 0 } : Room) s m #[(.ref a), (.int mm)] below meth c s₁ [] 0 0 := Stand.of_body Bd
  have e0 : s₁.heap = h0 := by rw [← hh, Bd.state]; rfl
  have N0 := Fr.nil n0
  have r_mm := rng32 mm
  show Dn p e below s (Q17 Z a mm fi cn lo hg dt it h0 n0) ({ frames := 0, cells := 1, slots := 2, locals := 0 } : Room).cells ({ frames := 0, cells := 1, slots := 2, locals := 0 } : Room).slots (s₁.setTop (entryFrame m #[(.ref a), (.int mm)] 3))
  refine Dn.st (fun _ kk => castTop (ef17_rm17 m a mm) kk) ?_
  have r_fi := rng32 fi
  have r_cn := rng32 cn
  have r_lo := rng32 lo
  have r_hg := rng32 hg
  have m1 := own_mul (a := fi.toInt - mm.toInt - hg.toInt - 25) (A := 4194304) (b := it) (B := 64) (by omega) (by omega)
  have m2 := own_mul (a := fi.toInt + cn.toInt - 1 + mm.toInt - lo.toInt + 25) (A := 4194304) (b := it) (B := 64) (by omega) (by omega)
  show Dn p e below s _ _ _ (s₁.setTop (mkF m 0 #[.val (.ref a), .val (.int mm), .unset] []))
  refine Dn.st (fun _ kk => XS.bipush X0.here hx rfl (hb hby d17_0) (XS.istoreN X0.here hx rfl (hb hby d17_2) rfl (l' := #[.val (.ref a), .val (.int mm), .val (.int (25 : Int32))]) rfl (XS.iconst X0.here hx rfl (hb hby d17_3) (kk)))) ?_
  show Dn p e below s _ _ _ (s₁.setTop (mkF m 4 #[.val (.ref a), .val (.int mm), .val (.int (25 : Int32))] [(.int (2 : Int32))]))
  obtain ⟨T4, h4, k4, X4, e4, E4, A4, st4⟩ := newP X0 hx hZ (hw _ (List.mem_of_getElem? (i := 0) rfl)) e0 (g := (mkF m 4 #[.val (.ref a), .val (.int mm), .val (.int (25 : Int32))] [(.int (2 : Int32))])) rfl (hb hby d17_4) rfl (by decide) (cap := 2) (by decide) (by decide) (by decide) (by decide)
  obtain ⟨b4, g4⟩ : ∃ z, z = h0.size := ⟨_, rfl⟩
  rw [← g4] at A4 st4
  have ne_a_b4 : a ≠ b4 := Nat.ne_of_lt (Nat.lt_of_lt_of_le F_first.lt (Nat.le_of_eq g4.symm))
  have gz_b4 : h0.size ≤ b4 := Nat.le_trans (Keep.refl h0 []).1 (Nat.le_of_eq g4.symm)
  have F_a_first_4 := F_first.ext E4
  have F_a_count_4 := F_count.ext E4
  have F_a_intervalMs_4 := F_intervalMs.ext E4
  have F_a_lowest_4 := F_lowest.ext E4
  have F_a_highest_4 := F_highest.ext E4
  have K4 := (Keep.refl h0 []).ext E4
  have gn_b4 : n0 ≤ b4 := Nat.le_trans Z0 (Nat.le_of_eq g4.symm)
  have Z4 : n0 ≤ h4.size := Nat.le_trans Z0 E4.1
  have V_b4 : Arv Z h4 b4 k4 .double (2 : Int32) [(.double (0 : UInt64)), (.double (0 : UInt64))] (.double (0 : UInt64)) := (Arv.new A4 (by decide)).pad (pad_rep [] (.double (0 : UInt64)) 2)
  refine Dn.st st4 ?_
  show Dn p e below s _ _ _ (T4.setTop (mkF m 6 #[.val (.ref a), .val (.int mm), .val (.int (25 : Int32))] [(.ref b4)]))
  refine Dn.st (fun _ kk => XS.dup X4.here hx rfl (hb hby d17_6) rfl rfl (XS.iconst X4.here hx rfl (hb hby d17_7) (XS.aloadN X4.here hx rfl (hb hby d17_8) rfl rfl (kk)))) ?_
  show Dn p e below s _ _ _ (T4.setTop (mkF m 9 #[.val (.ref a), .val (.int mm), .val (.int (25 : Int32))] [(.ref a), (.int (0 : Int32)), (.ref b4), (.ref b4)]))
  obtain ⟨T9, X9, e9, st9⟩ := getF X4 hx hZ hown (host := "") (Or.inl (hw _ (List.mem_of_getElem? (i := 100) rfl))) Via.refl e4 F_a_first_4 (g := (mkF m 9 #[.val (.ref a), .val (.int mm), .val (.int (25 : Int32))] [(.ref a), (.int (0 : Int32)), (.ref b4), (.ref b4)])) rfl rfl (hb hby d17_9)
  refine Dn.st st9 ?_
  show Dn p e below s _ _ _ (T9.setTop (mkF m 12 #[.val (.ref a), .val (.int mm), .val (.int (25 : Int32))] [(.int fi), (.int (0 : Int32)), (.ref b4), (.ref b4)]))
  refine Dn.st (fun _ kk => XS.iloadN X9.here hx rfl (hb hby d17_12) rfl  (XS.isub X9.here hx rfl (hb hby d17_13) rfl (kk))) ?_
  show Dn p e below s _ _ _ (T9.setTop (mkF m 14 #[.val (.ref a), .val (.int mm), .val (.int (25 : Int32))] [(.int (fi - mm)), (.int (0 : Int32)), (.ref b4), (.ref b4)]))
  generalize hv13 : ((fi - mm) : Int32) = v13
  have q13 : (v13.toInt - (fi.toInt - mm.toInt)) % 4294967296 = 0 := by have qq := c_isub fi mm; rw [hv13] at qq; exact qq
  have r13 := rng32 v13
  show Dn p e below s _ _ _ (T9.setTop (mkF m 14 #[.val (.ref a), .val (.int mm), .val (.int (25 : Int32))] [(.int v13), (.int (0 : Int32)), (.ref b4), (.ref b4)]))
  refine Dn.st (fun _ kk => XS.aloadN X9.here hx rfl (hb hby d17_14) rfl rfl (kk)) ?_
  show Dn p e below s _ _ _ (T9.setTop (mkF m 15 #[.val (.ref a), .val (.int mm), .val (.int (25 : Int32))] [(.ref a), (.int v13), (.int (0 : Int32)), (.ref b4), (.ref b4)]))
  obtain ⟨T15, X15, e15, st15⟩ := getF X9 hx hZ hown (host := "") (Or.inl (hw _ (List.mem_of_getElem? (i := 110) rfl))) Via.refl e9 F_a_highest_4 (g := (mkF m 15 #[.val (.ref a), .val (.int mm), .val (.int (25 : Int32))] [(.ref a), (.int v13), (.int (0 : Int32)), (.ref b4), (.ref b4)])) rfl rfl (hb hby d17_15)
  refine Dn.st st15 ?_
  show Dn p e below s _ _ _ (T15.setTop (mkF m 18 #[.val (.ref a), .val (.int mm), .val (.int (25 : Int32))] [(.int hg), (.int v13), (.int (0 : Int32)), (.ref b4), (.ref b4)]))
  refine Dn.st (fun _ kk => XS.isub X15.here hx rfl (hb hby d17_18) rfl (kk)) ?_
  show Dn p e below s _ _ _ (T15.setTop (mkF m 19 #[.val (.ref a), .val (.int mm), .val (.int (25 : Int32))] [(.int (v13 - hg)), (.int (0 : Int32)), (.ref b4), (.ref b4)]))
  generalize hv18 : ((v13 - hg) : Int32) = v18
  have q18 : (v18.toInt - (v13.toInt - hg.toInt)) % 4294967296 = 0 := by have qq := c_isub v13 hg; rw [hv18] at qq; exact qq
  have r18 := rng32 v18
  show Dn p e below s _ _ _ (T15.setTop (mkF m 19 #[.val (.ref a), .val (.int mm), .val (.int (25 : Int32))] [(.int v18), (.int (0 : Int32)), (.ref b4), (.ref b4)]))
  refine Dn.st (fun _ kk => XS.iloadN X15.here hx rfl (hb hby d17_19) rfl  (XS.isub X15.here hx rfl (hb hby d17_20) rfl (kk))) ?_
  show Dn p e below s _ _ _ (T15.setTop (mkF m 21 #[.val (.ref a), .val (.int mm), .val (.int (25 : Int32))] [(.int (v18 - (25 : Int32))), (.int (0 : Int32)), (.ref b4), (.ref b4)]))
  generalize hv20 : ((v18 - (25 : Int32)) : Int32) = v20
  have q20 : (v20.toInt - (v18.toInt - 25)) % 4294967296 = 0 := by have qq := c_isub v18 (25 : Int32); rw [hv20] at qq; exact qq
  have r20 := rng32 v20
  show Dn p e below s _ _ _ (T15.setTop (mkF m 21 #[.val (.ref a), .val (.int mm), .val (.int (25 : Int32))] [(.int v20), (.int (0 : Int32)), (.ref b4), (.ref b4)]))
  have d21 := DS.i2d v20
  refine Dn.st (fun _ kk => XS.i2dS X15.here hx rfl (hb hby d17_21) rfl rfl (kk)) ?_
  show Dn p e below s _ _ _ (T15.setTop (mkF m 22 #[.val (.ref a), .val (.int mm), .val (.int (25 : Int32))] [(.double (FP.i2d v20)), (.int (0 : Int32)), (.ref b4), (.ref b4)]))
  generalize hv21 : ((FP.i2d v20) : UInt64) = v21 at d21 ⊢
  show Dn p e below s _ _ _ (T15.setTop (mkF m 22 #[.val (.ref a), .val (.int mm), .val (.int (25 : Int32))] [(.double v21), (.int (0 : Int32)), (.ref b4), (.ref b4)]))
  refine Dn.st (fun _ kk => XS.aloadN X15.here hx rfl (hb hby d17_22) rfl rfl (kk)) ?_
  show Dn p e below s _ _ _ (T15.setTop (mkF m 23 #[.val (.ref a), .val (.int mm), .val (.int (25 : Int32))] [(.ref a), (.double v21), (.int (0 : Int32)), (.ref b4), (.ref b4)]))
  obtain ⟨T23, X23, e23, st23⟩ := getF X15 hx hZ hown (host := "") (Or.inl (hw _ (List.mem_of_getElem? (i := 104) rfl))) Via.refl e15 F_a_intervalMs_4 (g := (mkF m 23 #[.val (.ref a), .val (.int mm), .val (.int (25 : Int32))] [(.ref a), (.double v21), (.int (0 : Int32)), (.ref b4), (.ref b4)])) rfl rfl (hb hby d17_23)
  refine Dn.st st23 ?_
  show Dn p e below s _ _ _ (T23.setTop (mkF m 26 #[.val (.ref a), .val (.int mm), .val (.int (25 : Int32))] [(.double dt), (.double v21), (.int (0 : Int32)), (.ref b4), (.ref b4)]))
  have d26 : DS 0 ((fi.toInt - mm.toInt - hg.toInt - 25) * it) (FP.dmul v21 dt) := DS.mul (k := 0) (m := 0) ((d21).cast rfl (by omega)) ddt (by omega) (by decide)
  refine Dn.st (fun _ kk => XS.dmulS X23.here hx rfl (hb hby d17_26) rfl d26.nn rfl (kk)) ?_
  show Dn p e below s _ _ _ (T23.setTop (mkF m 27 #[.val (.ref a), .val (.int mm), .val (.int (25 : Int32))] [(.double (FP.dmul v21 dt)), (.int (0 : Int32)), (.ref b4), (.ref b4)]))
  generalize hv26 : ((FP.dmul v21 dt) : UInt64) = v26 at d26 ⊢
  show Dn p e below s _ _ _ (T23.setTop (mkF m 27 #[.val (.ref a), .val (.int mm), .val (.int (25 : Int32))] [(.double v26), (.int (0 : Int32)), (.ref b4), (.ref b4)]))
  have Vc_b4_27 := V_b4
  obtain ⟨cl_b4_27, Ar_b4_27, q_b4_27, S_b4_27, N_b4_27, H_b4_27, G_b4_27⟩ := Vc_b4_27
  have hin27 : ¬ ((0 : Int32) < 0 ∨ cl_b4_27.slots.size ≤ ((0 : Int32)).toNatClampNeg) := inb_of S_b4_27 ⟨by decide, by decide⟩
  obtain ⟨T27, h27, X27, e27, W27, st27⟩ := stD X23 hx hZ e23 Ar_b4_27 (j := (0 : Int32)) hin27 (g := (mkF m 27 #[.val (.ref a), .val (.int mm), .val (.int (25 : Int32))] [(.double v26), (.int (0 : Int32)), (.ref b4), (.ref b4)])) rfl rfl (hb hby d17_27)
  have F_a_first_27 := F_a_first_4.other W27 (Or.inl ne_a_b4)
  have F_a_count_27 := F_a_count_4.other W27 (Or.inl ne_a_b4)
  have F_a_intervalMs_27 := F_a_intervalMs_4.other W27 (Or.inl ne_a_b4)
  have F_a_lowest_27 := F_a_lowest_4.other W27 (Or.inl ne_a_b4)
  have F_a_highest_27 := F_a_highest_4.other W27 (Or.inl ne_a_b4)
  have V_b4_27 := Arv.set Ar_b4_27 q_b4_27 S_b4_27 N_b4_27 H_b4_27 G_b4_27 rfl W27 0 rfl (Nat.le_of_ble_eq_true rfl)
  have K27 := K4.wr W27 (Or.inr gz_b4)
  have N27 := Fr.snoc X27 N0 gn_b4
  have Z27 : n0 ≤ h27.size := Nat.le_trans Z4 (Keep.of_wr W27).1
  refine Dn.st st27 ?_
  show Dn p e below s _ _ _ (T27.setTop (mkF m 28 #[.val (.ref a), .val (.int mm), .val (.int (25 : Int32))] [(.ref b4)]))
  refine Dn.st (fun _ kk => XS.dup X27.here hx rfl (hb hby d17_28) rfl rfl (XS.iconst X27.here hx rfl (hb hby d17_29) (XS.aloadN X27.here hx rfl (hb hby d17_30) rfl rfl (kk)))) ?_
  show Dn p e below s _ _ _ (T27.setTop (mkF m 31 #[.val (.ref a), .val (.int mm), .val (.int (25 : Int32))] [(.ref a), (.int (1 : Int32)), (.ref b4), (.ref b4)]))
  obtain ⟨T31, X31, e31, st31⟩ := getF X27 hx hZ hown (host := "") (Or.inl (hw _ (List.mem_of_getElem? (i := 100) rfl))) Via.refl e27 F_a_first_27 (g := (mkF m 31 #[.val (.ref a), .val (.int mm), .val (.int (25 : Int32))] [(.ref a), (.int (1 : Int32)), (.ref b4), (.ref b4)])) rfl rfl (hb hby d17_31)
  refine Dn.st st31 ?_
  show Dn p e below s _ _ _ (T31.setTop (mkF m 34 #[.val (.ref a), .val (.int mm), .val (.int (25 : Int32))] [(.int fi), (.int (1 : Int32)), (.ref b4), (.ref b4)]))
  refine Dn.st (fun _ kk => XS.aloadN X31.here hx rfl (hb hby d17_34) rfl rfl (kk)) ?_
  show Dn p e below s _ _ _ (T31.setTop (mkF m 35 #[.val (.ref a), .val (.int mm), .val (.int (25 : Int32))] [(.ref a), (.int fi), (.int (1 : Int32)), (.ref b4), (.ref b4)]))
  obtain ⟨T35, X35, e35, st35⟩ := getF X31 hx hZ hown (host := "") (Or.inl (hw _ (List.mem_of_getElem? (i := 102) rfl))) Via.refl e31 F_a_count_27 (g := (mkF m 35 #[.val (.ref a), .val (.int mm), .val (.int (25 : Int32))] [(.ref a), (.int fi), (.int (1 : Int32)), (.ref b4), (.ref b4)])) rfl rfl (hb hby d17_35)
  refine Dn.st st35 ?_
  show Dn p e below s _ _ _ (T35.setTop (mkF m 38 #[.val (.ref a), .val (.int mm), .val (.int (25 : Int32))] [(.int cn), (.int fi), (.int (1 : Int32)), (.ref b4), (.ref b4)]))
  refine Dn.st (fun _ kk => XS.iadd X35.here hx rfl (hb hby d17_38) rfl (kk)) ?_
  show Dn p e below s _ _ _ (T35.setTop (mkF m 39 #[.val (.ref a), .val (.int mm), .val (.int (25 : Int32))] [(.int (fi + cn)), (.int (1 : Int32)), (.ref b4), (.ref b4)]))
  generalize hv38 : ((fi + cn) : Int32) = v38
  have q38 : (v38.toInt - (fi.toInt + cn.toInt)) % 4294967296 = 0 := by have qq := c_iadd fi cn; rw [hv38] at qq; exact qq
  have r38 := rng32 v38
  show Dn p e below s _ _ _ (T35.setTop (mkF m 39 #[.val (.ref a), .val (.int mm), .val (.int (25 : Int32))] [(.int v38), (.int (1 : Int32)), (.ref b4), (.ref b4)]))
  refine Dn.st (fun _ kk => XS.iconst X35.here hx rfl (hb hby d17_39) (XS.isub X35.here hx rfl (hb hby d17_40) rfl (kk))) ?_
  show Dn p e below s _ _ _ (T35.setTop (mkF m 41 #[.val (.ref a), .val (.int mm), .val (.int (25 : Int32))] [(.int (v38 - (1 : Int32))), (.int (1 : Int32)), (.ref b4), (.ref b4)]))
  generalize hv40 : ((v38 - (1 : Int32)) : Int32) = v40
  have q40 : (v40.toInt - (v38.toInt - 1)) % 4294967296 = 0 := by have qq := c_isub v38 (1 : Int32); rw [hv40] at qq; exact qq
  have r40 := rng32 v40
  show Dn p e below s _ _ _ (T35.setTop (mkF m 41 #[.val (.ref a), .val (.int mm), .val (.int (25 : Int32))] [(.int v40), (.int (1 : Int32)), (.ref b4), (.ref b4)]))
  refine Dn.st (fun _ kk => XS.iloadN X35.here hx rfl (hb hby d17_41) rfl  (XS.iadd X35.here hx rfl (hb hby d17_42) rfl (kk))) ?_
  show Dn p e below s _ _ _ (T35.setTop (mkF m 43 #[.val (.ref a), .val (.int mm), .val (.int (25 : Int32))] [(.int (v40 + mm)), (.int (1 : Int32)), (.ref b4), (.ref b4)]))
  generalize hv42 : ((v40 + mm) : Int32) = v42
  have q42 : (v42.toInt - (v40.toInt + mm.toInt)) % 4294967296 = 0 := by have qq := c_iadd v40 mm; rw [hv42] at qq; exact qq
  have r42 := rng32 v42
  show Dn p e below s _ _ _ (T35.setTop (mkF m 43 #[.val (.ref a), .val (.int mm), .val (.int (25 : Int32))] [(.int v42), (.int (1 : Int32)), (.ref b4), (.ref b4)]))
  refine Dn.st (fun _ kk => XS.aloadN X35.here hx rfl (hb hby d17_43) rfl rfl (kk)) ?_
  show Dn p e below s _ _ _ (T35.setTop (mkF m 44 #[.val (.ref a), .val (.int mm), .val (.int (25 : Int32))] [(.ref a), (.int v42), (.int (1 : Int32)), (.ref b4), (.ref b4)]))
  obtain ⟨T44, X44, e44, st44⟩ := getF X35 hx hZ hown (host := "") (Or.inl (hw _ (List.mem_of_getElem? (i := 108) rfl))) Via.refl e35 F_a_lowest_27 (g := (mkF m 44 #[.val (.ref a), .val (.int mm), .val (.int (25 : Int32))] [(.ref a), (.int v42), (.int (1 : Int32)), (.ref b4), (.ref b4)])) rfl rfl (hb hby d17_44)
  refine Dn.st st44 ?_
  show Dn p e below s _ _ _ (T44.setTop (mkF m 47 #[.val (.ref a), .val (.int mm), .val (.int (25 : Int32))] [(.int lo), (.int v42), (.int (1 : Int32)), (.ref b4), (.ref b4)]))
  refine Dn.st (fun _ kk => XS.isub X44.here hx rfl (hb hby d17_47) rfl (kk)) ?_
  show Dn p e below s _ _ _ (T44.setTop (mkF m 48 #[.val (.ref a), .val (.int mm), .val (.int (25 : Int32))] [(.int (v42 - lo)), (.int (1 : Int32)), (.ref b4), (.ref b4)]))
  generalize hv47 : ((v42 - lo) : Int32) = v47
  have q47 : (v47.toInt - (v42.toInt - lo.toInt)) % 4294967296 = 0 := by have qq := c_isub v42 lo; rw [hv47] at qq; exact qq
  have r47 := rng32 v47
  show Dn p e below s _ _ _ (T44.setTop (mkF m 48 #[.val (.ref a), .val (.int mm), .val (.int (25 : Int32))] [(.int v47), (.int (1 : Int32)), (.ref b4), (.ref b4)]))
  refine Dn.st (fun _ kk => XS.iloadN X44.here hx rfl (hb hby d17_48) rfl  (XS.iadd X44.here hx rfl (hb hby d17_49) rfl (kk))) ?_
  show Dn p e below s _ _ _ (T44.setTop (mkF m 50 #[.val (.ref a), .val (.int mm), .val (.int (25 : Int32))] [(.int (v47 + (25 : Int32))), (.int (1 : Int32)), (.ref b4), (.ref b4)]))
  generalize hv49 : ((v47 + (25 : Int32)) : Int32) = v49
  have q49 : (v49.toInt - (v47.toInt + 25)) % 4294967296 = 0 := by have qq := c_iadd v47 (25 : Int32); rw [hv49] at qq; exact qq
  have r49 := rng32 v49
  show Dn p e below s _ _ _ (T44.setTop (mkF m 50 #[.val (.ref a), .val (.int mm), .val (.int (25 : Int32))] [(.int v49), (.int (1 : Int32)), (.ref b4), (.ref b4)]))
  have d50 := DS.i2d v49
  refine Dn.st (fun _ kk => XS.i2dS X44.here hx rfl (hb hby d17_50) rfl rfl (kk)) ?_
  show Dn p e below s _ _ _ (T44.setTop (mkF m 51 #[.val (.ref a), .val (.int mm), .val (.int (25 : Int32))] [(.double (FP.i2d v49)), (.int (1 : Int32)), (.ref b4), (.ref b4)]))
  generalize hv50 : ((FP.i2d v49) : UInt64) = v50 at d50 ⊢
  show Dn p e below s _ _ _ (T44.setTop (mkF m 51 #[.val (.ref a), .val (.int mm), .val (.int (25 : Int32))] [(.double v50), (.int (1 : Int32)), (.ref b4), (.ref b4)]))
  refine Dn.st (fun _ kk => XS.aloadN X44.here hx rfl (hb hby d17_51) rfl rfl (kk)) ?_
  show Dn p e below s _ _ _ (T44.setTop (mkF m 52 #[.val (.ref a), .val (.int mm), .val (.int (25 : Int32))] [(.ref a), (.double v50), (.int (1 : Int32)), (.ref b4), (.ref b4)]))
  obtain ⟨T52, X52, e52, st52⟩ := getF X44 hx hZ hown (host := "") (Or.inl (hw _ (List.mem_of_getElem? (i := 104) rfl))) Via.refl e44 F_a_intervalMs_27 (g := (mkF m 52 #[.val (.ref a), .val (.int mm), .val (.int (25 : Int32))] [(.ref a), (.double v50), (.int (1 : Int32)), (.ref b4), (.ref b4)])) rfl rfl (hb hby d17_52)
  refine Dn.st st52 ?_
  show Dn p e below s _ _ _ (T52.setTop (mkF m 55 #[.val (.ref a), .val (.int mm), .val (.int (25 : Int32))] [(.double dt), (.double v50), (.int (1 : Int32)), (.ref b4), (.ref b4)]))
  have d55 : DS 0 ((fi.toInt + cn.toInt - 1 + mm.toInt - lo.toInt + 25) * it) (FP.dmul v50 dt) := DS.mul (k := 0) (m := 0) ((d50).cast rfl (by omega)) ddt (by omega) (by decide)
  refine Dn.st (fun _ kk => XS.dmulS X52.here hx rfl (hb hby d17_55) rfl d55.nn rfl (kk)) ?_
  show Dn p e below s _ _ _ (T52.setTop (mkF m 56 #[.val (.ref a), .val (.int mm), .val (.int (25 : Int32))] [(.double (FP.dmul v50 dt)), (.int (1 : Int32)), (.ref b4), (.ref b4)]))
  generalize hv55 : ((FP.dmul v50 dt) : UInt64) = v55 at d55 ⊢
  show Dn p e below s _ _ _ (T52.setTop (mkF m 56 #[.val (.ref a), .val (.int mm), .val (.int (25 : Int32))] [(.double v55), (.int (1 : Int32)), (.ref b4), (.ref b4)]))
  have Vc_b4_56 := V_b4_27
  obtain ⟨cl_b4_56, Ar_b4_56, q_b4_56, S_b4_56, N_b4_56, H_b4_56, G_b4_56⟩ := Vc_b4_56
  have hin56 : ¬ ((1 : Int32) < 0 ∨ cl_b4_56.slots.size ≤ ((1 : Int32)).toNatClampNeg) := inb_of S_b4_56 ⟨by decide, by decide⟩
  obtain ⟨T56, h56, X56, e56, W56, st56⟩ := stD X52 hx hZ e52 Ar_b4_56 (j := (1 : Int32)) hin56 (g := (mkF m 56 #[.val (.ref a), .val (.int mm), .val (.int (25 : Int32))] [(.double v55), (.int (1 : Int32)), (.ref b4), (.ref b4)])) rfl rfl (hb hby d17_56)
  have F_a_first_56 := F_a_first_27.other W56 (Or.inl ne_a_b4)
  have F_a_count_56 := F_a_count_27.other W56 (Or.inl ne_a_b4)
  have F_a_intervalMs_56 := F_a_intervalMs_27.other W56 (Or.inl ne_a_b4)
  have F_a_lowest_56 := F_a_lowest_27.other W56 (Or.inl ne_a_b4)
  have F_a_highest_56 := F_a_highest_27.other W56 (Or.inl ne_a_b4)
  have V_b4_56 := Arv.set Ar_b4_56 q_b4_56 S_b4_56 N_b4_56 H_b4_56 G_b4_56 rfl W56 1 rfl (Nat.le_of_ble_eq_true rfl)
  have K56 := K27.wr W56 (Or.inr gz_b4)
  have N56 := Fr.snoc X56 N27 gn_b4
  have Z56 : n0 ≤ h56.size := Nat.le_trans Z27 (Keep.of_wr W56).1
  refine Dn.st st56 ?_
  show Dn p e below s _ _ _ (T56.setTop (mkF m 57 #[.val (.ref a), .val (.int mm), .val (.int (25 : Int32))] [(.ref b4)]))
  exact Dn.ret X56 hlk hx hret rfl (Or.inr (Or.inr (Or.inr (Or.inr ⟨rfl, rfl, rfl⟩)))) (hb hby d17_57) (by rw [e56]; exact ⟨b4, k4, v26, v55, rfl, gz_b4, N56, K56, V_b4_56, d26, d55⟩) (by decide) (by decide)

theorem pd11 : parseMethodDescriptor "(JI)D" = some ⟨[.long, .int], some .double⟩ := by decide +kernel
theorem pd12 : parseMethodDescriptor "([DIIDDD)V" = some ⟨[(.array .double), .int, .int, .double, .double, .double], none⟩ := by decide +kernel
theorem pd13 : parseMethodDescriptor "(I)[D" = some ⟨[.int], some (.array .double)⟩ := by decide +kernel
theorem ef0_rm0 (m : MethodId) (x0 : Int64) (x1 : Int32) (x2 : Int32) (x3 : Int32) (x4 : Int32) (x5 : Int32) : entryFrame m #[(.long x0), (.int x1), (.int x2), (.int x3), (.int x4), (.int x5)] maxLocals = mkF m 0 #[.val (.long x0), .second, .val (.int x1), .val (.int x2), .val (.int x3), .val (.int x4), .val (.int x5), .unset, .unset, .unset, .unset, .unset, .unset, .unset, .unset, .unset, .unset, .unset, .unset, .unset, .unset] [] := by first | (simp [entryFrame, mkF, argsToLocals, Value.category, maxLocals]; done) | rfl
def Q0 (Z : State) (p0 : Int64) (p1 : Int32) (p2 : Int32) (p3 : Int32) (p4 : Int32) (p5 : Int32) (aE : Addr) (h0 : Heap) (n0 : Nat) (v : Option Value) (h : Heap) (L : List Loc) : Prop := v = some (.int 1) ∧ Fr n0 L
set_option maxRecDepth 65536 in
set_option maxHeartbeats 40000000 in
theorem rm0 (l : Launch) (Z : State) (a0 : Array Value) (hw : ∀ d ∈ tables_1, d.before a0 Z = true) (ws : List Jvm.Cond) (p0 : Int64) (p1 : Int32) (p2 : Int32) (p3 : Int32) (p4 : Int32) (p5 : Int32) (aE : Addr) (h0 : Heap) (n0 : Nat) (Z0 : n0 ≤ h0.size) (S_E : Sta Z h0 "java/util/Optional" "EMPTY" "Ljava/util/Optional;" (.ref aE)) :
    MetFree l x (head1 (Jvm.Cond.code x code maxLocals ret :: ws) room_1) (fun aa UU => aa = #[(.long p0), (.int p1), (.int p2), (.int p3), (.int p4), (.int p5)] ∧ Z.Warmed39 UU.vm ∧ UU.heap = h0) (fun _ _ _ _ _ => True) (fun _ UU oo UU' => ∃ vv LL, oo = .returned vv ∧ Q0 Z p0 p1 p2 p3 p4 p5 aE h0 n0 vv UU'.heap LL ∧ FrameEnd UU oo UU' LL 24 128) := by
  refine MetFree.of_bodySF (plainFor_of_name pn0) hisR ?_
  intro p e s m args below meth c s₁ Bd hml0 hP hK
  obtain ⟨rfl, hZ, hh⟩ := hP
  have hx := Bd.exec
  have hby := Bd.bytes
  have hlk : meth.locks = false := BodyLoose.notSynchronized Bd
  have hret := Bd.returns
  have hml : c.maxLocals = 21 := hml0
  have hown : s.vm.findClass "com/example/tieline/tieline/wavelet/RegistrationReachPinLaw" = some m.cls := findClass_of_methodNamed Bd.named
  have hnm := (name_of_methodNamed Bd.named Bd.method).1
  have X0 : Stand p l e room_1 s m #[(.long p0), (.int p1), (.int p2), (.int p3), (.int p4), (.int p5)] below meth c s₁ [] 0 0 := Stand.of_body Bd
  have e0 : s₁.heap = h0 := by rw [← hh, Bd.state]; rfl
  have N0 := Fr.nil n0
  have r_p0 := rng64 p0
  have r_p1 := rng32 p1
  have r_p2 := rng32 p2
  have r_p3 := rng32 p3
  have r_p4 := rng32 p4
  have r_p5 := rng32 p5
  show Dn p e below s (Q0 Z p0 p1 p2 p3 p4 p5 aE h0 n0) 24 128 (s₁.setTop (entryFrame m #[(.long p0), (.int p1), (.int p2), (.int p3), (.int p4), (.int p5)] maxLocals))
  refine Dn.st (fun _ kk => castTop (ef0_rm0 m p0 p1 p2 p3 p4 p5) kk) ?_
  show Dn p e below s _ _ _ (s₁.setTop (mkF m 0 #[.val (.long p0), .second, .val (.int p1), .val (.int p2), .val (.int p3), .val (.int p4), .val (.int p5), .unset, .unset, .unset, .unset, .unset, .unset, .unset, .unset, .unset, .unset, .unset, .unset, .unset, .unset] []))
  refine Dn.st (fun _ kk => XS.iconst X0.here hx rfl (hb hby at_0) (kk)) ?_
  show Dn p e below s _ _ _ (s₁.setTop (mkF m 1 #[.val (.long p0), .second, .val (.int p1), .val (.int p2), .val (.int p3), .val (.int p4), .val (.int p5), .unset, .unset, .unset, .unset, .unset, .unset, .unset, .unset, .unset, .unset, .unset, .unset, .unset, .unset] [(.int (5 : Int32))]))
  obtain ⟨T1, h1, k1, X1, e1, E1, A1, B1, st1⟩ := newPE X0 hx hZ (hw _ (List.mem_of_getElem? (i := 0) rfl)) e0 (g := (mkF m 1 #[.val (.long p0), .second, .val (.int p1), .val (.int p2), .val (.int p3), .val (.int p4), .val (.int p5), .unset, .unset, .unset, .unset, .unset, .unset, .unset, .unset, .unset, .unset, .unset, .unset, .unset, .unset] [(.int (5 : Int32))])) rfl (hb hby at_1) rfl (by decide) (cap := 5) (by decide) (by decide) (by decide) (by decide) (ad := "[D") (by decide)
  obtain ⟨b1, g1⟩ : ∃ z, z = h0.size := ⟨_, rfl⟩
  rw [← g1] at A1 B1 st1
  have S_Optional_EMPTY_1 := S_E.ext E1
  have gn_b1 : n0 ≤ b1 := Nat.le_trans Z0 (Nat.le_of_eq g1.symm)
  have Z1 : n0 ≤ h1.size := Nat.le_trans Z0 E1.1
  have V_b1 : Arv Z h1 b1 k1 .double (5 : Int32) [(.double (0 : UInt64)), (.double (0 : UInt64)), (.double (0 : UInt64)), (.double (0 : UInt64)), (.double (0 : UInt64))] (.double (0 : UInt64)) := (Arv.new A1 (by decide)).pad (pad_rep [] (.double (0 : UInt64)) 5)
  refine Dn.st st1 ?_
  show Dn p e below s _ _ _ (T1.setTop (mkF m 3 #[.val (.long p0), .second, .val (.int p1), .val (.int p2), .val (.int p3), .val (.int p4), .val (.int p5), .unset, .unset, .unset, .unset, .unset, .unset, .unset, .unset, .unset, .unset, .unset, .unset, .unset, .unset] [(.ref b1)]))
  refine Dn.st (fun _ kk => XS.astore X1.here hx rfl (hb hby at_3) rfl rfl (l' := #[.val (.long p0), .second, .val (.int p1), .val (.int p2), .val (.int p3), .val (.int p4), .val (.int p5), .val (.ref b1), .unset, .unset, .unset, .unset, .unset, .unset, .unset, .unset, .unset, .unset, .unset, .unset, .unset]) rfl (XS.aload X1.here hx rfl (hb hby at_5) rfl rfl (XS.iconst X1.here hx rfl (hb hby at_7) (XS.lloadN X1.here hx rfl (hb hby at_8) rfl  (XS.iconst X1.here hx rfl (hb hby at_9) (kk)))))) ?_
  show Dn p e below s _ _ _ (T1.setTop (mkF m 10 #[.val (.long p0), .second, .val (.int p1), .val (.int p2), .val (.int p3), .val (.int p4), .val (.int p5), .val (.ref b1), .unset, .unset, .unset, .unset, .unset, .unset, .unset, .unset, .unset, .unset, .unset, .unset, .unset] [(.int (0 : Int32)), (.long p0), (.int (0 : Int32)), (.ref b1)]))
  obtain ⟨_, _, ⟨T10, L10, k10, n10⟩, -, X10, ⟨Lc10, hQ10, l10, y10, z10⟩, st10⟩ := Jvm.LawKit.callS X1 hx (y := (⟨"com/example/tieline/tieline/wavelet/RegistrationReachPinLaw", "v", "(JI)D"⟩ : MethodName)) hown (mvT hZ (hw _ (List.mem_of_getElem? (i := 1) rfl))) (mvT hZ (hw _ (List.mem_of_getElem? (i := 2) rfl))) (mvT hZ (hw _ (List.mem_of_getElem? (i := 3) rfl))) (mvT hZ (hw _ (List.mem_of_getElem? (i := 4) rfl))) (by decide) (backOf (W := 2) (rm1_0 l Z a0 hw []  p0 h1 n0 Z1 ) hZ (hw _ (List.mem_of_getElem? (i := 4) rfl)) (hw _ (List.mem_of_getElem? (i := 3) rfl)) (by decide) (by decide)) (g := (mkF m 10 #[.val (.long p0), .second, .val (.int p1), .val (.int p2), .val (.int p3), .val (.int p4), .val (.int p5), .val (.ref b1), .unset, .unset, .unset, .unset, .unset, .unset, .unset, .unset, .unset, .unset, .unset, .unset, .unset] [(.int (0 : Int32)), (.long p0), (.int (0 : Int32)), (.ref b1)])) rfl (by rw [hml]; rfl) (argsL := [(.long p0), (.int (0 : Int32))]) (rest := [(.int (0 : Int32)), (.ref b1)]) (lenOf pd11 rfl) rfl (by show 2 * 0 + _ ≤ _; exact Nat.le_of_eq rfl) (hb hby at_10) (fun _ _ => ⟨rfl, e1, (by decide : 1 + 0 ≤ _), (by decide : 5 + 0 ≤ _)⟩)
  dsimp only [Pt.U, Pt.locs, Pt.cells, Pt.slots] at X10 l10 y10 z10 st10 hQ10
  subst l10 y10 z10
  obtain ⟨z10, q10, rfl, d10, bq10, Nq10, hh10⟩ := hQ10
  have N10 := Fr.app N0 Nq10
  refine Dn.st st10 ?_
  show Dn p e below s _ _ _ (T10.setTop (mkF m 13 #[.val (.long p0), .second, .val (.int p1), .val (.int p2), .val (.int p3), .val (.int p4), .val (.int p5), .val (.ref b1), .unset, .unset, .unset, .unset, .unset, .unset, .unset, .unset, .unset, .unset, .unset, .unset, .unset] [(.double z10), (.int (0 : Int32)), (.ref b1)]))
  have Vc_b1_13 := V_b1
  obtain ⟨cl_b1_13, Ar_b1_13, q_b1_13, S_b1_13, N_b1_13, H_b1_13, G_b1_13⟩ := Vc_b1_13
  have hin13 : ¬ ((0 : Int32) < 0 ∨ cl_b1_13.slots.size ≤ ((0 : Int32)).toNatClampNeg) := inb_of S_b1_13 ⟨by decide, by decide⟩
  obtain ⟨T13, h13, X13, e13, W13, st13⟩ := stD X10 hx hZ hh10 Ar_b1_13 (j := (0 : Int32)) hin13 (g := (mkF m 13 #[.val (.long p0), .second, .val (.int p1), .val (.int p2), .val (.int p3), .val (.int p4), .val (.int p5), .val (.ref b1), .unset, .unset, .unset, .unset, .unset, .unset, .unset, .unset, .unset, .unset, .unset, .unset, .unset] [(.double z10), (.int (0 : Int32)), (.ref b1)])) rfl rfl (hb hby at_13)
  have S_Optional_EMPTY_13 := S_Optional_EMPTY_1.wr W13
  have E_b1_13 := B1.wr W13
  have V_b1_13 := Arv.set Ar_b1_13 q_b1_13 S_b1_13 N_b1_13 H_b1_13 G_b1_13 rfl W13 0 rfl (Nat.le_of_ble_eq_true rfl)
  have N13 := Fr.snoc X13 N10 gn_b1
  have Z13 : n0 ≤ h13.size := Nat.le_trans Z1 (Keep.of_wr W13).1
  refine Dn.st st13 ?_
  show Dn p e below s _ _ _ (T13.setTop (mkF m 14 #[.val (.long p0), .second, .val (.int p1), .val (.int p2), .val (.int p3), .val (.int p4), .val (.int p5), .val (.ref b1), .unset, .unset, .unset, .unset, .unset, .unset, .unset, .unset, .unset, .unset, .unset, .unset, .unset] []))
  refine Dn.st (fun _ kk => XS.aload X13.here hx rfl (hb hby at_14) rfl rfl (XS.iconst X13.here hx rfl (hb hby at_16) (XS.lloadN X13.here hx rfl (hb hby at_17) rfl  (XS.iconst X13.here hx rfl (hb hby at_18) (kk))))) ?_
  show Dn p e below s _ _ _ (T13.setTop (mkF m 19 #[.val (.long p0), .second, .val (.int p1), .val (.int p2), .val (.int p3), .val (.int p4), .val (.int p5), .val (.ref b1), .unset, .unset, .unset, .unset, .unset, .unset, .unset, .unset, .unset, .unset, .unset, .unset, .unset] [(.int (1 : Int32)), (.long p0), (.int (1 : Int32)), (.ref b1)]))
  obtain ⟨_, _, ⟨T19, L19, k19, n19⟩, -, X19, ⟨Lc19, hQ19, l19, y19, z19⟩, st19⟩ := Jvm.LawKit.callS X13 hx (y := (⟨"com/example/tieline/tieline/wavelet/RegistrationReachPinLaw", "v", "(JI)D"⟩ : MethodName)) hown (mvT hZ (hw _ (List.mem_of_getElem? (i := 1) rfl))) (mvT hZ (hw _ (List.mem_of_getElem? (i := 2) rfl))) (mvT hZ (hw _ (List.mem_of_getElem? (i := 3) rfl))) (mvT hZ (hw _ (List.mem_of_getElem? (i := 4) rfl))) (by decide) (backOf (W := 2) (rm1_1 l Z a0 hw []  p0 h13 n0 Z13 ) hZ (hw _ (List.mem_of_getElem? (i := 4) rfl)) (hw _ (List.mem_of_getElem? (i := 3) rfl)) (by decide) (by decide)) (g := (mkF m 19 #[.val (.long p0), .second, .val (.int p1), .val (.int p2), .val (.int p3), .val (.int p4), .val (.int p5), .val (.ref b1), .unset, .unset, .unset, .unset, .unset, .unset, .unset, .unset, .unset, .unset, .unset, .unset, .unset] [(.int (1 : Int32)), (.long p0), (.int (1 : Int32)), (.ref b1)])) rfl (by rw [hml]; rfl) (argsL := [(.long p0), (.int (1 : Int32))]) (rest := [(.int (1 : Int32)), (.ref b1)]) (lenOf pd11 rfl) rfl (by show 2 * 0 + _ ≤ _; exact Nat.le_of_eq rfl) (hb hby at_19) (fun _ _ => ⟨rfl, e13, (by decide : 1 + 0 ≤ _), (by decide : 5 + 0 ≤ _)⟩)
  dsimp only [Pt.U, Pt.locs, Pt.cells, Pt.slots] at X19 l19 y19 z19 st19 hQ19
  subst l19 y19 z19
  obtain ⟨z19, q19, rfl, d19, bq19, Nq19, hh19⟩ := hQ19
  have N19 := Fr.app N13 Nq19
  refine Dn.st st19 ?_
  show Dn p e below s _ _ _ (T19.setTop (mkF m 22 #[.val (.long p0), .second, .val (.int p1), .val (.int p2), .val (.int p3), .val (.int p4), .val (.int p5), .val (.ref b1), .unset, .unset, .unset, .unset, .unset, .unset, .unset, .unset, .unset, .unset, .unset, .unset, .unset] [(.double z19), (.int (1 : Int32)), (.ref b1)]))
  have Vc_b1_22 := V_b1_13
  obtain ⟨cl_b1_22, Ar_b1_22, q_b1_22, S_b1_22, N_b1_22, H_b1_22, G_b1_22⟩ := Vc_b1_22
  have hin22 : ¬ ((1 : Int32) < 0 ∨ cl_b1_22.slots.size ≤ ((1 : Int32)).toNatClampNeg) := inb_of S_b1_22 ⟨by decide, by decide⟩
  obtain ⟨T22, h22, X22, e22, W22, st22⟩ := stD X19 hx hZ hh19 Ar_b1_22 (j := (1 : Int32)) hin22 (g := (mkF m 22 #[.val (.long p0), .second, .val (.int p1), .val (.int p2), .val (.int p3), .val (.int p4), .val (.int p5), .val (.ref b1), .unset, .unset, .unset, .unset, .unset, .unset, .unset, .unset, .unset, .unset, .unset, .unset, .unset] [(.double z19), (.int (1 : Int32)), (.ref b1)])) rfl rfl (hb hby at_22)
  have S_Optional_EMPTY_22 := S_Optional_EMPTY_13.wr W22
  have E_b1_22 := E_b1_13.wr W22
  have V_b1_22 := Arv.set Ar_b1_22 q_b1_22 S_b1_22 N_b1_22 H_b1_22 G_b1_22 rfl W22 1 rfl (Nat.le_of_ble_eq_true rfl)
  have N22 := Fr.snoc X22 N19 gn_b1
  have Z22 : n0 ≤ h22.size := Nat.le_trans Z13 (Keep.of_wr W22).1
  refine Dn.st st22 ?_
  show Dn p e below s _ _ _ (T22.setTop (mkF m 23 #[.val (.long p0), .second, .val (.int p1), .val (.int p2), .val (.int p3), .val (.int p4), .val (.int p5), .val (.ref b1), .unset, .unset, .unset, .unset, .unset, .unset, .unset, .unset, .unset, .unset, .unset, .unset, .unset] []))
  refine Dn.st (fun _ kk => XS.aload X22.here hx rfl (hb hby at_23) rfl rfl (XS.iconst X22.here hx rfl (hb hby at_25) (XS.lloadN X22.here hx rfl (hb hby at_26) rfl  (XS.iconst X22.here hx rfl (hb hby at_27) (kk))))) ?_
  show Dn p e below s _ _ _ (T22.setTop (mkF m 28 #[.val (.long p0), .second, .val (.int p1), .val (.int p2), .val (.int p3), .val (.int p4), .val (.int p5), .val (.ref b1), .unset, .unset, .unset, .unset, .unset, .unset, .unset, .unset, .unset, .unset, .unset, .unset, .unset] [(.int (2 : Int32)), (.long p0), (.int (2 : Int32)), (.ref b1)]))
  obtain ⟨_, _, ⟨T28, L28, k28, n28⟩, -, X28, ⟨Lc28, hQ28, l28, y28, z28⟩, st28⟩ := Jvm.LawKit.callS X22 hx (y := (⟨"com/example/tieline/tieline/wavelet/RegistrationReachPinLaw", "v", "(JI)D"⟩ : MethodName)) hown (mvT hZ (hw _ (List.mem_of_getElem? (i := 1) rfl))) (mvT hZ (hw _ (List.mem_of_getElem? (i := 2) rfl))) (mvT hZ (hw _ (List.mem_of_getElem? (i := 3) rfl))) (mvT hZ (hw _ (List.mem_of_getElem? (i := 4) rfl))) (by decide) (backOf (W := 2) (rm1_2 l Z a0 hw []  p0 h22 n0 Z22 ) hZ (hw _ (List.mem_of_getElem? (i := 4) rfl)) (hw _ (List.mem_of_getElem? (i := 3) rfl)) (by decide) (by decide)) (g := (mkF m 28 #[.val (.long p0), .second, .val (.int p1), .val (.int p2), .val (.int p3), .val (.int p4), .val (.int p5), .val (.ref b1), .unset, .unset, .unset, .unset, .unset, .unset, .unset, .unset, .unset, .unset, .unset, .unset, .unset] [(.int (2 : Int32)), (.long p0), (.int (2 : Int32)), (.ref b1)])) rfl (by rw [hml]; rfl) (argsL := [(.long p0), (.int (2 : Int32))]) (rest := [(.int (2 : Int32)), (.ref b1)]) (lenOf pd11 rfl) rfl (by show 2 * 0 + _ ≤ _; exact Nat.le_of_eq rfl) (hb hby at_28) (fun _ _ => ⟨rfl, e22, (by decide : 1 + 0 ≤ _), (by decide : 5 + 0 ≤ _)⟩)
  dsimp only [Pt.U, Pt.locs, Pt.cells, Pt.slots] at X28 l28 y28 z28 st28 hQ28
  subst l28 y28 z28
  obtain ⟨z28, q28, rfl, d28, bq28, Nq28, hh28⟩ := hQ28
  have N28 := Fr.app N22 Nq28
  refine Dn.st st28 ?_
  show Dn p e below s _ _ _ (T28.setTop (mkF m 31 #[.val (.long p0), .second, .val (.int p1), .val (.int p2), .val (.int p3), .val (.int p4), .val (.int p5), .val (.ref b1), .unset, .unset, .unset, .unset, .unset, .unset, .unset, .unset, .unset, .unset, .unset, .unset, .unset] [(.double z28), (.int (2 : Int32)), (.ref b1)]))
  have Vc_b1_31 := V_b1_22
  obtain ⟨cl_b1_31, Ar_b1_31, q_b1_31, S_b1_31, N_b1_31, H_b1_31, G_b1_31⟩ := Vc_b1_31
  have hin31 : ¬ ((2 : Int32) < 0 ∨ cl_b1_31.slots.size ≤ ((2 : Int32)).toNatClampNeg) := inb_of S_b1_31 ⟨by decide, by decide⟩
  obtain ⟨T31, h31, X31, e31, W31, st31⟩ := stD X28 hx hZ hh28 Ar_b1_31 (j := (2 : Int32)) hin31 (g := (mkF m 31 #[.val (.long p0), .second, .val (.int p1), .val (.int p2), .val (.int p3), .val (.int p4), .val (.int p5), .val (.ref b1), .unset, .unset, .unset, .unset, .unset, .unset, .unset, .unset, .unset, .unset, .unset, .unset, .unset] [(.double z28), (.int (2 : Int32)), (.ref b1)])) rfl rfl (hb hby at_31)
  have S_Optional_EMPTY_31 := S_Optional_EMPTY_22.wr W31
  have E_b1_31 := E_b1_22.wr W31
  have V_b1_31 := Arv.set Ar_b1_31 q_b1_31 S_b1_31 N_b1_31 H_b1_31 G_b1_31 rfl W31 2 rfl (Nat.le_of_ble_eq_true rfl)
  have N31 := Fr.snoc X31 N28 gn_b1
  have Z31 : n0 ≤ h31.size := Nat.le_trans Z22 (Keep.of_wr W31).1
  refine Dn.st st31 ?_
  show Dn p e below s _ _ _ (T31.setTop (mkF m 32 #[.val (.long p0), .second, .val (.int p1), .val (.int p2), .val (.int p3), .val (.int p4), .val (.int p5), .val (.ref b1), .unset, .unset, .unset, .unset, .unset, .unset, .unset, .unset, .unset, .unset, .unset, .unset, .unset] []))
  refine Dn.st (fun _ kk => XS.aload X31.here hx rfl (hb hby at_32) rfl rfl (XS.iconst X31.here hx rfl (hb hby at_34) (XS.lloadN X31.here hx rfl (hb hby at_35) rfl  (XS.iconst X31.here hx rfl (hb hby at_36) (kk))))) ?_
  show Dn p e below s _ _ _ (T31.setTop (mkF m 37 #[.val (.long p0), .second, .val (.int p1), .val (.int p2), .val (.int p3), .val (.int p4), .val (.int p5), .val (.ref b1), .unset, .unset, .unset, .unset, .unset, .unset, .unset, .unset, .unset, .unset, .unset, .unset, .unset] [(.int (3 : Int32)), (.long p0), (.int (3 : Int32)), (.ref b1)]))
  obtain ⟨_, _, ⟨T37, L37, k37, n37⟩, -, X37, ⟨Lc37, hQ37, l37, y37, z37⟩, st37⟩ := Jvm.LawKit.callS X31 hx (y := (⟨"com/example/tieline/tieline/wavelet/RegistrationReachPinLaw", "v", "(JI)D"⟩ : MethodName)) hown (mvT hZ (hw _ (List.mem_of_getElem? (i := 1) rfl))) (mvT hZ (hw _ (List.mem_of_getElem? (i := 2) rfl))) (mvT hZ (hw _ (List.mem_of_getElem? (i := 3) rfl))) (mvT hZ (hw _ (List.mem_of_getElem? (i := 4) rfl))) (by decide) (backOf (W := 2) (rm1_3 l Z a0 hw []  p0 h31 n0 Z31 ) hZ (hw _ (List.mem_of_getElem? (i := 4) rfl)) (hw _ (List.mem_of_getElem? (i := 3) rfl)) (by decide) (by decide)) (g := (mkF m 37 #[.val (.long p0), .second, .val (.int p1), .val (.int p2), .val (.int p3), .val (.int p4), .val (.int p5), .val (.ref b1), .unset, .unset, .unset, .unset, .unset, .unset, .unset, .unset, .unset, .unset, .unset, .unset, .unset] [(.int (3 : Int32)), (.long p0), (.int (3 : Int32)), (.ref b1)])) rfl (by rw [hml]; rfl) (argsL := [(.long p0), (.int (3 : Int32))]) (rest := [(.int (3 : Int32)), (.ref b1)]) (lenOf pd11 rfl) rfl (by show 2 * 0 + _ ≤ _; exact Nat.le_of_eq rfl) (hb hby at_37) (fun _ _ => ⟨rfl, e31, (by decide : 1 + 0 ≤ _), (by decide : 5 + 0 ≤ _)⟩)
  dsimp only [Pt.U, Pt.locs, Pt.cells, Pt.slots] at X37 l37 y37 z37 st37 hQ37
  subst l37 y37 z37
  obtain ⟨z37, q37, rfl, d37, bq37, Nq37, hh37⟩ := hQ37
  have N37 := Fr.app N31 Nq37
  refine Dn.st st37 ?_
  show Dn p e below s _ _ _ (T37.setTop (mkF m 40 #[.val (.long p0), .second, .val (.int p1), .val (.int p2), .val (.int p3), .val (.int p4), .val (.int p5), .val (.ref b1), .unset, .unset, .unset, .unset, .unset, .unset, .unset, .unset, .unset, .unset, .unset, .unset, .unset] [(.double z37), (.int (3 : Int32)), (.ref b1)]))
  have Vc_b1_40 := V_b1_31
  obtain ⟨cl_b1_40, Ar_b1_40, q_b1_40, S_b1_40, N_b1_40, H_b1_40, G_b1_40⟩ := Vc_b1_40
  have hin40 : ¬ ((3 : Int32) < 0 ∨ cl_b1_40.slots.size ≤ ((3 : Int32)).toNatClampNeg) := inb_of S_b1_40 ⟨by decide, by decide⟩
  obtain ⟨T40, h40, X40, e40, W40, st40⟩ := stD X37 hx hZ hh37 Ar_b1_40 (j := (3 : Int32)) hin40 (g := (mkF m 40 #[.val (.long p0), .second, .val (.int p1), .val (.int p2), .val (.int p3), .val (.int p4), .val (.int p5), .val (.ref b1), .unset, .unset, .unset, .unset, .unset, .unset, .unset, .unset, .unset, .unset, .unset, .unset, .unset] [(.double z37), (.int (3 : Int32)), (.ref b1)])) rfl rfl (hb hby at_40)
  have S_Optional_EMPTY_40 := S_Optional_EMPTY_31.wr W40
  have E_b1_40 := E_b1_31.wr W40
  have V_b1_40 := Arv.set Ar_b1_40 q_b1_40 S_b1_40 N_b1_40 H_b1_40 G_b1_40 rfl W40 3 rfl (Nat.le_of_ble_eq_true rfl)
  have N40 := Fr.snoc X40 N37 gn_b1
  have Z40 : n0 ≤ h40.size := Nat.le_trans Z31 (Keep.of_wr W40).1
  refine Dn.st st40 ?_
  show Dn p e below s _ _ _ (T40.setTop (mkF m 41 #[.val (.long p0), .second, .val (.int p1), .val (.int p2), .val (.int p3), .val (.int p4), .val (.int p5), .val (.ref b1), .unset, .unset, .unset, .unset, .unset, .unset, .unset, .unset, .unset, .unset, .unset, .unset, .unset] []))
  refine Dn.st (fun _ kk => XS.aload X40.here hx rfl (hb hby at_41) rfl rfl (XS.iconst X40.here hx rfl (hb hby at_43) (XS.lloadN X40.here hx rfl (hb hby at_44) rfl  (XS.iconst X40.here hx rfl (hb hby at_45) (kk))))) ?_
  show Dn p e below s _ _ _ (T40.setTop (mkF m 46 #[.val (.long p0), .second, .val (.int p1), .val (.int p2), .val (.int p3), .val (.int p4), .val (.int p5), .val (.ref b1), .unset, .unset, .unset, .unset, .unset, .unset, .unset, .unset, .unset, .unset, .unset, .unset, .unset] [(.int (4 : Int32)), (.long p0), (.int (4 : Int32)), (.ref b1)]))
  obtain ⟨_, _, ⟨T46, L46, k46, n46⟩, -, X46, ⟨Lc46, hQ46, l46, y46, z46⟩, st46⟩ := Jvm.LawKit.callS X40 hx (y := (⟨"com/example/tieline/tieline/wavelet/RegistrationReachPinLaw", "v", "(JI)D"⟩ : MethodName)) hown (mvT hZ (hw _ (List.mem_of_getElem? (i := 1) rfl))) (mvT hZ (hw _ (List.mem_of_getElem? (i := 2) rfl))) (mvT hZ (hw _ (List.mem_of_getElem? (i := 3) rfl))) (mvT hZ (hw _ (List.mem_of_getElem? (i := 4) rfl))) (by decide) (backOf (W := 2) (rm1_4 l Z a0 hw []  p0 h40 n0 Z40 ) hZ (hw _ (List.mem_of_getElem? (i := 4) rfl)) (hw _ (List.mem_of_getElem? (i := 3) rfl)) (by decide) (by decide)) (g := (mkF m 46 #[.val (.long p0), .second, .val (.int p1), .val (.int p2), .val (.int p3), .val (.int p4), .val (.int p5), .val (.ref b1), .unset, .unset, .unset, .unset, .unset, .unset, .unset, .unset, .unset, .unset, .unset, .unset, .unset] [(.int (4 : Int32)), (.long p0), (.int (4 : Int32)), (.ref b1)])) rfl (by rw [hml]; rfl) (argsL := [(.long p0), (.int (4 : Int32))]) (rest := [(.int (4 : Int32)), (.ref b1)]) (lenOf pd11 rfl) rfl (by show 2 * 0 + _ ≤ _; exact Nat.le_of_eq rfl) (hb hby at_46) (fun _ _ => ⟨rfl, e40, (by decide : 1 + 0 ≤ _), (by decide : 5 + 0 ≤ _)⟩)
  dsimp only [Pt.U, Pt.locs, Pt.cells, Pt.slots] at X46 l46 y46 z46 st46 hQ46
  subst l46 y46 z46
  obtain ⟨z46, q46, rfl, d46, bq46, Nq46, hh46⟩ := hQ46
  have N46 := Fr.app N40 Nq46
  refine Dn.st st46 ?_
  show Dn p e below s _ _ _ (T46.setTop (mkF m 49 #[.val (.long p0), .second, .val (.int p1), .val (.int p2), .val (.int p3), .val (.int p4), .val (.int p5), .val (.ref b1), .unset, .unset, .unset, .unset, .unset, .unset, .unset, .unset, .unset, .unset, .unset, .unset, .unset] [(.double z46), (.int (4 : Int32)), (.ref b1)]))
  have Vc_b1_49 := V_b1_40
  obtain ⟨cl_b1_49, Ar_b1_49, q_b1_49, S_b1_49, N_b1_49, H_b1_49, G_b1_49⟩ := Vc_b1_49
  have hin49 : ¬ ((4 : Int32) < 0 ∨ cl_b1_49.slots.size ≤ ((4 : Int32)).toNatClampNeg) := inb_of S_b1_49 ⟨by decide, by decide⟩
  obtain ⟨T49, h49, X49, e49, W49, st49⟩ := stD X46 hx hZ hh46 Ar_b1_49 (j := (4 : Int32)) hin49 (g := (mkF m 49 #[.val (.long p0), .second, .val (.int p1), .val (.int p2), .val (.int p3), .val (.int p4), .val (.int p5), .val (.ref b1), .unset, .unset, .unset, .unset, .unset, .unset, .unset, .unset, .unset, .unset, .unset, .unset, .unset] [(.double z46), (.int (4 : Int32)), (.ref b1)])) rfl rfl (hb hby at_49)
  have S_Optional_EMPTY_49 := S_Optional_EMPTY_40.wr W49
  have E_b1_49 := E_b1_40.wr W49
  have V_b1_49 := Arv.set Ar_b1_49 q_b1_49 S_b1_49 N_b1_49 H_b1_49 G_b1_49 rfl W49 4 rfl (Nat.le_of_ble_eq_true rfl)
  have N49 := Fr.snoc X49 N46 gn_b1
  have Z49 : n0 ≤ h49.size := Nat.le_trans Z40 (Keep.of_wr W49).1
  refine Dn.st st49 ?_
  show Dn p e below s _ _ _ (T49.setTop (mkF m 50 #[.val (.long p0), .second, .val (.int p1), .val (.int p2), .val (.int p3), .val (.int p4), .val (.int p5), .val (.ref b1), .unset, .unset, .unset, .unset, .unset, .unset, .unset, .unset, .unset, .unset, .unset, .unset, .unset] []))
  refine Dn.st (fun _ kk => XS.iloadN X49.here hx rfl (hb hby at_50) rfl  (X49.ldcInt hx hown (mvT hZ (hw _ (List.mem_of_getElem? (i := 6) rfl))) (g := (mkF m 51 #[.val (.long p0), .second, .val (.int p1), .val (.int p2), .val (.int p3), .val (.int p4), .val (.int p5), .val (.ref b1), .unset, .unset, .unset, .unset, .unset, .unset, .unset, .unset, .unset, .unset, .unset, .unset, .unset] [(.int p1)])) rfl (hb hby at_51) _ (iremM X49 hx rfl (hb hby at_53) rfl (by decide) (kk)))) ?_
  show Dn p e below s _ _ _ (T49.setTop (mkF m 54 #[.val (.long p0), .second, .val (.int p1), .val (.int p2), .val (.int p3), .val (.int p4), .val (.int p5), .val (.ref b1), .unset, .unset, .unset, .unset, .unset, .unset, .unset, .unset, .unset, .unset, .unset, .unset, .unset] [(.int (p1 % (1048576 : Int32)))]))
  generalize hv53 : ((p1 % (1048576 : Int32)) : Int32) = v53
  have q53 : (0 ≤ p1.toInt → v53.toInt = p1.toInt % 1048576) ∧ (p1.toInt < 0 → v53.toInt = -((-p1.toInt) % 1048576)) := by have qq := c_irem p1 (1048576 : Int32) 1048576 rfl; rw [hv53] at qq; exact qq
  have r53 := rng32 v53
  show Dn p e below s _ _ _ (T49.setTop (mkF m 54 #[.val (.long p0), .second, .val (.int p1), .val (.int p2), .val (.int p3), .val (.int p4), .val (.int p5), .val (.ref b1), .unset, .unset, .unset, .unset, .unset, .unset, .unset, .unset, .unset, .unset, .unset, .unset, .unset] [(.int v53)]))
  refine Dn.st (fun _ kk => XS.istore X49.here hx rfl (hb hby at_54) rfl (l' := #[.val (.long p0), .second, .val (.int p1), .val (.int p2), .val (.int p3), .val (.int p4), .val (.int p5), .val (.ref b1), .val (.int v53), .unset, .unset, .unset, .unset, .unset, .unset, .unset, .unset, .unset, .unset, .unset, .unset]) rfl (XS.iloadN X49.here hx rfl (hb hby at_56) rfl  (X49.ldcInt hx hown (mvT hZ (hw _ (List.mem_of_getElem? (i := 7) rfl))) (g := (mkF m 57 #[.val (.long p0), .second, .val (.int p1), .val (.int p2), .val (.int p3), .val (.int p4), .val (.int p5), .val (.ref b1), .val (.int v53), .unset, .unset, .unset, .unset, .unset, .unset, .unset, .unset, .unset, .unset, .unset, .unset] [(.int p2)])) rfl (hb hby at_57) _ (XS.iand X49.here hx rfl (hb hby at_59) rfl (kk))))) ?_
  show Dn p e below s _ _ _ (T49.setTop (mkF m 60 #[.val (.long p0), .second, .val (.int p1), .val (.int p2), .val (.int p3), .val (.int p4), .val (.int p5), .val (.ref b1), .val (.int v53), .unset, .unset, .unset, .unset, .unset, .unset, .unset, .unset, .unset, .unset, .unset, .unset] [(.int (p2 &&& (1048575 : Int32)))]))
  generalize hv59 : ((p2 &&& (1048575 : Int32)) : Int32) = v59
  have q59 : v59.toInt = p2.toInt % 1048576 := by have qq := c_mask p2 (1048575 : Int32) 20 (by decide) (by decide); rw [hv59] at qq; exact qq
  have r59 := rng32 v59
  show Dn p e below s _ _ _ (T49.setTop (mkF m 60 #[.val (.long p0), .second, .val (.int p1), .val (.int p2), .val (.int p3), .val (.int p4), .val (.int p5), .val (.ref b1), .val (.int v53), .unset, .unset, .unset, .unset, .unset, .unset, .unset, .unset, .unset, .unset, .unset, .unset] [(.int v59)]))
  refine Dn.st (fun _ kk => XS.iconst X49.here hx rfl (hb hby at_60) (XS.iadd X49.here hx rfl (hb hby at_61) rfl (kk))) ?_
  show Dn p e below s _ _ _ (T49.setTop (mkF m 62 #[.val (.long p0), .second, .val (.int p1), .val (.int p2), .val (.int p3), .val (.int p4), .val (.int p5), .val (.ref b1), .val (.int v53), .unset, .unset, .unset, .unset, .unset, .unset, .unset, .unset, .unset, .unset, .unset, .unset] [(.int (v59 + (1 : Int32)))]))
  generalize hv61 : ((v59 + (1 : Int32)) : Int32) = v61
  have q61 : (v61.toInt - (v59.toInt + 1)) % 4294967296 = 0 := by have qq := c_iadd v59 (1 : Int32); rw [hv61] at qq; exact qq
  have r61 := rng32 v61
  show Dn p e below s _ _ _ (T49.setTop (mkF m 62 #[.val (.long p0), .second, .val (.int p1), .val (.int p2), .val (.int p3), .val (.int p4), .val (.int p5), .val (.ref b1), .val (.int v53), .unset, .unset, .unset, .unset, .unset, .unset, .unset, .unset, .unset, .unset, .unset, .unset] [(.int v61)]))
  refine Dn.st (fun _ kk => XS.istore X49.here hx rfl (hb hby at_62) rfl (l' := #[.val (.long p0), .second, .val (.int p1), .val (.int p2), .val (.int p3), .val (.int p4), .val (.int p5), .val (.ref b1), .val (.int v53), .val (.int v61), .unset, .unset, .unset, .unset, .unset, .unset, .unset, .unset, .unset, .unset, .unset]) rfl (XS.iload X49.here hx rfl (hb hby at_64) rfl  (X49.ldcInt hx hown (mvT hZ (hw _ (List.mem_of_getElem? (i := 7) rfl))) (g := (mkF m 66 #[.val (.long p0), .second, .val (.int p1), .val (.int p2), .val (.int p3), .val (.int p4), .val (.int p5), .val (.ref b1), .val (.int v53), .val (.int v61), .unset, .unset, .unset, .unset, .unset, .unset, .unset, .unset, .unset, .unset, .unset] [(.int p3)])) rfl (hb hby at_66) _ (XS.iand X49.here hx rfl (hb hby at_68) rfl (kk))))) ?_
  show Dn p e below s _ _ _ (T49.setTop (mkF m 69 #[.val (.long p0), .second, .val (.int p1), .val (.int p2), .val (.int p3), .val (.int p4), .val (.int p5), .val (.ref b1), .val (.int v53), .val (.int v61), .unset, .unset, .unset, .unset, .unset, .unset, .unset, .unset, .unset, .unset, .unset] [(.int (p3 &&& (1048575 : Int32)))]))
  generalize hv68 : ((p3 &&& (1048575 : Int32)) : Int32) = v68
  have q68 : v68.toInt = p3.toInt % 1048576 := by have qq := c_mask p3 (1048575 : Int32) 20 (by decide) (by decide); rw [hv68] at qq; exact qq
  have r68 := rng32 v68
  show Dn p e below s _ _ _ (T49.setTop (mkF m 69 #[.val (.long p0), .second, .val (.int p1), .val (.int p2), .val (.int p3), .val (.int p4), .val (.int p5), .val (.ref b1), .val (.int v53), .val (.int v61), .unset, .unset, .unset, .unset, .unset, .unset, .unset, .unset, .unset, .unset, .unset] [(.int v68)]))
  refine Dn.st (fun _ kk => XS.istore X49.here hx rfl (hb hby at_69) rfl (l' := #[.val (.long p0), .second, .val (.int p1), .val (.int p2), .val (.int p3), .val (.int p4), .val (.int p5), .val (.ref b1), .val (.int v53), .val (.int v61), .val (.int v68), .unset, .unset, .unset, .unset, .unset, .unset, .unset, .unset, .unset, .unset]) rfl (XS.iload X49.here hx rfl (hb hby at_71) rfl  (XS.bipush X49.here hx rfl (hb hby at_73) (XS.iand X49.here hx rfl (hb hby at_75) rfl (kk))))) ?_
  show Dn p e below s _ _ _ (T49.setTop (mkF m 76 #[.val (.long p0), .second, .val (.int p1), .val (.int p2), .val (.int p3), .val (.int p4), .val (.int p5), .val (.ref b1), .val (.int v53), .val (.int v61), .val (.int v68), .unset, .unset, .unset, .unset, .unset, .unset, .unset, .unset, .unset, .unset] [(.int (p4 &&& (63 : Int32)))]))
  generalize hv75 : ((p4 &&& (63 : Int32)) : Int32) = v75
  have q75 : v75.toInt = p4.toInt % 64 := by have qq := c_mask p4 (63 : Int32) 6 (by decide) (by decide); rw [hv75] at qq; exact qq
  have r75 := rng32 v75
  show Dn p e below s _ _ _ (T49.setTop (mkF m 76 #[.val (.long p0), .second, .val (.int p1), .val (.int p2), .val (.int p3), .val (.int p4), .val (.int p5), .val (.ref b1), .val (.int v53), .val (.int v61), .val (.int v68), .unset, .unset, .unset, .unset, .unset, .unset, .unset, .unset, .unset, .unset] [(.int v75)]))
  refine Dn.st (fun _ kk => XS.iconst X49.here hx rfl (hb hby at_76) (XS.iadd X49.here hx rfl (hb hby at_77) rfl (kk))) ?_
  show Dn p e below s _ _ _ (T49.setTop (mkF m 78 #[.val (.long p0), .second, .val (.int p1), .val (.int p2), .val (.int p3), .val (.int p4), .val (.int p5), .val (.ref b1), .val (.int v53), .val (.int v61), .val (.int v68), .unset, .unset, .unset, .unset, .unset, .unset, .unset, .unset, .unset, .unset] [(.int (v75 + (1 : Int32)))]))
  generalize hv77 : ((v75 + (1 : Int32)) : Int32) = v77
  have q77 : (v77.toInt - (v75.toInt + 1)) % 4294967296 = 0 := by have qq := c_iadd v75 (1 : Int32); rw [hv77] at qq; exact qq
  have r77 := rng32 v77
  show Dn p e below s _ _ _ (T49.setTop (mkF m 78 #[.val (.long p0), .second, .val (.int p1), .val (.int p2), .val (.int p3), .val (.int p4), .val (.int p5), .val (.ref b1), .val (.int v53), .val (.int v61), .val (.int v68), .unset, .unset, .unset, .unset, .unset, .unset, .unset, .unset, .unset, .unset] [(.int v77)]))
  have d78 := DS.i2d v77
  refine Dn.st (fun _ kk => XS.i2dS X49.here hx rfl (hb hby at_78) rfl rfl (kk)) ?_
  show Dn p e below s _ _ _ (T49.setTop (mkF m 79 #[.val (.long p0), .second, .val (.int p1), .val (.int p2), .val (.int p3), .val (.int p4), .val (.int p5), .val (.ref b1), .val (.int v53), .val (.int v61), .val (.int v68), .unset, .unset, .unset, .unset, .unset, .unset, .unset, .unset, .unset, .unset] [(.double (FP.i2d v77))]))
  generalize hv78 : ((FP.i2d v77) : UInt64) = v78 at d78 ⊢
  show Dn p e below s _ _ _ (T49.setTop (mkF m 79 #[.val (.long p0), .second, .val (.int p1), .val (.int p2), .val (.int p3), .val (.int p4), .val (.int p5), .val (.ref b1), .val (.int v53), .val (.int v61), .val (.int v68), .unset, .unset, .unset, .unset, .unset, .unset, .unset, .unset, .unset, .unset] [(.double v78)]))
  refine Dn.st (fun _ kk => XS.dstore X49.here hx rfl (hb hby at_79) rfl (l' := #[.val (.long p0), .second, .val (.int p1), .val (.int p2), .val (.int p3), .val (.int p4), .val (.int p5), .val (.ref b1), .val (.int v53), .val (.int v61), .val (.int v68), .val (.double v78), .second, .unset, .unset, .unset, .unset, .unset, .unset, .unset, .unset]) rfl (kk)) ?_
  show Dn p e below s _ _ _ (T49.setTop (mkF m 81 #[.val (.long p0), .second, .val (.int p1), .val (.int p2), .val (.int p3), .val (.int p4), .val (.int p5), .val (.ref b1), .val (.int v53), .val (.int v61), .val (.int v68), .val (.double v78), .second, .unset, .unset, .unset, .unset, .unset, .unset, .unset, .unset] []))
  obtain ⟨T81, h81, X81, e81, E81, A81, D81, -, st81⟩ := newO X49 hx hZ hown (hw _ (List.mem_of_getElem? (i := 8) rfl)) (hw _ (List.mem_of_getElem? (i := 9) rfl)) (hw _ (List.mem_of_getElem? (i := 10) rfl)) e49 (g := (mkF m 81 #[.val (.long p0), .second, .val (.int p1), .val (.int p2), .val (.int p3), .val (.int p4), .val (.int p5), .val (.ref b1), .val (.int v53), .val (.int v61), .val (.int v68), .val (.double v78), .second, .unset, .unset, .unset, .unset, .unset, .unset, .unset, .unset] [])) rfl (hb hby at_81) (by decide) (by decide)
  obtain ⟨b81, g81⟩ : ∃ z, z = h49.size := ⟨_, rfl⟩
  rw [← g81] at A81 D81 st81
  have ne_b1_b81 : b1 ≠ b81 := Nat.ne_of_lt (Nat.lt_of_lt_of_le V_b1_49.lt (Nat.le_of_eq g81.symm))
  have S_Optional_EMPTY_81 := S_Optional_EMPTY_49.ext E81
  have V_b1_81 := V_b1_49.ext E81
  have E_b1_81 := E_b1_49.ext E81
  have gn_b81 : n0 ≤ b81 := Nat.le_trans Z49 (Nat.le_of_eq g81.symm)
  have Z81 : n0 ≤ h81.size := Nat.le_trans Z49 E81.1
  have F_b81_reflectivity : Fld Z h81 b81 "com/example/tieline/tieline/wavelet/Registration" "reflectivity" "[D" .null := D81 (Or.inr (hw _ (List.mem_of_getElem? (i := 97) rfl))) (ty := (.array .double)) (by decide)
  have F_b81_levels : Fld Z h81 b81 "com/example/tieline/tieline/wavelet/Registration" "levels" "Ljava/util/Optional;" .null := D81 (Or.inr (hw _ (List.mem_of_getElem? (i := 99) rfl))) (ty := (.object "java/util/Optional")) (by decide)
  have F_b81_first : Fld Z h81 b81 "com/example/tieline/tieline/wavelet/Registration" "first" "I" (.int (0 : Int32)) := D81 (Or.inr (hw _ (List.mem_of_getElem? (i := 101) rfl))) (ty := .int) (by decide)
  have F_b81_count : Fld Z h81 b81 "com/example/tieline/tieline/wavelet/Registration" "count" "I" (.int (0 : Int32)) := D81 (Or.inr (hw _ (List.mem_of_getElem? (i := 103) rfl))) (ty := .int) (by decide)
  have F_b81_intervalMs : Fld Z h81 b81 "com/example/tieline/tieline/wavelet/Registration" "intervalMs" "D" (.double (0 : UInt64)) := D81 (Or.inr (hw _ (List.mem_of_getElem? (i := 105) rfl))) (ty := .double) (by decide)
  have F_b81_shift : Fld Z h81 b81 "com/example/tieline/tieline/wavelet/Registration" "shift" "Ljava/util/Optional;" .null := D81 (Or.inr (hw _ (List.mem_of_getElem? (i := 107) rfl))) (ty := (.object "java/util/Optional")) (by decide)
  have F_b81_lowest : Fld Z h81 b81 "com/example/tieline/tieline/wavelet/Registration" "lowest" "I" (.int (0 : Int32)) := D81 (Or.inr (hw _ (List.mem_of_getElem? (i := 109) rfl))) (ty := .int) (by decide)
  have F_b81_highest : Fld Z h81 b81 "com/example/tieline/tieline/wavelet/Registration" "highest" "I" (.int (0 : Int32)) := D81 (Or.inr (hw _ (List.mem_of_getElem? (i := 111) rfl))) (ty := .int) (by decide)
  refine Dn.st st81 ?_
  show Dn p e below s _ _ _ (T81.setTop (mkF m 84 #[.val (.long p0), .second, .val (.int p1), .val (.int p2), .val (.int p3), .val (.int p4), .val (.int p5), .val (.ref b1), .val (.int v53), .val (.int v61), .val (.int v68), .val (.double v78), .second, .unset, .unset, .unset, .unset, .unset, .unset, .unset, .unset] [(.ref b81)]))
  refine Dn.st (fun _ kk => XS.dup X81.here hx rfl (hb hby at_84) rfl rfl (XS.aload X81.here hx rfl (hb hby at_85) rfl rfl (XS.iload X81.here hx rfl (hb hby at_87) rfl  (XS.iload X81.here hx rfl (hb hby at_89) rfl  (XS.dload X81.here hx rfl (hb hby at_91) rfl  (XS.iload X81.here hx rfl (hb hby at_93) rfl  (kk))))))) ?_
  show Dn p e below s _ _ _ (T81.setTop (mkF m 95 #[.val (.long p0), .second, .val (.int p1), .val (.int p2), .val (.int p3), .val (.int p4), .val (.int p5), .val (.ref b1), .val (.int v53), .val (.int v61), .val (.int v68), .val (.double v78), .second, .unset, .unset, .unset, .unset, .unset, .unset, .unset, .unset] [(.int p5), (.double v78), (.int v61), (.int v53), (.ref b1), (.ref b81), (.ref b81)]))
  have d95 := DS.i2d p5
  refine Dn.st (fun _ kk => XS.i2dS X81.here hx rfl (hb hby at_95) rfl rfl (kk)) ?_
  show Dn p e below s _ _ _ (T81.setTop (mkF m 96 #[.val (.long p0), .second, .val (.int p1), .val (.int p2), .val (.int p3), .val (.int p4), .val (.int p5), .val (.ref b1), .val (.int v53), .val (.int v61), .val (.int v68), .val (.double v78), .second, .unset, .unset, .unset, .unset, .unset, .unset, .unset, .unset] [(.double (FP.i2d p5)), (.double v78), (.int v61), (.int v53), (.ref b1), (.ref b81), (.ref b81)]))
  generalize hv95 : ((FP.i2d p5) : UInt64) = v95 at d95 ⊢
  show Dn p e below s _ _ _ (T81.setTop (mkF m 96 #[.val (.long p0), .second, .val (.int p1), .val (.int p2), .val (.int p3), .val (.int p4), .val (.int p5), .val (.ref b1), .val (.int v53), .val (.int v61), .val (.int v68), .val (.double v78), .second, .unset, .unset, .unset, .unset, .unset, .unset, .unset, .unset] [(.double v95), (.double v78), (.int v61), (.int v53), (.ref b1), (.ref b81), (.ref b81)]))
  refine Dn.st (fun _ kk => XS.dconst1 X81.here hx rfl (hb hby at_96) rfl (kk)) ?_
  show Dn p e below s _ _ _ (T81.setTop (mkF m 97 #[.val (.long p0), .second, .val (.int p1), .val (.int p2), .val (.int p3), .val (.int p4), .val (.int p5), .val (.ref b1), .val (.int v53), .val (.int v61), .val (.int v68), .val (.double v78), .second, .unset, .unset, .unset, .unset, .unset, .unset, .unset, .unset] [(.double FP.dconst1), (.double v95), (.double v78), (.int v61), (.int v53), (.ref b1), (.ref b81), (.ref b81)]))
  obtain ⟨_, _, ⟨T97, L97, k97, n97⟩, -, X97, ⟨Lc97, hQ97, l97, y97, z97⟩, st97⟩ := X81.specialBack hx (y := (⟨"com/example/tieline/tieline/wavelet/Registration", "<init>", "([DIIDDD)V"⟩ : MethodName)) rfl hown (mvT hZ (hw _ (List.mem_of_getElem? (i := 11) rfl))) (mvT hZ (hw _ (List.mem_of_getElem? (i := 12) rfl))) (mvT hZ (hw _ (List.mem_of_getElem? (i := 13) rfl))) (by decide) (backOf (W := 1) (rm2 l Z a0 hw [] b81 b1 v53 v61 v78 v95 FP.dconst1 aE k1 z10 z19 z28 z37 z46 q10 q19 q28 q37 q46 v77.toInt h81 n0 Z81 S_Optional_EMPTY_81 gn_b81 A81 F_b81_reflectivity F_b81_levels F_b81_first F_b81_count F_b81_intervalMs F_b81_shift F_b81_lowest F_b81_highest V_b1_81 E_b1_81 ne_b1_b81 (hv95 ▸ Jvm.Free.Fl.i2d_fin _) (by unfold Jvm.Free.Fl.Fin64; decide) (by omega) d78 (by omega) dc_4607182418800017408 d10 d19 d28 d37 d46) hZ (hw _ (List.mem_of_getElem? (i := 13) rfl)) (hw _ (List.mem_of_getElem? (i := 10) rfl)) (by decide) (by decide)) (g := (mkF m 97 #[.val (.long p0), .second, .val (.int p1), .val (.int p2), .val (.int p3), .val (.int p4), .val (.int p5), .val (.ref b1), .val (.int v53), .val (.int v61), .val (.int v68), .val (.double v78), .second, .unset, .unset, .unset, .unset, .unset, .unset, .unset, .unset] [(.double FP.dconst1), (.double v95), (.double v78), (.int v61), (.int v53), (.ref b1), (.ref b81), (.ref b81)])) rfl (by rw [hml]; rfl) (Steps.refl _) (a := b81) (argsL := [(.ref b1), (.int v53), (.int v61), (.double v78), (.double v95), (.double FP.dconst1)]) (rest := [(.ref b81)]) (lenOf pd12 rfl) rfl (by show 2 * 0 + _ ≤ _; exact Nat.le_of_eq rfl) (hb hby at_97) (fun _ _ => ⟨rfl, e81, (by decide : 2 + 3 ≤ _), (by decide : 13 + 8 ≤ _)⟩)
  dsimp only [Pt.U, Pt.locs, Pt.cells, Pt.slots] at X97 l97 y97 z97 st97 hQ97
  subst l97 y97 z97
  obtain ⟨rfl, Nq97, K97, E_97, G1_97, G2_97, G3_97, G4_97, G5_97⟩ := hQ97
  have N97 := Fr.app N49 Nq97
  refine Dn.tr st97 ?_
  have V_b1_97 := V_b1_81.keep K97 (ninS ne_b1_b81 nin0)
  have E_b1_97 := E_b1_81.keep K97
  have Z97 : n0 ≤ T97.heap.size := Nat.le_trans Z81 K97.1
  have blo := own_lowb q10 q19 q28 q37 q46
  have bhi := own_highb q10 q19 q28 q37 q46
  show Dn p e below s _ _ _ (T97.setTop (mkF m 100 #[.val (.long p0), .second, .val (.int p1), .val (.int p2), .val (.int p3), .val (.int p4), .val (.int p5), .val (.ref b1), .val (.int v53), .val (.int v61), .val (.int v68), .val (.double v78), .second, .unset, .unset, .unset, .unset, .unset, .unset, .unset, .unset] [(.ref b81)]))
  refine Dn.st (fun _ kk => XS.astore X97.here hx rfl (hb hby at_100) rfl rfl (l' := #[.val (.long p0), .second, .val (.int p1), .val (.int p2), .val (.int p3), .val (.int p4), .val (.int p5), .val (.ref b1), .val (.int v53), .val (.int v61), .val (.int v68), .val (.double v78), .second, .val (.ref b81), .unset, .unset, .unset, .unset, .unset, .unset, .unset]) rfl (XS.aload X97.here hx rfl (hb hby at_102) rfl rfl (XS.iload X97.here hx rfl (hb hby at_104) rfl  (kk)))) ?_
  show Dn p e below s _ _ _ (T97.setTop (mkF m 106 #[.val (.long p0), .second, .val (.int p1), .val (.int p2), .val (.int p3), .val (.int p4), .val (.int p5), .val (.ref b1), .val (.int v53), .val (.int v61), .val (.int v68), .val (.double v78), .second, .val (.ref b81), .unset, .unset, .unset, .unset, .unset, .unset, .unset] [(.int v68), (.ref b81)]))
  obtain ⟨cq106, kq106, q106a, q106b, q106c⟩ := isOf hZ rfl E_97
  obtain ⟨_, _, ⟨T106, L106, k106, n106⟩, -, X106, ⟨Lc106, hQ106, l106, y106, z106⟩, st106⟩ := X97.virtualBack hx (y := (⟨"com/example/tieline/tieline/wavelet/Registration", "reach", "(I)[D"⟩ : MethodName)) (z := (⟨"com/example/tieline/tieline/wavelet/Registration", "reach", "(I)[D"⟩ : MethodName)) hown (mvT hZ (hw _ (List.mem_of_getElem? (i := 112) rfl))) (mvT hZ (hw _ (List.mem_of_getElem? (i := 113) rfl))) (notFace_of_selects (args := #[]) (mvT hZ (hw _ (List.mem_of_getElem? (i := 115) rfl)))) (mvT hZ (hw _ (List.mem_of_getElem? (i := 115) rfl))) (mvT hZ (hw _ (List.mem_of_getElem? (i := 114) rfl))) (by decide) (backOf (W := 0) (rm17 l Z a0 hw [] b81 v68 v53 v61 (own_low q10 q19 q28 q37 q46) (own_high q10 q19 q28 q37 q46) v78 v77.toInt T97.heap n0 Z97 G1_97 G2_97 G3_97 G4_97 G5_97 d78 ⟨by omega, by omega⟩ ⟨by omega, by omega⟩ ⟨by omega, by omega⟩ ⟨by omega, by omega⟩ ⟨by omega, by omega⟩ ⟨by omega, by omega⟩) hZ (hw _ (List.mem_of_getElem? (i := 116) rfl)) (hw _ (List.mem_of_getElem? (i := 10) rfl)) (by decide) (by decide)) q106a q106c (g := (mkF m 106 #[.val (.long p0), .second, .val (.int p1), .val (.int p2), .val (.int p3), .val (.int p4), .val (.int p5), .val (.ref b1), .val (.int v53), .val (.int v61), .val (.int v68), .val (.double v78), .second, .val (.ref b81), .unset, .unset, .unset, .unset, .unset, .unset, .unset] [(.int v68), (.ref b81)])) rfl (by rw [hml]; rfl) (Steps.refl _) (argsL := [(.int v68)]) (rest := []) (lenOf pd13 rfl) rfl (by show 2 * 0 + _ ≤ _; exact Nat.le_of_eq rfl) (hb hby at_106) (fun _ _ => ⟨rfl, rfl, (by decide : 5 + 1 ≤ _), (by decide : 21 + 2 ≤ _)⟩)
  dsimp only [Pt.U, Pt.locs, Pt.cells, Pt.slots] at X106 l106 y106 z106 st106 hQ106
  subst l106 y106 z106
  obtain ⟨bb106, kb106, w0_106, w1_106, rfl, gz106, Nq106, K106, V_bb106, dw0_106, dw1_106⟩ := hQ106
  have N106 := Fr.app N97 Nq106
  refine Dn.tr st106 ?_
  have V_b1_106 := V_b1_97.keep K106 nin0
  have E_b1_106 := E_b1_97.keep K106
  have E_b81_106 := E_97.keep K106
  have F_b81_first_106 := G1_97.keep K106 nin0
  have F_b81_count_106 := G2_97.keep K106 nin0
  have F_b81_intervalMs_106 := G3_97.keep K106 nin0
  have F_b81_lowest_106 := G4_97.keep K106 nin0
  have F_b81_highest_106 := G5_97.keep K106 nin0
  have Z106 : n0 ≤ T106.heap.size := Nat.le_trans Z97 K106.1
  show Dn p e below s _ _ _ (T106.setTop (mkF m 109 #[.val (.long p0), .second, .val (.int p1), .val (.int p2), .val (.int p3), .val (.int p4), .val (.int p5), .val (.ref b1), .val (.int v53), .val (.int v61), .val (.int v68), .val (.double v78), .second, .val (.ref b81), .unset, .unset, .unset, .unset, .unset, .unset, .unset] [(.ref bb106)]))
  refine Dn.st (fun _ kk => XS.astore X106.here hx rfl (hb hby at_109) rfl rfl (l' := #[.val (.long p0), .second, .val (.int p1), .val (.int p2), .val (.int p3), .val (.int p4), .val (.int p5), .val (.ref b1), .val (.int v53), .val (.int v61), .val (.int v68), .val (.double v78), .second, .val (.ref b81), .val (.ref bb106), .unset, .unset, .unset, .unset, .unset, .unset]) rfl (kk)) ?_
  show Dn p e below s _ _ _ (T106.setTop (mkF m 111 #[.val (.long p0), .second, .val (.int p1), .val (.int p2), .val (.int p3), .val (.int p4), .val (.int p5), .val (.ref b1), .val (.int v53), .val (.int v61), .val (.int v68), .val (.double v78), .second, .val (.ref b81), .val (.ref bb106), .unset, .unset, .unset, .unset, .unset, .unset] []))
  have J177 : ∀ (j177_s0 : Int32), (j177_s0 = own_low q10 q19 q28 q37 q46) → Dn p e below s (Q0 Z p0 p1 p2 p3 p4 p5 aE h0 n0) 24 128 (T106.setTop (mkF m 177 #[.val (.long p0), .second, .val (.int p1), .val (.int p2), .val (.int p3), .val (.int p4), .val (.int p5), .val (.ref b1), .val (.int v53), .val (.int v61), .val (.int v68), .val (.double v78), .second, .val (.ref b81), .val (.ref bb106), .unset, .unset, .unset, .unset, .unset, .unset] [(.int j177_s0)])) := by
    intro j177_s0 hj177
    subst hj177
    show Dn p e below s _ _ _ (T106.setTop (mkF m 177 #[.val (.long p0), .second, .val (.int p1), .val (.int p2), .val (.int p3), .val (.int p4), .val (.int p5), .val (.ref b1), .val (.int v53), .val (.int v61), .val (.int v68), .val (.double v78), .second, .val (.ref b81), .val (.ref bb106), .unset, .unset, .unset, .unset, .unset, .unset] [(.int (own_low q10 q19 q28 q37 q46))]))
    refine Dn.st (fun _ kk => XS.istore X106.here hx rfl (hb hby at_177) rfl (l' := #[.val (.long p0), .second, .val (.int p1), .val (.int p2), .val (.int p3), .val (.int p4), .val (.int p5), .val (.ref b1), .val (.int v53), .val (.int v61), .val (.int v68), .val (.double v78), .second, .val (.ref b81), .val (.ref bb106), .val (.int (own_low q10 q19 q28 q37 q46)), .unset, .unset, .unset, .unset, .unset]) rfl (kk)) ?_
    show Dn p e below s _ _ _ (T106.setTop (mkF m 179 #[.val (.long p0), .second, .val (.int p1), .val (.int p2), .val (.int p3), .val (.int p4), .val (.int p5), .val (.ref b1), .val (.int v53), .val (.int v61), .val (.int v68), .val (.double v78), .second, .val (.ref b81), .val (.ref bb106), .val (.int (own_low q10 q19 q28 q37 q46)), .unset, .unset, .unset, .unset, .unset] []))
    have J245 : ∀ (j245_s0 : Int32), (j245_s0 = own_high q10 q19 q28 q37 q46) → Dn p e below s (Q0 Z p0 p1 p2 p3 p4 p5 aE h0 n0) 24 128 (T106.setTop (mkF m 245 #[.val (.long p0), .second, .val (.int p1), .val (.int p2), .val (.int p3), .val (.int p4), .val (.int p5), .val (.ref b1), .val (.int v53), .val (.int v61), .val (.int v68), .val (.double v78), .second, .val (.ref b81), .val (.ref bb106), .val (.int (own_low q10 q19 q28 q37 q46)), .unset, .unset, .unset, .unset, .unset] [(.int j245_s0)])) := by
      intro j245_s0 hj245
      subst hj245
      show Dn p e below s _ _ _ (T106.setTop (mkF m 245 #[.val (.long p0), .second, .val (.int p1), .val (.int p2), .val (.int p3), .val (.int p4), .val (.int p5), .val (.ref b1), .val (.int v53), .val (.int v61), .val (.int v68), .val (.double v78), .second, .val (.ref b81), .val (.ref bb106), .val (.int (own_low q10 q19 q28 q37 q46)), .unset, .unset, .unset, .unset, .unset] [(.int (own_high q10 q19 q28 q37 q46))]))
      refine Dn.st (fun _ kk => XS.istore X106.here hx rfl (hb hby at_245) rfl (l' := #[.val (.long p0), .second, .val (.int p1), .val (.int p2), .val (.int p3), .val (.int p4), .val (.int p5), .val (.ref b1), .val (.int v53), .val (.int v61), .val (.int v68), .val (.double v78), .second, .val (.ref b81), .val (.ref bb106), .val (.int (own_low q10 q19 q28 q37 q46)), .val (.int (own_high q10 q19 q28 q37 q46)), .unset, .unset, .unset, .unset]) rfl (XS.iload X106.here hx rfl (hb hby at_247) rfl  (XS.i2l X106.here hx rfl (hb hby at_249) rfl (kk)))) ?_
      show Dn p e below s _ _ _ (T106.setTop (mkF m 250 #[.val (.long p0), .second, .val (.int p1), .val (.int p2), .val (.int p3), .val (.int p4), .val (.int p5), .val (.ref b1), .val (.int v53), .val (.int v61), .val (.int v68), .val (.double v78), .second, .val (.ref b81), .val (.ref bb106), .val (.int (own_low q10 q19 q28 q37 q46)), .val (.int (own_high q10 q19 q28 q37 q46)), .unset, .unset, .unset, .unset] [(.long (v53.toInt64))]))
      generalize hv249 : ((v53.toInt64) : Int64) = v249
      have q249 : v249.toInt = v53.toInt := by have qq := c_i2l v53; rw [hv249] at qq; exact qq
      have r249 := rng64 v249
      show Dn p e below s _ _ _ (T106.setTop (mkF m 250 #[.val (.long p0), .second, .val (.int p1), .val (.int p2), .val (.int p3), .val (.int p4), .val (.int p5), .val (.ref b1), .val (.int v53), .val (.int v61), .val (.int v68), .val (.double v78), .second, .val (.ref b81), .val (.ref bb106), .val (.int (own_low q10 q19 q28 q37 q46)), .val (.int (own_high q10 q19 q28 q37 q46)), .unset, .unset, .unset, .unset] [(.long v249)]))
      refine Dn.st (fun _ kk => XS.iload X106.here hx rfl (hb hby at_250) rfl  (XS.i2l X106.here hx rfl (hb hby at_252) rfl (kk))) ?_
      show Dn p e below s _ _ _ (T106.setTop (mkF m 253 #[.val (.long p0), .second, .val (.int p1), .val (.int p2), .val (.int p3), .val (.int p4), .val (.int p5), .val (.ref b1), .val (.int v53), .val (.int v61), .val (.int v68), .val (.double v78), .second, .val (.ref b81), .val (.ref bb106), .val (.int (own_low q10 q19 q28 q37 q46)), .val (.int (own_high q10 q19 q28 q37 q46)), .unset, .unset, .unset, .unset] [(.long (v68.toInt64)), (.long v249)]))
      generalize hv252 : ((v68.toInt64) : Int64) = v252
      have q252 : v252.toInt = v68.toInt := by have qq := c_i2l v68; rw [hv252] at qq; exact qq
      have r252 := rng64 v252
      show Dn p e below s _ _ _ (T106.setTop (mkF m 253 #[.val (.long p0), .second, .val (.int p1), .val (.int p2), .val (.int p3), .val (.int p4), .val (.int p5), .val (.ref b1), .val (.int v53), .val (.int v61), .val (.int v68), .val (.double v78), .second, .val (.ref b81), .val (.ref bb106), .val (.int (own_low q10 q19 q28 q37 q46)), .val (.int (own_high q10 q19 q28 q37 q46)), .unset, .unset, .unset, .unset] [(.long v252), (.long v249)]))
      refine Dn.st (fun _ kk => XS.lsub X106.here hx rfl (hb hby at_253) rfl (kk)) ?_
      show Dn p e below s _ _ _ (T106.setTop (mkF m 254 #[.val (.long p0), .second, .val (.int p1), .val (.int p2), .val (.int p3), .val (.int p4), .val (.int p5), .val (.ref b1), .val (.int v53), .val (.int v61), .val (.int v68), .val (.double v78), .second, .val (.ref b81), .val (.ref bb106), .val (.int (own_low q10 q19 q28 q37 q46)), .val (.int (own_high q10 q19 q28 q37 q46)), .unset, .unset, .unset, .unset] [(.long (v249 - v252))]))
      generalize hv253 : ((v249 - v252) : Int64) = v253
      have q253 : (v253.toInt - (v249.toInt - v252.toInt)) % 18446744073709551616 = 0 := by have qq := c_lsub v249 v252; rw [hv253] at qq; exact qq
      have r253 := rng64 v253
      show Dn p e below s _ _ _ (T106.setTop (mkF m 254 #[.val (.long p0), .second, .val (.int p1), .val (.int p2), .val (.int p3), .val (.int p4), .val (.int p5), .val (.ref b1), .val (.int v53), .val (.int v61), .val (.int v68), .val (.double v78), .second, .val (.ref b81), .val (.ref bb106), .val (.int (own_low q10 q19 q28 q37 q46)), .val (.int (own_high q10 q19 q28 q37 q46)), .unset, .unset, .unset, .unset] [(.long v253)]))
      refine Dn.st (fun _ kk => XS.iload X106.here hx rfl (hb hby at_254) rfl  (XS.i2l X106.here hx rfl (hb hby at_256) rfl (kk))) ?_
      show Dn p e below s _ _ _ (T106.setTop (mkF m 257 #[.val (.long p0), .second, .val (.int p1), .val (.int p2), .val (.int p3), .val (.int p4), .val (.int p5), .val (.ref b1), .val (.int v53), .val (.int v61), .val (.int v68), .val (.double v78), .second, .val (.ref b81), .val (.ref bb106), .val (.int (own_low q10 q19 q28 q37 q46)), .val (.int (own_high q10 q19 q28 q37 q46)), .unset, .unset, .unset, .unset] [(.long ((own_high q10 q19 q28 q37 q46).toInt64)), (.long v253)]))
      generalize hv256 : (((own_high q10 q19 q28 q37 q46).toInt64) : Int64) = v256
      have q256 : v256.toInt = (own_high q10 q19 q28 q37 q46).toInt := by have qq := c_i2l (own_high q10 q19 q28 q37 q46); rw [hv256] at qq; exact qq
      have r256 := rng64 v256
      show Dn p e below s _ _ _ (T106.setTop (mkF m 257 #[.val (.long p0), .second, .val (.int p1), .val (.int p2), .val (.int p3), .val (.int p4), .val (.int p5), .val (.ref b1), .val (.int v53), .val (.int v61), .val (.int v68), .val (.double v78), .second, .val (.ref b81), .val (.ref bb106), .val (.int (own_low q10 q19 q28 q37 q46)), .val (.int (own_high q10 q19 q28 q37 q46)), .unset, .unset, .unset, .unset] [(.long v256), (.long v253)]))
      refine Dn.st (fun _ kk => XS.lsub X106.here hx rfl (hb hby at_257) rfl (kk)) ?_
      show Dn p e below s _ _ _ (T106.setTop (mkF m 258 #[.val (.long p0), .second, .val (.int p1), .val (.int p2), .val (.int p3), .val (.int p4), .val (.int p5), .val (.ref b1), .val (.int v53), .val (.int v61), .val (.int v68), .val (.double v78), .second, .val (.ref b81), .val (.ref bb106), .val (.int (own_low q10 q19 q28 q37 q46)), .val (.int (own_high q10 q19 q28 q37 q46)), .unset, .unset, .unset, .unset] [(.long (v253 - v256))]))
      generalize hv257 : ((v253 - v256) : Int64) = v257
      have q257 : (v257.toInt - (v253.toInt - v256.toInt)) % 18446744073709551616 = 0 := by have qq := c_lsub v253 v256; rw [hv257] at qq; exact qq
      have r257 := rng64 v257
      show Dn p e below s _ _ _ (T106.setTop (mkF m 258 #[.val (.long p0), .second, .val (.int p1), .val (.int p2), .val (.int p3), .val (.int p4), .val (.int p5), .val (.ref b1), .val (.int v53), .val (.int v61), .val (.int v68), .val (.double v78), .second, .val (.ref b81), .val (.ref bb106), .val (.int (own_low q10 q19 q28 q37 q46)), .val (.int (own_high q10 q19 q28 q37 q46)), .unset, .unset, .unset, .unset] [(.long v257)]))
      refine Dn.st (fun _ kk => X106.ldc2Long hx hown (mvT hZ (hw _ (List.mem_of_getElem? (i := 117) rfl))) (g := (mkF m 258 #[.val (.long p0), .second, .val (.int p1), .val (.int p2), .val (.int p3), .val (.int p4), .val (.int p5), .val (.ref b1), .val (.int v53), .val (.int v61), .val (.int v68), .val (.double v78), .second, .val (.ref b81), .val (.ref bb106), .val (.int (own_low q10 q19 q28 q37 q46)), .val (.int (own_high q10 q19 q28 q37 q46)), .unset, .unset, .unset, .unset] [(.long v257)])) rfl (hb hby at_258) _ (XS.lsub X106.here hx rfl (hb hby at_261) rfl (kk))) ?_
      show Dn p e below s _ _ _ (T106.setTop (mkF m 262 #[.val (.long p0), .second, .val (.int p1), .val (.int p2), .val (.int p3), .val (.int p4), .val (.int p5), .val (.ref b1), .val (.int v53), .val (.int v61), .val (.int v68), .val (.double v78), .second, .val (.ref b81), .val (.ref bb106), .val (.int (own_low q10 q19 q28 q37 q46)), .val (.int (own_high q10 q19 q28 q37 q46)), .unset, .unset, .unset, .unset] [(.long (v257 - (25 : Int64)))]))
      generalize hv261 : ((v257 - (25 : Int64)) : Int64) = v261
      have q261 : (v261.toInt - (v257.toInt - 25)) % 18446744073709551616 = 0 := by have qq := c_lsub v257 (25 : Int64); rw [hv261] at qq; exact qq
      have r261 := rng64 v261
      show Dn p e below s _ _ _ (T106.setTop (mkF m 262 #[.val (.long p0), .second, .val (.int p1), .val (.int p2), .val (.int p3), .val (.int p4), .val (.int p5), .val (.ref b1), .val (.int v53), .val (.int v61), .val (.int v68), .val (.double v78), .second, .val (.ref b81), .val (.ref bb106), .val (.int (own_low q10 q19 q28 q37 q46)), .val (.int (own_high q10 q19 q28 q37 q46)), .unset, .unset, .unset, .unset] [(.long v261)]))
      refine Dn.st (fun _ kk => XS.lstore X106.here hx rfl (hb hby at_262) rfl (l' := #[.val (.long p0), .second, .val (.int p1), .val (.int p2), .val (.int p3), .val (.int p4), .val (.int p5), .val (.ref b1), .val (.int v53), .val (.int v61), .val (.int v68), .val (.double v78), .second, .val (.ref b81), .val (.ref bb106), .val (.int (own_low q10 q19 q28 q37 q46)), .val (.int (own_high q10 q19 q28 q37 q46)), .val (.long v261), .second, .unset, .unset]) rfl (XS.iload X106.here hx rfl (hb hby at_264) rfl  (XS.i2l X106.here hx rfl (hb hby at_266) rfl (kk)))) ?_
      show Dn p e below s _ _ _ (T106.setTop (mkF m 267 #[.val (.long p0), .second, .val (.int p1), .val (.int p2), .val (.int p3), .val (.int p4), .val (.int p5), .val (.ref b1), .val (.int v53), .val (.int v61), .val (.int v68), .val (.double v78), .second, .val (.ref b81), .val (.ref bb106), .val (.int (own_low q10 q19 q28 q37 q46)), .val (.int (own_high q10 q19 q28 q37 q46)), .val (.long v261), .second, .unset, .unset] [(.long (v53.toInt64))]))
      generalize hv266 : ((v53.toInt64) : Int64) = v266
      have q266 : v266.toInt = v53.toInt := by have qq := c_i2l v53; rw [hv266] at qq; exact qq
      have r266 := rng64 v266
      show Dn p e below s _ _ _ (T106.setTop (mkF m 267 #[.val (.long p0), .second, .val (.int p1), .val (.int p2), .val (.int p3), .val (.int p4), .val (.int p5), .val (.ref b1), .val (.int v53), .val (.int v61), .val (.int v68), .val (.double v78), .second, .val (.ref b81), .val (.ref bb106), .val (.int (own_low q10 q19 q28 q37 q46)), .val (.int (own_high q10 q19 q28 q37 q46)), .val (.long v261), .second, .unset, .unset] [(.long v266)]))
      refine Dn.st (fun _ kk => XS.iload X106.here hx rfl (hb hby at_267) rfl  (XS.i2l X106.here hx rfl (hb hby at_269) rfl (kk))) ?_
      show Dn p e below s _ _ _ (T106.setTop (mkF m 270 #[.val (.long p0), .second, .val (.int p1), .val (.int p2), .val (.int p3), .val (.int p4), .val (.int p5), .val (.ref b1), .val (.int v53), .val (.int v61), .val (.int v68), .val (.double v78), .second, .val (.ref b81), .val (.ref bb106), .val (.int (own_low q10 q19 q28 q37 q46)), .val (.int (own_high q10 q19 q28 q37 q46)), .val (.long v261), .second, .unset, .unset] [(.long (v61.toInt64)), (.long v266)]))
      generalize hv269 : ((v61.toInt64) : Int64) = v269
      have q269 : v269.toInt = v61.toInt := by have qq := c_i2l v61; rw [hv269] at qq; exact qq
      have r269 := rng64 v269
      show Dn p e below s _ _ _ (T106.setTop (mkF m 270 #[.val (.long p0), .second, .val (.int p1), .val (.int p2), .val (.int p3), .val (.int p4), .val (.int p5), .val (.ref b1), .val (.int v53), .val (.int v61), .val (.int v68), .val (.double v78), .second, .val (.ref b81), .val (.ref bb106), .val (.int (own_low q10 q19 q28 q37 q46)), .val (.int (own_high q10 q19 q28 q37 q46)), .val (.long v261), .second, .unset, .unset] [(.long v269), (.long v266)]))
      refine Dn.st (fun _ kk => XS.ladd X106.here hx rfl (hb hby at_270) rfl (kk)) ?_
      show Dn p e below s _ _ _ (T106.setTop (mkF m 271 #[.val (.long p0), .second, .val (.int p1), .val (.int p2), .val (.int p3), .val (.int p4), .val (.int p5), .val (.ref b1), .val (.int v53), .val (.int v61), .val (.int v68), .val (.double v78), .second, .val (.ref b81), .val (.ref bb106), .val (.int (own_low q10 q19 q28 q37 q46)), .val (.int (own_high q10 q19 q28 q37 q46)), .val (.long v261), .second, .unset, .unset] [(.long (v266 + v269))]))
      generalize hv270 : ((v266 + v269) : Int64) = v270
      have q270 : (v270.toInt - (v266.toInt + v269.toInt)) % 18446744073709551616 = 0 := by have qq := c_ladd v266 v269; rw [hv270] at qq; exact qq
      have r270 := rng64 v270
      show Dn p e below s _ _ _ (T106.setTop (mkF m 271 #[.val (.long p0), .second, .val (.int p1), .val (.int p2), .val (.int p3), .val (.int p4), .val (.int p5), .val (.ref b1), .val (.int v53), .val (.int v61), .val (.int v68), .val (.double v78), .second, .val (.ref b81), .val (.ref bb106), .val (.int (own_low q10 q19 q28 q37 q46)), .val (.int (own_high q10 q19 q28 q37 q46)), .val (.long v261), .second, .unset, .unset] [(.long v270)]))
      refine Dn.st (fun _ kk => XS.lconst X106.here hx rfl (hb hby at_271) (XS.lsub X106.here hx rfl (hb hby at_272) rfl (kk))) ?_
      show Dn p e below s _ _ _ (T106.setTop (mkF m 273 #[.val (.long p0), .second, .val (.int p1), .val (.int p2), .val (.int p3), .val (.int p4), .val (.int p5), .val (.ref b1), .val (.int v53), .val (.int v61), .val (.int v68), .val (.double v78), .second, .val (.ref b81), .val (.ref bb106), .val (.int (own_low q10 q19 q28 q37 q46)), .val (.int (own_high q10 q19 q28 q37 q46)), .val (.long v261), .second, .unset, .unset] [(.long (v270 - (1 : Int64)))]))
      generalize hv272 : ((v270 - (1 : Int64)) : Int64) = v272
      have q272 : (v272.toInt - (v270.toInt - 1)) % 18446744073709551616 = 0 := by have qq := c_lsub v270 (1 : Int64); rw [hv272] at qq; exact qq
      have r272 := rng64 v272
      show Dn p e below s _ _ _ (T106.setTop (mkF m 273 #[.val (.long p0), .second, .val (.int p1), .val (.int p2), .val (.int p3), .val (.int p4), .val (.int p5), .val (.ref b1), .val (.int v53), .val (.int v61), .val (.int v68), .val (.double v78), .second, .val (.ref b81), .val (.ref bb106), .val (.int (own_low q10 q19 q28 q37 q46)), .val (.int (own_high q10 q19 q28 q37 q46)), .val (.long v261), .second, .unset, .unset] [(.long v272)]))
      refine Dn.st (fun _ kk => XS.iload X106.here hx rfl (hb hby at_273) rfl  (XS.i2l X106.here hx rfl (hb hby at_275) rfl (kk))) ?_
      show Dn p e below s _ _ _ (T106.setTop (mkF m 276 #[.val (.long p0), .second, .val (.int p1), .val (.int p2), .val (.int p3), .val (.int p4), .val (.int p5), .val (.ref b1), .val (.int v53), .val (.int v61), .val (.int v68), .val (.double v78), .second, .val (.ref b81), .val (.ref bb106), .val (.int (own_low q10 q19 q28 q37 q46)), .val (.int (own_high q10 q19 q28 q37 q46)), .val (.long v261), .second, .unset, .unset] [(.long (v68.toInt64)), (.long v272)]))
      generalize hv275 : ((v68.toInt64) : Int64) = v275
      have q275 : v275.toInt = v68.toInt := by have qq := c_i2l v68; rw [hv275] at qq; exact qq
      have r275 := rng64 v275
      show Dn p e below s _ _ _ (T106.setTop (mkF m 276 #[.val (.long p0), .second, .val (.int p1), .val (.int p2), .val (.int p3), .val (.int p4), .val (.int p5), .val (.ref b1), .val (.int v53), .val (.int v61), .val (.int v68), .val (.double v78), .second, .val (.ref b81), .val (.ref bb106), .val (.int (own_low q10 q19 q28 q37 q46)), .val (.int (own_high q10 q19 q28 q37 q46)), .val (.long v261), .second, .unset, .unset] [(.long v275), (.long v272)]))
      refine Dn.st (fun _ kk => XS.ladd X106.here hx rfl (hb hby at_276) rfl (kk)) ?_
      show Dn p e below s _ _ _ (T106.setTop (mkF m 277 #[.val (.long p0), .second, .val (.int p1), .val (.int p2), .val (.int p3), .val (.int p4), .val (.int p5), .val (.ref b1), .val (.int v53), .val (.int v61), .val (.int v68), .val (.double v78), .second, .val (.ref b81), .val (.ref bb106), .val (.int (own_low q10 q19 q28 q37 q46)), .val (.int (own_high q10 q19 q28 q37 q46)), .val (.long v261), .second, .unset, .unset] [(.long (v272 + v275))]))
      generalize hv276 : ((v272 + v275) : Int64) = v276
      have q276 : (v276.toInt - (v272.toInt + v275.toInt)) % 18446744073709551616 = 0 := by have qq := c_ladd v272 v275; rw [hv276] at qq; exact qq
      have r276 := rng64 v276
      show Dn p e below s _ _ _ (T106.setTop (mkF m 277 #[.val (.long p0), .second, .val (.int p1), .val (.int p2), .val (.int p3), .val (.int p4), .val (.int p5), .val (.ref b1), .val (.int v53), .val (.int v61), .val (.int v68), .val (.double v78), .second, .val (.ref b81), .val (.ref bb106), .val (.int (own_low q10 q19 q28 q37 q46)), .val (.int (own_high q10 q19 q28 q37 q46)), .val (.long v261), .second, .unset, .unset] [(.long v276)]))
      refine Dn.st (fun _ kk => XS.iload X106.here hx rfl (hb hby at_277) rfl  (XS.i2l X106.here hx rfl (hb hby at_279) rfl (kk))) ?_
      show Dn p e below s _ _ _ (T106.setTop (mkF m 280 #[.val (.long p0), .second, .val (.int p1), .val (.int p2), .val (.int p3), .val (.int p4), .val (.int p5), .val (.ref b1), .val (.int v53), .val (.int v61), .val (.int v68), .val (.double v78), .second, .val (.ref b81), .val (.ref bb106), .val (.int (own_low q10 q19 q28 q37 q46)), .val (.int (own_high q10 q19 q28 q37 q46)), .val (.long v261), .second, .unset, .unset] [(.long ((own_low q10 q19 q28 q37 q46).toInt64)), (.long v276)]))
      generalize hv279 : (((own_low q10 q19 q28 q37 q46).toInt64) : Int64) = v279
      have q279 : v279.toInt = (own_low q10 q19 q28 q37 q46).toInt := by have qq := c_i2l (own_low q10 q19 q28 q37 q46); rw [hv279] at qq; exact qq
      have r279 := rng64 v279
      show Dn p e below s _ _ _ (T106.setTop (mkF m 280 #[.val (.long p0), .second, .val (.int p1), .val (.int p2), .val (.int p3), .val (.int p4), .val (.int p5), .val (.ref b1), .val (.int v53), .val (.int v61), .val (.int v68), .val (.double v78), .second, .val (.ref b81), .val (.ref bb106), .val (.int (own_low q10 q19 q28 q37 q46)), .val (.int (own_high q10 q19 q28 q37 q46)), .val (.long v261), .second, .unset, .unset] [(.long v279), (.long v276)]))
      refine Dn.st (fun _ kk => XS.lsub X106.here hx rfl (hb hby at_280) rfl (kk)) ?_
      show Dn p e below s _ _ _ (T106.setTop (mkF m 281 #[.val (.long p0), .second, .val (.int p1), .val (.int p2), .val (.int p3), .val (.int p4), .val (.int p5), .val (.ref b1), .val (.int v53), .val (.int v61), .val (.int v68), .val (.double v78), .second, .val (.ref b81), .val (.ref bb106), .val (.int (own_low q10 q19 q28 q37 q46)), .val (.int (own_high q10 q19 q28 q37 q46)), .val (.long v261), .second, .unset, .unset] [(.long (v276 - v279))]))
      generalize hv280 : ((v276 - v279) : Int64) = v280
      have q280 : (v280.toInt - (v276.toInt - v279.toInt)) % 18446744073709551616 = 0 := by have qq := c_lsub v276 v279; rw [hv280] at qq; exact qq
      have r280 := rng64 v280
      show Dn p e below s _ _ _ (T106.setTop (mkF m 281 #[.val (.long p0), .second, .val (.int p1), .val (.int p2), .val (.int p3), .val (.int p4), .val (.int p5), .val (.ref b1), .val (.int v53), .val (.int v61), .val (.int v68), .val (.double v78), .second, .val (.ref b81), .val (.ref bb106), .val (.int (own_low q10 q19 q28 q37 q46)), .val (.int (own_high q10 q19 q28 q37 q46)), .val (.long v261), .second, .unset, .unset] [(.long v280)]))
      refine Dn.st (fun _ kk => X106.ldc2Long hx hown (mvT hZ (hw _ (List.mem_of_getElem? (i := 117) rfl))) (g := (mkF m 281 #[.val (.long p0), .second, .val (.int p1), .val (.int p2), .val (.int p3), .val (.int p4), .val (.int p5), .val (.ref b1), .val (.int v53), .val (.int v61), .val (.int v68), .val (.double v78), .second, .val (.ref b81), .val (.ref bb106), .val (.int (own_low q10 q19 q28 q37 q46)), .val (.int (own_high q10 q19 q28 q37 q46)), .val (.long v261), .second, .unset, .unset] [(.long v280)])) rfl (hb hby at_281) _ (XS.ladd X106.here hx rfl (hb hby at_284) rfl (kk))) ?_
      show Dn p e below s _ _ _ (T106.setTop (mkF m 285 #[.val (.long p0), .second, .val (.int p1), .val (.int p2), .val (.int p3), .val (.int p4), .val (.int p5), .val (.ref b1), .val (.int v53), .val (.int v61), .val (.int v68), .val (.double v78), .second, .val (.ref b81), .val (.ref bb106), .val (.int (own_low q10 q19 q28 q37 q46)), .val (.int (own_high q10 q19 q28 q37 q46)), .val (.long v261), .second, .unset, .unset] [(.long (v280 + (25 : Int64)))]))
      generalize hv284 : ((v280 + (25 : Int64)) : Int64) = v284
      have q284 : (v284.toInt - (v280.toInt + 25)) % 18446744073709551616 = 0 := by have qq := c_ladd v280 (25 : Int64); rw [hv284] at qq; exact qq
      have r284 := rng64 v284
      show Dn p e below s _ _ _ (T106.setTop (mkF m 285 #[.val (.long p0), .second, .val (.int p1), .val (.int p2), .val (.int p3), .val (.int p4), .val (.int p5), .val (.ref b1), .val (.int v53), .val (.int v61), .val (.int v68), .val (.double v78), .second, .val (.ref b81), .val (.ref bb106), .val (.int (own_low q10 q19 q28 q37 q46)), .val (.int (own_high q10 q19 q28 q37 q46)), .val (.long v261), .second, .unset, .unset] [(.long v284)]))
      refine Dn.st (fun _ kk => XS.lstore X106.here hx rfl (hb hby at_285) rfl (l' := #[.val (.long p0), .second, .val (.int p1), .val (.int p2), .val (.int p3), .val (.int p4), .val (.int p5), .val (.ref b1), .val (.int v53), .val (.int v61), .val (.int v68), .val (.double v78), .second, .val (.ref b81), .val (.ref bb106), .val (.int (own_low q10 q19 q28 q37 q46)), .val (.int (own_high q10 q19 q28 q37 q46)), .val (.long v261), .second, .val (.long v284), .second]) rfl (XS.aload X106.here hx rfl (hb hby at_287) rfl rfl (kk))) ?_
      show Dn p e below s _ _ _ (T106.setTop (mkF m 289 #[.val (.long p0), .second, .val (.int p1), .val (.int p2), .val (.int p3), .val (.int p4), .val (.int p5), .val (.ref b1), .val (.int v53), .val (.int v61), .val (.int v68), .val (.double v78), .second, .val (.ref b81), .val (.ref bb106), .val (.int (own_low q10 q19 q28 q37 q46)), .val (.int (own_high q10 q19 q28 q37 q46)), .val (.long v261), .second, .val (.long v284), .second] [(.ref bb106)]))
      have Vc_bb106_289 := V_bb106
      obtain ⟨cl_bb106_289, Ar_bb106_289, q_bb106_289, S_bb106_289, N_bb106_289, H_bb106_289, G_bb106_289⟩ := Vc_bb106_289
      refine Dn.st (fun _ kk => X106.arraylength hx Ar_bb106_289.1 (State.isArrayOf_alike hZ.alike Ar_bb106_289.2.1) (g := (mkF m 289 #[.val (.long p0), .second, .val (.int p1), .val (.int p2), .val (.int p3), .val (.int p4), .val (.int p5), .val (.ref b1), .val (.int v53), .val (.int v61), .val (.int v68), .val (.double v78), .second, .val (.ref b81), .val (.ref bb106), .val (.int (own_low q10 q19 q28 q37 q46)), .val (.int (own_high q10 q19 q28 q37 q46)), .val (.long v261), .second, .val (.long v284), .second] [(.ref bb106)])) rfl rfl (hb hby at_289) _ (kk)) ?_
      show Dn p e below s _ _ _ (T106.setTop (mkF m 290 #[.val (.long p0), .second, .val (.int p1), .val (.int p2), .val (.int p3), .val (.int p4), .val (.int p5), .val (.ref b1), .val (.int v53), .val (.int v61), .val (.int v68), .val (.double v78), .second, .val (.ref b81), .val (.ref bb106), .val (.int (own_low q10 q19 q28 q37 q46)), .val (.int (own_high q10 q19 q28 q37 q46)), .val (.long v261), .second, .val (.long v284), .second] [(.int cl_bb106_289.slots.size.toInt32)]))
      rw [len_of S_bb106_289 N_bb106_289]
      show Dn p e below s _ _ _ (T106.setTop (mkF m 290 #[.val (.long p0), .second, .val (.int p1), .val (.int p2), .val (.int p3), .val (.int p4), .val (.int p5), .val (.ref b1), .val (.int v53), .val (.int v61), .val (.int v68), .val (.double v78), .second, .val (.ref b81), .val (.ref bb106), .val (.int (own_low q10 q19 q28 q37 q46)), .val (.int (own_high q10 q19 q28 q37 q46)), .val (.long v261), .second, .val (.long v284), .second] [(.int (2 : Int32))]))
      refine Dn.st (fun _ kk => XS.iconst X106.here hx rfl (hb hby at_290) (kk)) ?_
      show Dn p e below s _ _ _ (T106.setTop (mkF m 291 #[.val (.long p0), .second, .val (.int p1), .val (.int p2), .val (.int p3), .val (.int p4), .val (.int p5), .val (.ref b1), .val (.int v53), .val (.int v61), .val (.int v68), .val (.double v78), .second, .val (.ref b81), .val (.ref bb106), .val (.int (own_low q10 q19 q28 q37 q46)), .val (.int (own_high q10 q19 q28 q37 q46)), .val (.long v261), .second, .val (.long v284), .second] [(.int (2 : Int32)), (.int (2 : Int32))]))
      have hc291 : (2 : Int32) = (2 : Int32) := by decide
      refine Dn.st (fun _ kk => XS.icmpNo X106.here hx rfl (hb hby at_291) rfl (teq hc291).2 (XS.aload X106.here hx rfl (hb hby at_294) rfl rfl (XS.iconst X106.here hx rfl (hb hby at_296) (kk)))) ?_
      show Dn p e below s _ _ _ (T106.setTop (mkF m 297 #[.val (.long p0), .second, .val (.int p1), .val (.int p2), .val (.int p3), .val (.int p4), .val (.int p5), .val (.ref b1), .val (.int v53), .val (.int v61), .val (.int v68), .val (.double v78), .second, .val (.ref b81), .val (.ref bb106), .val (.int (own_low q10 q19 q28 q37 q46)), .val (.int (own_high q10 q19 q28 q37 q46)), .val (.long v261), .second, .val (.long v284), .second] [(.int (0 : Int32)), (.ref bb106)]))
      have Vc_bb106_297 := V_bb106
      obtain ⟨cl_bb106_297, Ar_bb106_297, q_bb106_297, S_bb106_297, N_bb106_297, H_bb106_297, G_bb106_297⟩ := Vc_bb106_297
      have hin297 : ¬ ((0 : Int32) < 0 ∨ cl_bb106_297.slots.size ≤ ((0 : Int32)).toNatClampNeg) := inb_of S_bb106_297 ⟨by decide, by decide⟩
      have hat297 : cl_bb106_297.slots[((0 : Int32)).toNatClampNeg]? = some (.double w0_106) := H_bb106_297.at hin297 rfl
      refine Dn.st (fun _ kk => X106.daload hx (j := (0 : Int32)) (v := (.double w0_106)) Ar_bb106_297.1 (State.isArrayOf_alike hZ.alike Ar_bb106_297.2.1) Ar_bb106_297.2.2 hin297 hat297 (g := (mkF m 297 #[.val (.long p0), .second, .val (.int p1), .val (.int p2), .val (.int p3), .val (.int p4), .val (.int p5), .val (.ref b1), .val (.int v53), .val (.int v61), .val (.int v68), .val (.double v78), .second, .val (.ref b81), .val (.ref bb106), .val (.int (own_low q10 q19 q28 q37 q46)), .val (.int (own_high q10 q19 q28 q37 q46)), .val (.long v261), .second, .val (.long v284), .second] [(.int (0 : Int32)), (.ref bb106)])) rfl rfl (hb hby at_297) _ (XS.lload X106.here hx rfl (hb hby at_298) rfl  (kk))) ?_
      show Dn p e below s _ _ _ (T106.setTop (mkF m 300 #[.val (.long p0), .second, .val (.int p1), .val (.int p2), .val (.int p3), .val (.int p4), .val (.int p5), .val (.ref b1), .val (.int v53), .val (.int v61), .val (.int v68), .val (.double v78), .second, .val (.ref b81), .val (.ref bb106), .val (.int (own_low q10 q19 q28 q37 q46)), .val (.int (own_high q10 q19 q28 q37 q46)), .val (.long v261), .second, .val (.long v284), .second] [(.long v261), (.double w0_106)]))
      have d300 := DS.l2d (v := v261) (by omega)
      refine Dn.st (fun _ kk => XS.l2dS X106.here hx rfl (hb hby at_300) rfl rfl (kk)) ?_
      show Dn p e below s _ _ _ (T106.setTop (mkF m 301 #[.val (.long p0), .second, .val (.int p1), .val (.int p2), .val (.int p3), .val (.int p4), .val (.int p5), .val (.ref b1), .val (.int v53), .val (.int v61), .val (.int v68), .val (.double v78), .second, .val (.ref b81), .val (.ref bb106), .val (.int (own_low q10 q19 q28 q37 q46)), .val (.int (own_high q10 q19 q28 q37 q46)), .val (.long v261), .second, .val (.long v284), .second] [(.double (FP.l2d v261)), (.double w0_106)]))
      generalize hv300 : ((FP.l2d v261) : UInt64) = v300 at d300 ⊢
      show Dn p e below s _ _ _ (T106.setTop (mkF m 301 #[.val (.long p0), .second, .val (.int p1), .val (.int p2), .val (.int p3), .val (.int p4), .val (.int p5), .val (.ref b1), .val (.int v53), .val (.int v61), .val (.int v68), .val (.double v78), .second, .val (.ref b81), .val (.ref bb106), .val (.int (own_low q10 q19 q28 q37 q46)), .val (.int (own_high q10 q19 q28 q37 q46)), .val (.long v261), .second, .val (.long v284), .second] [(.double v300), (.double w0_106)]))
      refine Dn.st (fun _ kk => XS.dload X106.here hx rfl (hb hby at_301) rfl  (kk)) ?_
      show Dn p e below s _ _ _ (T106.setTop (mkF m 303 #[.val (.long p0), .second, .val (.int p1), .val (.int p2), .val (.int p3), .val (.int p4), .val (.int p5), .val (.ref b1), .val (.int v53), .val (.int v61), .val (.int v68), .val (.double v78), .second, .val (.ref b81), .val (.ref bb106), .val (.int (own_low q10 q19 q28 q37 q46)), .val (.int (own_high q10 q19 q28 q37 q46)), .val (.long v261), .second, .val (.long v284), .second] [(.double v78), (.double v300), (.double w0_106)]))
      have mq0 := own_mul (a := (v53.toInt - v68.toInt - (own_high q10 q19 q28 q37 q46).toInt - 25)) (A := 4194304) (b := v77.toInt) (B := 64) (by omega) (by omega)
      have d303 : DS 0 ((v53.toInt - v68.toInt - (own_high q10 q19 q28 q37 q46).toInt - 25) * v77.toInt) (FP.dmul v300 v78) := DS.mul (k := 0) (m := 0) ((d300).cast rfl (by omega)) d78 (by omega) (by decide)
      refine Dn.st (fun _ kk => XS.dmulS X106.here hx rfl (hb hby at_303) rfl d303.nn rfl (kk)) ?_
      show Dn p e below s _ _ _ (T106.setTop (mkF m 304 #[.val (.long p0), .second, .val (.int p1), .val (.int p2), .val (.int p3), .val (.int p4), .val (.int p5), .val (.ref b1), .val (.int v53), .val (.int v61), .val (.int v68), .val (.double v78), .second, .val (.ref b81), .val (.ref bb106), .val (.int (own_low q10 q19 q28 q37 q46)), .val (.int (own_high q10 q19 q28 q37 q46)), .val (.long v261), .second, .val (.long v284), .second] [(.double (FP.dmul v300 v78)), (.double w0_106)]))
      generalize hv303 : ((FP.dmul v300 v78) : UInt64) = v303 at d303 ⊢
      show Dn p e below s _ _ _ (T106.setTop (mkF m 304 #[.val (.long p0), .second, .val (.int p1), .val (.int p2), .val (.int p3), .val (.int p4), .val (.int p5), .val (.ref b1), .val (.int v53), .val (.int v61), .val (.int v68), .val (.double v78), .second, .val (.ref b81), .val (.ref bb106), .val (.int (own_low q10 q19 q28 q37 q46)), .val (.int (own_high q10 q19 q28 q37 q46)), .val (.long v261), .second, .val (.long v284), .second] [(.double v303), (.double w0_106)]))
      refine Dn.st (fun _ kk => XS.dcmpS X106.here hx rfl (hb hby at_304) rfl (DS.cmpV dw0_106 d303 _) (kk)) ?_
      show Dn p e below s _ _ _ (T106.setTop (mkF m 305 #[.val (.long p0), .second, .val (.int p1), .val (.int p2), .val (.int p3), .val (.int p4), .val (.int p5), .val (.ref b1), .val (.int v53), .val (.int v61), .val (.int v68), .val (.double v78), .second, .val (.ref b81), .val (.ref bb106), .val (.int (own_low q10 q19 q28 q37 q46)), .val (.int (own_high q10 q19 q28 q37 q46)), .val (.long v261), .second, .val (.long v284), .second] [(.int (c3 ((v53.toInt - v68.toInt - (own_high q10 q19 q28 q37 q46).toInt - 25) * v77.toInt) ((v53.toInt - v68.toInt - (own_high q10 q19 q28 q37 q46).toInt - 25) * v77.toInt)))]))
      have hc305 : (c3 ((v53.toInt - v68.toInt - (own_high q10 q19 q28 q37 q46).toInt - 25) * v77.toInt) ((v53.toInt - v68.toInt - (own_high q10 q19 q28 q37 q46).toInt - 25) * v77.toInt)) = (0 : Int32) := (c3_eq _ _).mpr rfl
      refine Dn.st (fun _ kk => XS.ifNo X106.here hx rfl (hb hby at_305) rfl ((if0 _ _).trans (teq hc305).2) (XS.aload X106.here hx rfl (hb hby at_308) rfl rfl (XS.iconst X106.here hx rfl (hb hby at_310) (kk)))) ?_
      show Dn p e below s _ _ _ (T106.setTop (mkF m 311 #[.val (.long p0), .second, .val (.int p1), .val (.int p2), .val (.int p3), .val (.int p4), .val (.int p5), .val (.ref b1), .val (.int v53), .val (.int v61), .val (.int v68), .val (.double v78), .second, .val (.ref b81), .val (.ref bb106), .val (.int (own_low q10 q19 q28 q37 q46)), .val (.int (own_high q10 q19 q28 q37 q46)), .val (.long v261), .second, .val (.long v284), .second] [(.int (1 : Int32)), (.ref bb106)]))
      have Vc_bb106_311 := V_bb106
      obtain ⟨cl_bb106_311, Ar_bb106_311, q_bb106_311, S_bb106_311, N_bb106_311, H_bb106_311, G_bb106_311⟩ := Vc_bb106_311
      have hin311 : ¬ ((1 : Int32) < 0 ∨ cl_bb106_311.slots.size ≤ ((1 : Int32)).toNatClampNeg) := inb_of S_bb106_311 ⟨by decide, by decide⟩
      have hat311 : cl_bb106_311.slots[((1 : Int32)).toNatClampNeg]? = some (.double w1_106) := H_bb106_311.at hin311 rfl
      refine Dn.st (fun _ kk => X106.daload hx (j := (1 : Int32)) (v := (.double w1_106)) Ar_bb106_311.1 (State.isArrayOf_alike hZ.alike Ar_bb106_311.2.1) Ar_bb106_311.2.2 hin311 hat311 (g := (mkF m 311 #[.val (.long p0), .second, .val (.int p1), .val (.int p2), .val (.int p3), .val (.int p4), .val (.int p5), .val (.ref b1), .val (.int v53), .val (.int v61), .val (.int v68), .val (.double v78), .second, .val (.ref b81), .val (.ref bb106), .val (.int (own_low q10 q19 q28 q37 q46)), .val (.int (own_high q10 q19 q28 q37 q46)), .val (.long v261), .second, .val (.long v284), .second] [(.int (1 : Int32)), (.ref bb106)])) rfl rfl (hb hby at_311) _ (XS.lload X106.here hx rfl (hb hby at_312) rfl  (kk))) ?_
      show Dn p e below s _ _ _ (T106.setTop (mkF m 314 #[.val (.long p0), .second, .val (.int p1), .val (.int p2), .val (.int p3), .val (.int p4), .val (.int p5), .val (.ref b1), .val (.int v53), .val (.int v61), .val (.int v68), .val (.double v78), .second, .val (.ref b81), .val (.ref bb106), .val (.int (own_low q10 q19 q28 q37 q46)), .val (.int (own_high q10 q19 q28 q37 q46)), .val (.long v261), .second, .val (.long v284), .second] [(.long v284), (.double w1_106)]))
      have d314 := DS.l2d (v := v284) (by omega)
      refine Dn.st (fun _ kk => XS.l2dS X106.here hx rfl (hb hby at_314) rfl rfl (kk)) ?_
      show Dn p e below s _ _ _ (T106.setTop (mkF m 315 #[.val (.long p0), .second, .val (.int p1), .val (.int p2), .val (.int p3), .val (.int p4), .val (.int p5), .val (.ref b1), .val (.int v53), .val (.int v61), .val (.int v68), .val (.double v78), .second, .val (.ref b81), .val (.ref bb106), .val (.int (own_low q10 q19 q28 q37 q46)), .val (.int (own_high q10 q19 q28 q37 q46)), .val (.long v261), .second, .val (.long v284), .second] [(.double (FP.l2d v284)), (.double w1_106)]))
      generalize hv314 : ((FP.l2d v284) : UInt64) = v314 at d314 ⊢
      show Dn p e below s _ _ _ (T106.setTop (mkF m 315 #[.val (.long p0), .second, .val (.int p1), .val (.int p2), .val (.int p3), .val (.int p4), .val (.int p5), .val (.ref b1), .val (.int v53), .val (.int v61), .val (.int v68), .val (.double v78), .second, .val (.ref b81), .val (.ref bb106), .val (.int (own_low q10 q19 q28 q37 q46)), .val (.int (own_high q10 q19 q28 q37 q46)), .val (.long v261), .second, .val (.long v284), .second] [(.double v314), (.double w1_106)]))
      refine Dn.st (fun _ kk => XS.dload X106.here hx rfl (hb hby at_315) rfl  (kk)) ?_
      show Dn p e below s _ _ _ (T106.setTop (mkF m 317 #[.val (.long p0), .second, .val (.int p1), .val (.int p2), .val (.int p3), .val (.int p4), .val (.int p5), .val (.ref b1), .val (.int v53), .val (.int v61), .val (.int v68), .val (.double v78), .second, .val (.ref b81), .val (.ref bb106), .val (.int (own_low q10 q19 q28 q37 q46)), .val (.int (own_high q10 q19 q28 q37 q46)), .val (.long v261), .second, .val (.long v284), .second] [(.double v78), (.double v314), (.double w1_106)]))
      have mq1 := own_mul (a := (v53.toInt + v61.toInt - 1 + v68.toInt - (own_low q10 q19 q28 q37 q46).toInt + 25)) (A := 4194304) (b := v77.toInt) (B := 64) (by omega) (by omega)
      have d317 : DS 0 ((v53.toInt + v61.toInt - 1 + v68.toInt - (own_low q10 q19 q28 q37 q46).toInt + 25) * v77.toInt) (FP.dmul v314 v78) := DS.mul (k := 0) (m := 0) ((d314).cast rfl (by omega)) d78 (by omega) (by decide)
      refine Dn.st (fun _ kk => XS.dmulS X106.here hx rfl (hb hby at_317) rfl d317.nn rfl (kk)) ?_
      show Dn p e below s _ _ _ (T106.setTop (mkF m 318 #[.val (.long p0), .second, .val (.int p1), .val (.int p2), .val (.int p3), .val (.int p4), .val (.int p5), .val (.ref b1), .val (.int v53), .val (.int v61), .val (.int v68), .val (.double v78), .second, .val (.ref b81), .val (.ref bb106), .val (.int (own_low q10 q19 q28 q37 q46)), .val (.int (own_high q10 q19 q28 q37 q46)), .val (.long v261), .second, .val (.long v284), .second] [(.double (FP.dmul v314 v78)), (.double w1_106)]))
      generalize hv317 : ((FP.dmul v314 v78) : UInt64) = v317 at d317 ⊢
      show Dn p e below s _ _ _ (T106.setTop (mkF m 318 #[.val (.long p0), .second, .val (.int p1), .val (.int p2), .val (.int p3), .val (.int p4), .val (.int p5), .val (.ref b1), .val (.int v53), .val (.int v61), .val (.int v68), .val (.double v78), .second, .val (.ref b81), .val (.ref bb106), .val (.int (own_low q10 q19 q28 q37 q46)), .val (.int (own_high q10 q19 q28 q37 q46)), .val (.long v261), .second, .val (.long v284), .second] [(.double v317), (.double w1_106)]))
      refine Dn.st (fun _ kk => XS.dcmpS X106.here hx rfl (hb hby at_318) rfl (DS.cmpV dw1_106 d317 _) (kk)) ?_
      show Dn p e below s _ _ _ (T106.setTop (mkF m 319 #[.val (.long p0), .second, .val (.int p1), .val (.int p2), .val (.int p3), .val (.int p4), .val (.int p5), .val (.ref b1), .val (.int v53), .val (.int v61), .val (.int v68), .val (.double v78), .second, .val (.ref b81), .val (.ref bb106), .val (.int (own_low q10 q19 q28 q37 q46)), .val (.int (own_high q10 q19 q28 q37 q46)), .val (.long v261), .second, .val (.long v284), .second] [(.int (c3 ((v53.toInt + v61.toInt - 1 + v68.toInt - (own_low q10 q19 q28 q37 q46).toInt + 25) * v77.toInt) ((v53.toInt + v61.toInt - 1 + v68.toInt - (own_low q10 q19 q28 q37 q46).toInt + 25) * v77.toInt)))]))
      have hc319 : (c3 ((v53.toInt + v61.toInt - 1 + v68.toInt - (own_low q10 q19 q28 q37 q46).toInt + 25) * v77.toInt) ((v53.toInt + v61.toInt - 1 + v68.toInt - (own_low q10 q19 q28 q37 q46).toInt + 25) * v77.toInt)) = (0 : Int32) := (c3_eq _ _).mpr rfl
      refine Dn.st (fun _ kk => XS.ifNo X106.here hx rfl (hb hby at_319) rfl ((if0 _ _).trans (teq hc319).2) (XS.iconst X106.here hx rfl (hb hby at_322) (XS.goto X106.here hx rfl (pc0 := 323) (pc' := 327) rfl (hb hby at_323) (by decide) (by decide) (kk)))) ?_
      show Dn p e below s _ _ _ (T106.setTop (mkF m 327 #[.val (.long p0), .second, .val (.int p1), .val (.int p2), .val (.int p3), .val (.int p4), .val (.int p5), .val (.ref b1), .val (.int v53), .val (.int v61), .val (.int v68), .val (.double v78), .second, .val (.ref b81), .val (.ref bb106), .val (.int (own_low q10 q19 q28 q37 q46)), .val (.int (own_high q10 q19 q28 q37 q46)), .val (.long v261), .second, .val (.long v284), .second] [(.int (1 : Int32))]))
      exact Dn.ret X106 hlk hx hret rfl (Or.inl ⟨rfl, Or.inr (Or.inl rfl), _, rfl⟩) (hb hby at_327) ⟨rfl, N106⟩ (by decide) (by decide)
    show Dn p e below s _ _ _ (T106.setTop (mkF m 179 #[.val (.long p0), .second, .val (.int p1), .val (.int p2), .val (.int p3), .val (.int p4), .val (.int p5), .val (.ref b1), .val (.int v53), .val (.int v61), .val (.int v68), .val (.double v78), .second, .val (.ref b81), .val (.ref bb106), .val (.int (own_low q10 q19 q28 q37 q46)), .unset, .unset, .unset, .unset, .unset] []))
    refine Dn.st (fun _ kk => XS.aload X106.here hx rfl (hb hby at_179) rfl rfl (XS.iconst X106.here hx rfl (hb hby at_181) (kk))) ?_
    show Dn p e below s _ _ _ (T106.setTop (mkF m 182 #[.val (.long p0), .second, .val (.int p1), .val (.int p2), .val (.int p3), .val (.int p4), .val (.int p5), .val (.ref b1), .val (.int v53), .val (.int v61), .val (.int v68), .val (.double v78), .second, .val (.ref b81), .val (.ref bb106), .val (.int (own_low q10 q19 q28 q37 q46)), .unset, .unset, .unset, .unset, .unset] [(.int (4 : Int32)), (.ref b1)]))
    have Vc_b1_182 := V_b1_106
    obtain ⟨cl_b1_182, Ar_b1_182, q_b1_182, S_b1_182, N_b1_182, H_b1_182, G_b1_182⟩ := Vc_b1_182
    have hin182 : ¬ ((4 : Int32) < 0 ∨ cl_b1_182.slots.size ≤ ((4 : Int32)).toNatClampNeg) := inb_of S_b1_182 ⟨by decide, by decide⟩
    have hat182 : cl_b1_182.slots[((4 : Int32)).toNatClampNeg]? = some (.double z46) := H_b1_182.at hin182 rfl
    refine Dn.st (fun _ kk => X106.daload hx (j := (4 : Int32)) (v := (.double z46)) Ar_b1_182.1 (State.isArrayOf_alike hZ.alike Ar_b1_182.2.1) Ar_b1_182.2.2 hin182 hat182 (g := (mkF m 182 #[.val (.long p0), .second, .val (.int p1), .val (.int p2), .val (.int p3), .val (.int p4), .val (.int p5), .val (.ref b1), .val (.int v53), .val (.int v61), .val (.int v68), .val (.double v78), .second, .val (.ref b81), .val (.ref bb106), .val (.int (own_low q10 q19 q28 q37 q46)), .unset, .unset, .unset, .unset, .unset] [(.int (4 : Int32)), (.ref b1)])) rfl rfl (hb hby at_182) _ (XS.dconst0 X106.here hx rfl (hb hby at_183) rfl (XS.dcmpS X106.here hx rfl (hb hby at_184) rfl (DS.cmpV d46 dc_0 _) (kk)))) ?_
    show Dn p e below s _ _ _ (T106.setTop (mkF m 185 #[.val (.long p0), .second, .val (.int p1), .val (.int p2), .val (.int p3), .val (.int p4), .val (.int p5), .val (.ref b1), .val (.int v53), .val (.int v61), .val (.int v68), .val (.double v78), .second, .val (.ref b81), .val (.ref bb106), .val (.int (own_low q10 q19 q28 q37 q46)), .unset, .unset, .unset, .unset, .unset] [(.int (c3 q46 0))]))
    by_cases hc185 : (c3 q46 0) = (0 : Int32)
    · refine Dn.st (fun _ kk => XS.ifYes X106.here hx rfl (pc0 := 185) (pc' := 192) rfl (hb hby at_185) rfl ((if0 _ _).trans (teq hc185).1) (by decide) (by decide) (XS.aload X106.here hx rfl (hb hby at_192) rfl rfl (XS.iconst X106.here hx rfl (hb hby at_194) (kk)))) ?_
      show Dn p e below s _ _ _ (T106.setTop (mkF m 195 #[.val (.long p0), .second, .val (.int p1), .val (.int p2), .val (.int p3), .val (.int p4), .val (.int p5), .val (.ref b1), .val (.int v53), .val (.int v61), .val (.int v68), .val (.double v78), .second, .val (.ref b81), .val (.ref bb106), .val (.int (own_low q10 q19 q28 q37 q46)), .unset, .unset, .unset, .unset, .unset] [(.int (3 : Int32)), (.ref b1)]))
      have Vc_b1_195 := V_b1_106
      obtain ⟨cl_b1_195, Ar_b1_195, q_b1_195, S_b1_195, N_b1_195, H_b1_195, G_b1_195⟩ := Vc_b1_195
      have hin195 : ¬ ((3 : Int32) < 0 ∨ cl_b1_195.slots.size ≤ ((3 : Int32)).toNatClampNeg) := inb_of S_b1_195 ⟨by decide, by decide⟩
      have hat195 : cl_b1_195.slots[((3 : Int32)).toNatClampNeg]? = some (.double z37) := H_b1_195.at hin195 rfl
      refine Dn.st (fun _ kk => X106.daload hx (j := (3 : Int32)) (v := (.double z37)) Ar_b1_195.1 (State.isArrayOf_alike hZ.alike Ar_b1_195.2.1) Ar_b1_195.2.2 hin195 hat195 (g := (mkF m 195 #[.val (.long p0), .second, .val (.int p1), .val (.int p2), .val (.int p3), .val (.int p4), .val (.int p5), .val (.ref b1), .val (.int v53), .val (.int v61), .val (.int v68), .val (.double v78), .second, .val (.ref b81), .val (.ref bb106), .val (.int (own_low q10 q19 q28 q37 q46)), .unset, .unset, .unset, .unset, .unset] [(.int (3 : Int32)), (.ref b1)])) rfl rfl (hb hby at_195) _ (XS.dconst0 X106.here hx rfl (hb hby at_196) rfl (XS.dcmpS X106.here hx rfl (hb hby at_197) rfl (DS.cmpV d37 dc_0 _) (kk)))) ?_
      show Dn p e below s _ _ _ (T106.setTop (mkF m 198 #[.val (.long p0), .second, .val (.int p1), .val (.int p2), .val (.int p3), .val (.int p4), .val (.int p5), .val (.ref b1), .val (.int v53), .val (.int v61), .val (.int v68), .val (.double v78), .second, .val (.ref b81), .val (.ref bb106), .val (.int (own_low q10 q19 q28 q37 q46)), .unset, .unset, .unset, .unset, .unset] [(.int (c3 q37 0))]))
      by_cases hc198 : (c3 q37 0) = (0 : Int32)
      · refine Dn.st (fun _ kk => XS.ifYes X106.here hx rfl (pc0 := 198) (pc' := 205) rfl (hb hby at_198) rfl ((if0 _ _).trans (teq hc198).1) (by decide) (by decide) (XS.aload X106.here hx rfl (hb hby at_205) rfl rfl (XS.iconst X106.here hx rfl (hb hby at_207) (kk)))) ?_
        show Dn p e below s _ _ _ (T106.setTop (mkF m 208 #[.val (.long p0), .second, .val (.int p1), .val (.int p2), .val (.int p3), .val (.int p4), .val (.int p5), .val (.ref b1), .val (.int v53), .val (.int v61), .val (.int v68), .val (.double v78), .second, .val (.ref b81), .val (.ref bb106), .val (.int (own_low q10 q19 q28 q37 q46)), .unset, .unset, .unset, .unset, .unset] [(.int (2 : Int32)), (.ref b1)]))
        have Vc_b1_208 := V_b1_106
        obtain ⟨cl_b1_208, Ar_b1_208, q_b1_208, S_b1_208, N_b1_208, H_b1_208, G_b1_208⟩ := Vc_b1_208
        have hin208 : ¬ ((2 : Int32) < 0 ∨ cl_b1_208.slots.size ≤ ((2 : Int32)).toNatClampNeg) := inb_of S_b1_208 ⟨by decide, by decide⟩
        have hat208 : cl_b1_208.slots[((2 : Int32)).toNatClampNeg]? = some (.double z28) := H_b1_208.at hin208 rfl
        refine Dn.st (fun _ kk => X106.daload hx (j := (2 : Int32)) (v := (.double z28)) Ar_b1_208.1 (State.isArrayOf_alike hZ.alike Ar_b1_208.2.1) Ar_b1_208.2.2 hin208 hat208 (g := (mkF m 208 #[.val (.long p0), .second, .val (.int p1), .val (.int p2), .val (.int p3), .val (.int p4), .val (.int p5), .val (.ref b1), .val (.int v53), .val (.int v61), .val (.int v68), .val (.double v78), .second, .val (.ref b81), .val (.ref bb106), .val (.int (own_low q10 q19 q28 q37 q46)), .unset, .unset, .unset, .unset, .unset] [(.int (2 : Int32)), (.ref b1)])) rfl rfl (hb hby at_208) _ (XS.dconst0 X106.here hx rfl (hb hby at_209) rfl (XS.dcmpS X106.here hx rfl (hb hby at_210) rfl (DS.cmpV d28 dc_0 _) (kk)))) ?_
        show Dn p e below s _ _ _ (T106.setTop (mkF m 211 #[.val (.long p0), .second, .val (.int p1), .val (.int p2), .val (.int p3), .val (.int p4), .val (.int p5), .val (.ref b1), .val (.int v53), .val (.int v61), .val (.int v68), .val (.double v78), .second, .val (.ref b81), .val (.ref bb106), .val (.int (own_low q10 q19 q28 q37 q46)), .unset, .unset, .unset, .unset, .unset] [(.int (c3 q28 0))]))
        by_cases hc211 : (c3 q28 0) = (0 : Int32)
        · refine Dn.st (fun _ kk => XS.ifYes X106.here hx rfl (pc0 := 211) (pc' := 218) rfl (hb hby at_211) rfl ((if0 _ _).trans (teq hc211).1) (by decide) (by decide) (XS.aload X106.here hx rfl (hb hby at_218) rfl rfl (XS.iconst X106.here hx rfl (hb hby at_220) (kk)))) ?_
          show Dn p e below s _ _ _ (T106.setTop (mkF m 221 #[.val (.long p0), .second, .val (.int p1), .val (.int p2), .val (.int p3), .val (.int p4), .val (.int p5), .val (.ref b1), .val (.int v53), .val (.int v61), .val (.int v68), .val (.double v78), .second, .val (.ref b81), .val (.ref bb106), .val (.int (own_low q10 q19 q28 q37 q46)), .unset, .unset, .unset, .unset, .unset] [(.int (1 : Int32)), (.ref b1)]))
          have Vc_b1_221 := V_b1_106
          obtain ⟨cl_b1_221, Ar_b1_221, q_b1_221, S_b1_221, N_b1_221, H_b1_221, G_b1_221⟩ := Vc_b1_221
          have hin221 : ¬ ((1 : Int32) < 0 ∨ cl_b1_221.slots.size ≤ ((1 : Int32)).toNatClampNeg) := inb_of S_b1_221 ⟨by decide, by decide⟩
          have hat221 : cl_b1_221.slots[((1 : Int32)).toNatClampNeg]? = some (.double z19) := H_b1_221.at hin221 rfl
          refine Dn.st (fun _ kk => X106.daload hx (j := (1 : Int32)) (v := (.double z19)) Ar_b1_221.1 (State.isArrayOf_alike hZ.alike Ar_b1_221.2.1) Ar_b1_221.2.2 hin221 hat221 (g := (mkF m 221 #[.val (.long p0), .second, .val (.int p1), .val (.int p2), .val (.int p3), .val (.int p4), .val (.int p5), .val (.ref b1), .val (.int v53), .val (.int v61), .val (.int v68), .val (.double v78), .second, .val (.ref b81), .val (.ref bb106), .val (.int (own_low q10 q19 q28 q37 q46)), .unset, .unset, .unset, .unset, .unset] [(.int (1 : Int32)), (.ref b1)])) rfl rfl (hb hby at_221) _ (XS.dconst0 X106.here hx rfl (hb hby at_222) rfl (XS.dcmpS X106.here hx rfl (hb hby at_223) rfl (DS.cmpV d19 dc_0 _) (kk)))) ?_
          show Dn p e below s _ _ _ (T106.setTop (mkF m 224 #[.val (.long p0), .second, .val (.int p1), .val (.int p2), .val (.int p3), .val (.int p4), .val (.int p5), .val (.ref b1), .val (.int v53), .val (.int v61), .val (.int v68), .val (.double v78), .second, .val (.ref b81), .val (.ref bb106), .val (.int (own_low q10 q19 q28 q37 q46)), .unset, .unset, .unset, .unset, .unset] [(.int (c3 q19 0))]))
          by_cases hc224 : (c3 q19 0) = (0 : Int32)
          · refine Dn.st (fun _ kk => XS.ifYes X106.here hx rfl (pc0 := 224) (pc' := 231) rfl (hb hby at_224) rfl ((if0 _ _).trans (teq hc224).1) (by decide) (by decide) (XS.aload X106.here hx rfl (hb hby at_231) rfl rfl (XS.iconst X106.here hx rfl (hb hby at_233) (kk)))) ?_
            show Dn p e below s _ _ _ (T106.setTop (mkF m 234 #[.val (.long p0), .second, .val (.int p1), .val (.int p2), .val (.int p3), .val (.int p4), .val (.int p5), .val (.ref b1), .val (.int v53), .val (.int v61), .val (.int v68), .val (.double v78), .second, .val (.ref b81), .val (.ref bb106), .val (.int (own_low q10 q19 q28 q37 q46)), .unset, .unset, .unset, .unset, .unset] [(.int (0 : Int32)), (.ref b1)]))
            have Vc_b1_234 := V_b1_106
            obtain ⟨cl_b1_234, Ar_b1_234, q_b1_234, S_b1_234, N_b1_234, H_b1_234, G_b1_234⟩ := Vc_b1_234
            have hin234 : ¬ ((0 : Int32) < 0 ∨ cl_b1_234.slots.size ≤ ((0 : Int32)).toNatClampNeg) := inb_of S_b1_234 ⟨by decide, by decide⟩
            have hat234 : cl_b1_234.slots[((0 : Int32)).toNatClampNeg]? = some (.double z10) := H_b1_234.at hin234 rfl
            refine Dn.st (fun _ kk => X106.daload hx (j := (0 : Int32)) (v := (.double z10)) Ar_b1_234.1 (State.isArrayOf_alike hZ.alike Ar_b1_234.2.1) Ar_b1_234.2.2 hin234 hat234 (g := (mkF m 234 #[.val (.long p0), .second, .val (.int p1), .val (.int p2), .val (.int p3), .val (.int p4), .val (.int p5), .val (.ref b1), .val (.int v53), .val (.int v61), .val (.int v68), .val (.double v78), .second, .val (.ref b81), .val (.ref bb106), .val (.int (own_low q10 q19 q28 q37 q46)), .unset, .unset, .unset, .unset, .unset] [(.int (0 : Int32)), (.ref b1)])) rfl rfl (hb hby at_234) _ (XS.dconst0 X106.here hx rfl (hb hby at_235) rfl (XS.dcmpS X106.here hx rfl (hb hby at_236) rfl (DS.cmpV d10 dc_0 _) (kk)))) ?_
            show Dn p e below s _ _ _ (T106.setTop (mkF m 237 #[.val (.long p0), .second, .val (.int p1), .val (.int p2), .val (.int p3), .val (.int p4), .val (.int p5), .val (.ref b1), .val (.int v53), .val (.int v61), .val (.int v68), .val (.double v78), .second, .val (.ref b81), .val (.ref bb106), .val (.int (own_low q10 q19 q28 q37 q46)), .unset, .unset, .unset, .unset, .unset] [(.int (c3 q10 0))]))
            by_cases hc237 : (c3 q10 0) = (0 : Int32)
            · refine Dn.st (fun _ kk => XS.ifYes X106.here hx rfl (pc0 := 237) (pc' := 244) rfl (hb hby at_237) rfl ((if0 _ _).trans (teq hc237).1) (by decide) (by decide) (XS.iconst X106.here hx rfl (hb hby at_244) (kk))) ?_
              show Dn p e below s _ _ _ (T106.setTop (mkF m 245 #[.val (.long p0), .second, .val (.int p1), .val (.int p2), .val (.int p3), .val (.int p4), .val (.int p5), .val (.ref b1), .val (.int v53), .val (.int v61), .val (.int v68), .val (.double v78), .second, .val (.ref b81), .val (.ref bb106), .val (.int (own_low q10 q19 q28 q37 q46)), .unset, .unset, .unset, .unset, .unset] [(.int (4 : Int32))]))
              exact J245 (4 : Int32) (by unfold own_high; rw [if_pos ((c3_eq _ _).mp hc185), if_pos ((c3_eq _ _).mp hc198), if_pos ((c3_eq _ _).mp hc211), if_pos ((c3_eq _ _).mp hc224), if_pos ((c3_eq _ _).mp hc237)])
            · refine Dn.st (fun _ kk => XS.ifNo X106.here hx rfl (hb hby at_237) rfl ((if0 _ _).trans (feq hc237).1) (XS.iconst X106.here hx rfl (hb hby at_240) (XS.goto X106.here hx rfl (pc0 := 241) (pc' := 245) rfl (hb hby at_241) (by decide) (by decide) (kk)))) ?_
              show Dn p e below s _ _ _ (T106.setTop (mkF m 245 #[.val (.long p0), .second, .val (.int p1), .val (.int p2), .val (.int p3), .val (.int p4), .val (.int p5), .val (.ref b1), .val (.int v53), .val (.int v61), .val (.int v68), .val (.double v78), .second, .val (.ref b81), .val (.ref bb106), .val (.int (own_low q10 q19 q28 q37 q46)), .unset, .unset, .unset, .unset, .unset] [(.int (0 : Int32))]))
              exact J245 (0 : Int32) (by unfold own_high; rw [if_pos ((c3_eq _ _).mp hc185), if_pos ((c3_eq _ _).mp hc198), if_pos ((c3_eq _ _).mp hc211), if_pos ((c3_eq _ _).mp hc224), if_neg (mt (c3_eq _ _).mpr hc237)])
          · refine Dn.st (fun _ kk => XS.ifNo X106.here hx rfl (hb hby at_224) rfl ((if0 _ _).trans (feq hc224).1) (XS.iconst X106.here hx rfl (hb hby at_227) (XS.goto X106.here hx rfl (pc0 := 228) (pc' := 245) rfl (hb hby at_228) (by decide) (by decide) (kk)))) ?_
            show Dn p e below s _ _ _ (T106.setTop (mkF m 245 #[.val (.long p0), .second, .val (.int p1), .val (.int p2), .val (.int p3), .val (.int p4), .val (.int p5), .val (.ref b1), .val (.int v53), .val (.int v61), .val (.int v68), .val (.double v78), .second, .val (.ref b81), .val (.ref bb106), .val (.int (own_low q10 q19 q28 q37 q46)), .unset, .unset, .unset, .unset, .unset] [(.int (1 : Int32))]))
            exact J245 (1 : Int32) (by unfold own_high; rw [if_pos ((c3_eq _ _).mp hc185), if_pos ((c3_eq _ _).mp hc198), if_pos ((c3_eq _ _).mp hc211), if_neg (mt (c3_eq _ _).mpr hc224)])
        · refine Dn.st (fun _ kk => XS.ifNo X106.here hx rfl (hb hby at_211) rfl ((if0 _ _).trans (feq hc211).1) (XS.iconst X106.here hx rfl (hb hby at_214) (XS.goto X106.here hx rfl (pc0 := 215) (pc' := 245) rfl (hb hby at_215) (by decide) (by decide) (kk)))) ?_
          show Dn p e below s _ _ _ (T106.setTop (mkF m 245 #[.val (.long p0), .second, .val (.int p1), .val (.int p2), .val (.int p3), .val (.int p4), .val (.int p5), .val (.ref b1), .val (.int v53), .val (.int v61), .val (.int v68), .val (.double v78), .second, .val (.ref b81), .val (.ref bb106), .val (.int (own_low q10 q19 q28 q37 q46)), .unset, .unset, .unset, .unset, .unset] [(.int (2 : Int32))]))
          exact J245 (2 : Int32) (by unfold own_high; rw [if_pos ((c3_eq _ _).mp hc185), if_pos ((c3_eq _ _).mp hc198), if_neg (mt (c3_eq _ _).mpr hc211)])
      · refine Dn.st (fun _ kk => XS.ifNo X106.here hx rfl (hb hby at_198) rfl ((if0 _ _).trans (feq hc198).1) (XS.iconst X106.here hx rfl (hb hby at_201) (XS.goto X106.here hx rfl (pc0 := 202) (pc' := 245) rfl (hb hby at_202) (by decide) (by decide) (kk)))) ?_
        show Dn p e below s _ _ _ (T106.setTop (mkF m 245 #[.val (.long p0), .second, .val (.int p1), .val (.int p2), .val (.int p3), .val (.int p4), .val (.int p5), .val (.ref b1), .val (.int v53), .val (.int v61), .val (.int v68), .val (.double v78), .second, .val (.ref b81), .val (.ref bb106), .val (.int (own_low q10 q19 q28 q37 q46)), .unset, .unset, .unset, .unset, .unset] [(.int (3 : Int32))]))
        exact J245 (3 : Int32) (by unfold own_high; rw [if_pos ((c3_eq _ _).mp hc185), if_neg (mt (c3_eq _ _).mpr hc198)])
    · refine Dn.st (fun _ kk => XS.ifNo X106.here hx rfl (hb hby at_185) rfl ((if0 _ _).trans (feq hc185).1) (XS.iconst X106.here hx rfl (hb hby at_188) (XS.goto X106.here hx rfl (pc0 := 189) (pc' := 245) rfl (hb hby at_189) (by decide) (by decide) (kk)))) ?_
      show Dn p e below s _ _ _ (T106.setTop (mkF m 245 #[.val (.long p0), .second, .val (.int p1), .val (.int p2), .val (.int p3), .val (.int p4), .val (.int p5), .val (.ref b1), .val (.int v53), .val (.int v61), .val (.int v68), .val (.double v78), .second, .val (.ref b81), .val (.ref bb106), .val (.int (own_low q10 q19 q28 q37 q46)), .unset, .unset, .unset, .unset, .unset] [(.int (4 : Int32))]))
      exact J245 (4 : Int32) (by unfold own_high; rw [if_neg (mt (c3_eq _ _).mpr hc185)])
  show Dn p e below s _ _ _ (T106.setTop (mkF m 111 #[.val (.long p0), .second, .val (.int p1), .val (.int p2), .val (.int p3), .val (.int p4), .val (.int p5), .val (.ref b1), .val (.int v53), .val (.int v61), .val (.int v68), .val (.double v78), .second, .val (.ref b81), .val (.ref bb106), .unset, .unset, .unset, .unset, .unset, .unset] []))
  refine Dn.st (fun _ kk => XS.aload X106.here hx rfl (hb hby at_111) rfl rfl (XS.iconst X106.here hx rfl (hb hby at_113) (kk))) ?_
  show Dn p e below s _ _ _ (T106.setTop (mkF m 114 #[.val (.long p0), .second, .val (.int p1), .val (.int p2), .val (.int p3), .val (.int p4), .val (.int p5), .val (.ref b1), .val (.int v53), .val (.int v61), .val (.int v68), .val (.double v78), .second, .val (.ref b81), .val (.ref bb106), .unset, .unset, .unset, .unset, .unset, .unset] [(.int (0 : Int32)), (.ref b1)]))
  have Vc_b1_114 := V_b1_106
  obtain ⟨cl_b1_114, Ar_b1_114, q_b1_114, S_b1_114, N_b1_114, H_b1_114, G_b1_114⟩ := Vc_b1_114
  have hin114 : ¬ ((0 : Int32) < 0 ∨ cl_b1_114.slots.size ≤ ((0 : Int32)).toNatClampNeg) := inb_of S_b1_114 ⟨by decide, by decide⟩
  have hat114 : cl_b1_114.slots[((0 : Int32)).toNatClampNeg]? = some (.double z10) := H_b1_114.at hin114 rfl
  refine Dn.st (fun _ kk => X106.daload hx (j := (0 : Int32)) (v := (.double z10)) Ar_b1_114.1 (State.isArrayOf_alike hZ.alike Ar_b1_114.2.1) Ar_b1_114.2.2 hin114 hat114 (g := (mkF m 114 #[.val (.long p0), .second, .val (.int p1), .val (.int p2), .val (.int p3), .val (.int p4), .val (.int p5), .val (.ref b1), .val (.int v53), .val (.int v61), .val (.int v68), .val (.double v78), .second, .val (.ref b81), .val (.ref bb106), .unset, .unset, .unset, .unset, .unset, .unset] [(.int (0 : Int32)), (.ref b1)])) rfl rfl (hb hby at_114) _ (XS.dconst0 X106.here hx rfl (hb hby at_115) rfl (XS.dcmpS X106.here hx rfl (hb hby at_116) rfl (DS.cmpV d10 dc_0 _) (kk)))) ?_
  show Dn p e below s _ _ _ (T106.setTop (mkF m 117 #[.val (.long p0), .second, .val (.int p1), .val (.int p2), .val (.int p3), .val (.int p4), .val (.int p5), .val (.ref b1), .val (.int v53), .val (.int v61), .val (.int v68), .val (.double v78), .second, .val (.ref b81), .val (.ref bb106), .unset, .unset, .unset, .unset, .unset, .unset] [(.int (c3 q10 0))]))
  by_cases hc117 : (c3 q10 0) = (0 : Int32)
  · refine Dn.st (fun _ kk => XS.ifYes X106.here hx rfl (pc0 := 117) (pc' := 124) rfl (hb hby at_117) rfl ((if0 _ _).trans (teq hc117).1) (by decide) (by decide) (XS.aload X106.here hx rfl (hb hby at_124) rfl rfl (XS.iconst X106.here hx rfl (hb hby at_126) (kk)))) ?_
    show Dn p e below s _ _ _ (T106.setTop (mkF m 127 #[.val (.long p0), .second, .val (.int p1), .val (.int p2), .val (.int p3), .val (.int p4), .val (.int p5), .val (.ref b1), .val (.int v53), .val (.int v61), .val (.int v68), .val (.double v78), .second, .val (.ref b81), .val (.ref bb106), .unset, .unset, .unset, .unset, .unset, .unset] [(.int (1 : Int32)), (.ref b1)]))
    have Vc_b1_127 := V_b1_106
    obtain ⟨cl_b1_127, Ar_b1_127, q_b1_127, S_b1_127, N_b1_127, H_b1_127, G_b1_127⟩ := Vc_b1_127
    have hin127 : ¬ ((1 : Int32) < 0 ∨ cl_b1_127.slots.size ≤ ((1 : Int32)).toNatClampNeg) := inb_of S_b1_127 ⟨by decide, by decide⟩
    have hat127 : cl_b1_127.slots[((1 : Int32)).toNatClampNeg]? = some (.double z19) := H_b1_127.at hin127 rfl
    refine Dn.st (fun _ kk => X106.daload hx (j := (1 : Int32)) (v := (.double z19)) Ar_b1_127.1 (State.isArrayOf_alike hZ.alike Ar_b1_127.2.1) Ar_b1_127.2.2 hin127 hat127 (g := (mkF m 127 #[.val (.long p0), .second, .val (.int p1), .val (.int p2), .val (.int p3), .val (.int p4), .val (.int p5), .val (.ref b1), .val (.int v53), .val (.int v61), .val (.int v68), .val (.double v78), .second, .val (.ref b81), .val (.ref bb106), .unset, .unset, .unset, .unset, .unset, .unset] [(.int (1 : Int32)), (.ref b1)])) rfl rfl (hb hby at_127) _ (XS.dconst0 X106.here hx rfl (hb hby at_128) rfl (XS.dcmpS X106.here hx rfl (hb hby at_129) rfl (DS.cmpV d19 dc_0 _) (kk)))) ?_
    show Dn p e below s _ _ _ (T106.setTop (mkF m 130 #[.val (.long p0), .second, .val (.int p1), .val (.int p2), .val (.int p3), .val (.int p4), .val (.int p5), .val (.ref b1), .val (.int v53), .val (.int v61), .val (.int v68), .val (.double v78), .second, .val (.ref b81), .val (.ref bb106), .unset, .unset, .unset, .unset, .unset, .unset] [(.int (c3 q19 0))]))
    by_cases hc130 : (c3 q19 0) = (0 : Int32)
    · refine Dn.st (fun _ kk => XS.ifYes X106.here hx rfl (pc0 := 130) (pc' := 137) rfl (hb hby at_130) rfl ((if0 _ _).trans (teq hc130).1) (by decide) (by decide) (XS.aload X106.here hx rfl (hb hby at_137) rfl rfl (XS.iconst X106.here hx rfl (hb hby at_139) (kk)))) ?_
      show Dn p e below s _ _ _ (T106.setTop (mkF m 140 #[.val (.long p0), .second, .val (.int p1), .val (.int p2), .val (.int p3), .val (.int p4), .val (.int p5), .val (.ref b1), .val (.int v53), .val (.int v61), .val (.int v68), .val (.double v78), .second, .val (.ref b81), .val (.ref bb106), .unset, .unset, .unset, .unset, .unset, .unset] [(.int (2 : Int32)), (.ref b1)]))
      have Vc_b1_140 := V_b1_106
      obtain ⟨cl_b1_140, Ar_b1_140, q_b1_140, S_b1_140, N_b1_140, H_b1_140, G_b1_140⟩ := Vc_b1_140
      have hin140 : ¬ ((2 : Int32) < 0 ∨ cl_b1_140.slots.size ≤ ((2 : Int32)).toNatClampNeg) := inb_of S_b1_140 ⟨by decide, by decide⟩
      have hat140 : cl_b1_140.slots[((2 : Int32)).toNatClampNeg]? = some (.double z28) := H_b1_140.at hin140 rfl
      refine Dn.st (fun _ kk => X106.daload hx (j := (2 : Int32)) (v := (.double z28)) Ar_b1_140.1 (State.isArrayOf_alike hZ.alike Ar_b1_140.2.1) Ar_b1_140.2.2 hin140 hat140 (g := (mkF m 140 #[.val (.long p0), .second, .val (.int p1), .val (.int p2), .val (.int p3), .val (.int p4), .val (.int p5), .val (.ref b1), .val (.int v53), .val (.int v61), .val (.int v68), .val (.double v78), .second, .val (.ref b81), .val (.ref bb106), .unset, .unset, .unset, .unset, .unset, .unset] [(.int (2 : Int32)), (.ref b1)])) rfl rfl (hb hby at_140) _ (XS.dconst0 X106.here hx rfl (hb hby at_141) rfl (XS.dcmpS X106.here hx rfl (hb hby at_142) rfl (DS.cmpV d28 dc_0 _) (kk)))) ?_
      show Dn p e below s _ _ _ (T106.setTop (mkF m 143 #[.val (.long p0), .second, .val (.int p1), .val (.int p2), .val (.int p3), .val (.int p4), .val (.int p5), .val (.ref b1), .val (.int v53), .val (.int v61), .val (.int v68), .val (.double v78), .second, .val (.ref b81), .val (.ref bb106), .unset, .unset, .unset, .unset, .unset, .unset] [(.int (c3 q28 0))]))
      by_cases hc143 : (c3 q28 0) = (0 : Int32)
      · refine Dn.st (fun _ kk => XS.ifYes X106.here hx rfl (pc0 := 143) (pc' := 150) rfl (hb hby at_143) rfl ((if0 _ _).trans (teq hc143).1) (by decide) (by decide) (XS.aload X106.here hx rfl (hb hby at_150) rfl rfl (XS.iconst X106.here hx rfl (hb hby at_152) (kk)))) ?_
        show Dn p e below s _ _ _ (T106.setTop (mkF m 153 #[.val (.long p0), .second, .val (.int p1), .val (.int p2), .val (.int p3), .val (.int p4), .val (.int p5), .val (.ref b1), .val (.int v53), .val (.int v61), .val (.int v68), .val (.double v78), .second, .val (.ref b81), .val (.ref bb106), .unset, .unset, .unset, .unset, .unset, .unset] [(.int (3 : Int32)), (.ref b1)]))
        have Vc_b1_153 := V_b1_106
        obtain ⟨cl_b1_153, Ar_b1_153, q_b1_153, S_b1_153, N_b1_153, H_b1_153, G_b1_153⟩ := Vc_b1_153
        have hin153 : ¬ ((3 : Int32) < 0 ∨ cl_b1_153.slots.size ≤ ((3 : Int32)).toNatClampNeg) := inb_of S_b1_153 ⟨by decide, by decide⟩
        have hat153 : cl_b1_153.slots[((3 : Int32)).toNatClampNeg]? = some (.double z37) := H_b1_153.at hin153 rfl
        refine Dn.st (fun _ kk => X106.daload hx (j := (3 : Int32)) (v := (.double z37)) Ar_b1_153.1 (State.isArrayOf_alike hZ.alike Ar_b1_153.2.1) Ar_b1_153.2.2 hin153 hat153 (g := (mkF m 153 #[.val (.long p0), .second, .val (.int p1), .val (.int p2), .val (.int p3), .val (.int p4), .val (.int p5), .val (.ref b1), .val (.int v53), .val (.int v61), .val (.int v68), .val (.double v78), .second, .val (.ref b81), .val (.ref bb106), .unset, .unset, .unset, .unset, .unset, .unset] [(.int (3 : Int32)), (.ref b1)])) rfl rfl (hb hby at_153) _ (XS.dconst0 X106.here hx rfl (hb hby at_154) rfl (XS.dcmpS X106.here hx rfl (hb hby at_155) rfl (DS.cmpV d37 dc_0 _) (kk)))) ?_
        show Dn p e below s _ _ _ (T106.setTop (mkF m 156 #[.val (.long p0), .second, .val (.int p1), .val (.int p2), .val (.int p3), .val (.int p4), .val (.int p5), .val (.ref b1), .val (.int v53), .val (.int v61), .val (.int v68), .val (.double v78), .second, .val (.ref b81), .val (.ref bb106), .unset, .unset, .unset, .unset, .unset, .unset] [(.int (c3 q37 0))]))
        by_cases hc156 : (c3 q37 0) = (0 : Int32)
        · refine Dn.st (fun _ kk => XS.ifYes X106.here hx rfl (pc0 := 156) (pc' := 163) rfl (hb hby at_156) rfl ((if0 _ _).trans (teq hc156).1) (by decide) (by decide) (XS.aload X106.here hx rfl (hb hby at_163) rfl rfl (XS.iconst X106.here hx rfl (hb hby at_165) (kk)))) ?_
          show Dn p e below s _ _ _ (T106.setTop (mkF m 166 #[.val (.long p0), .second, .val (.int p1), .val (.int p2), .val (.int p3), .val (.int p4), .val (.int p5), .val (.ref b1), .val (.int v53), .val (.int v61), .val (.int v68), .val (.double v78), .second, .val (.ref b81), .val (.ref bb106), .unset, .unset, .unset, .unset, .unset, .unset] [(.int (4 : Int32)), (.ref b1)]))
          have Vc_b1_166 := V_b1_106
          obtain ⟨cl_b1_166, Ar_b1_166, q_b1_166, S_b1_166, N_b1_166, H_b1_166, G_b1_166⟩ := Vc_b1_166
          have hin166 : ¬ ((4 : Int32) < 0 ∨ cl_b1_166.slots.size ≤ ((4 : Int32)).toNatClampNeg) := inb_of S_b1_166 ⟨by decide, by decide⟩
          have hat166 : cl_b1_166.slots[((4 : Int32)).toNatClampNeg]? = some (.double z46) := H_b1_166.at hin166 rfl
          refine Dn.st (fun _ kk => X106.daload hx (j := (4 : Int32)) (v := (.double z46)) Ar_b1_166.1 (State.isArrayOf_alike hZ.alike Ar_b1_166.2.1) Ar_b1_166.2.2 hin166 hat166 (g := (mkF m 166 #[.val (.long p0), .second, .val (.int p1), .val (.int p2), .val (.int p3), .val (.int p4), .val (.int p5), .val (.ref b1), .val (.int v53), .val (.int v61), .val (.int v68), .val (.double v78), .second, .val (.ref b81), .val (.ref bb106), .unset, .unset, .unset, .unset, .unset, .unset] [(.int (4 : Int32)), (.ref b1)])) rfl rfl (hb hby at_166) _ (XS.dconst0 X106.here hx rfl (hb hby at_167) rfl (XS.dcmpS X106.here hx rfl (hb hby at_168) rfl (DS.cmpV d46 dc_0 _) (kk)))) ?_
          show Dn p e below s _ _ _ (T106.setTop (mkF m 169 #[.val (.long p0), .second, .val (.int p1), .val (.int p2), .val (.int p3), .val (.int p4), .val (.int p5), .val (.ref b1), .val (.int v53), .val (.int v61), .val (.int v68), .val (.double v78), .second, .val (.ref b81), .val (.ref bb106), .unset, .unset, .unset, .unset, .unset, .unset] [(.int (c3 q46 0))]))
          by_cases hc169 : (c3 q46 0) = (0 : Int32)
          · refine Dn.st (fun _ kk => XS.ifYes X106.here hx rfl (pc0 := 169) (pc' := 176) rfl (hb hby at_169) rfl ((if0 _ _).trans (teq hc169).1) (by decide) (by decide) (XS.iconst X106.here hx rfl (hb hby at_176) (kk))) ?_
            show Dn p e below s _ _ _ (T106.setTop (mkF m 177 #[.val (.long p0), .second, .val (.int p1), .val (.int p2), .val (.int p3), .val (.int p4), .val (.int p5), .val (.ref b1), .val (.int v53), .val (.int v61), .val (.int v68), .val (.double v78), .second, .val (.ref b81), .val (.ref bb106), .unset, .unset, .unset, .unset, .unset, .unset] [(.int (5 : Int32))]))
            exact J177 (5 : Int32) (by unfold own_low; rw [if_pos ((c3_eq _ _).mp hc117), if_pos ((c3_eq _ _).mp hc130), if_pos ((c3_eq _ _).mp hc143), if_pos ((c3_eq _ _).mp hc156), if_pos ((c3_eq _ _).mp hc169)])
          · refine Dn.st (fun _ kk => XS.ifNo X106.here hx rfl (hb hby at_169) rfl ((if0 _ _).trans (feq hc169).1) (XS.iconst X106.here hx rfl (hb hby at_172) (XS.goto X106.here hx rfl (pc0 := 173) (pc' := 177) rfl (hb hby at_173) (by decide) (by decide) (kk)))) ?_
            show Dn p e below s _ _ _ (T106.setTop (mkF m 177 #[.val (.long p0), .second, .val (.int p1), .val (.int p2), .val (.int p3), .val (.int p4), .val (.int p5), .val (.ref b1), .val (.int v53), .val (.int v61), .val (.int v68), .val (.double v78), .second, .val (.ref b81), .val (.ref bb106), .unset, .unset, .unset, .unset, .unset, .unset] [(.int (4 : Int32))]))
            exact J177 (4 : Int32) (by unfold own_low; rw [if_pos ((c3_eq _ _).mp hc117), if_pos ((c3_eq _ _).mp hc130), if_pos ((c3_eq _ _).mp hc143), if_pos ((c3_eq _ _).mp hc156), if_neg (mt (c3_eq _ _).mpr hc169)])
        · refine Dn.st (fun _ kk => XS.ifNo X106.here hx rfl (hb hby at_156) rfl ((if0 _ _).trans (feq hc156).1) (XS.iconst X106.here hx rfl (hb hby at_159) (XS.goto X106.here hx rfl (pc0 := 160) (pc' := 177) rfl (hb hby at_160) (by decide) (by decide) (kk)))) ?_
          show Dn p e below s _ _ _ (T106.setTop (mkF m 177 #[.val (.long p0), .second, .val (.int p1), .val (.int p2), .val (.int p3), .val (.int p4), .val (.int p5), .val (.ref b1), .val (.int v53), .val (.int v61), .val (.int v68), .val (.double v78), .second, .val (.ref b81), .val (.ref bb106), .unset, .unset, .unset, .unset, .unset, .unset] [(.int (3 : Int32))]))
          exact J177 (3 : Int32) (by unfold own_low; rw [if_pos ((c3_eq _ _).mp hc117), if_pos ((c3_eq _ _).mp hc130), if_pos ((c3_eq _ _).mp hc143), if_neg (mt (c3_eq _ _).mpr hc156)])
      · refine Dn.st (fun _ kk => XS.ifNo X106.here hx rfl (hb hby at_143) rfl ((if0 _ _).trans (feq hc143).1) (XS.iconst X106.here hx rfl (hb hby at_146) (XS.goto X106.here hx rfl (pc0 := 147) (pc' := 177) rfl (hb hby at_147) (by decide) (by decide) (kk)))) ?_
        show Dn p e below s _ _ _ (T106.setTop (mkF m 177 #[.val (.long p0), .second, .val (.int p1), .val (.int p2), .val (.int p3), .val (.int p4), .val (.int p5), .val (.ref b1), .val (.int v53), .val (.int v61), .val (.int v68), .val (.double v78), .second, .val (.ref b81), .val (.ref bb106), .unset, .unset, .unset, .unset, .unset, .unset] [(.int (2 : Int32))]))
        exact J177 (2 : Int32) (by unfold own_low; rw [if_pos ((c3_eq _ _).mp hc117), if_pos ((c3_eq _ _).mp hc130), if_neg (mt (c3_eq _ _).mpr hc143)])
    · refine Dn.st (fun _ kk => XS.ifNo X106.here hx rfl (hb hby at_130) rfl ((if0 _ _).trans (feq hc130).1) (XS.iconst X106.here hx rfl (hb hby at_133) (XS.goto X106.here hx rfl (pc0 := 134) (pc' := 177) rfl (hb hby at_134) (by decide) (by decide) (kk)))) ?_
      show Dn p e below s _ _ _ (T106.setTop (mkF m 177 #[.val (.long p0), .second, .val (.int p1), .val (.int p2), .val (.int p3), .val (.int p4), .val (.int p5), .val (.ref b1), .val (.int v53), .val (.int v61), .val (.int v68), .val (.double v78), .second, .val (.ref b81), .val (.ref bb106), .unset, .unset, .unset, .unset, .unset, .unset] [(.int (1 : Int32))]))
      exact J177 (1 : Int32) (by unfold own_low; rw [if_pos ((c3_eq _ _).mp hc117), if_neg (mt (c3_eq _ _).mpr hc130)])
  · refine Dn.st (fun _ kk => XS.ifNo X106.here hx rfl (hb hby at_117) rfl ((if0 _ _).trans (feq hc117).1) (XS.iconst X106.here hx rfl (hb hby at_120) (XS.goto X106.here hx rfl (pc0 := 121) (pc' := 177) rfl (hb hby at_121) (by decide) (by decide) (kk)))) ?_
    show Dn p e below s _ _ _ (T106.setTop (mkF m 177 #[.val (.long p0), .second, .val (.int p1), .val (.int p2), .val (.int p3), .val (.int p4), .val (.int p5), .val (.ref b1), .val (.int v53), .val (.int v61), .val (.int v68), .val (.double v78), .second, .val (.ref b81), .val (.ref bb106), .unset, .unset, .unset, .unset, .unset, .unset] [(.int (0 : Int32))]))
    exact J177 (0 : Int32) (by unfold own_low; rw [if_neg (mt (c3_eq _ _).mpr hc117)])

set_option maxRecDepth 65536 in
set_option maxHeartbeats 40000000 in
theorem comes_1 {Post : Tables → Env → Array Value → State → Outcome → State → Prop} (hpost : ∀ tb e args s v u, (limb_1_1.after args s (.returned v) u = true ∧ limb_1_2.after args s (.returned v) u = true ∧ True) → FrameEnd s (.returned v) u (Jvm.fieldLocs frame_1_writes args s ++ Jvm.arrayLocs frame_1_arrays args s ++ Jvm.staticLocs frame_1_statics s) 24 128 → Post tb e args s (.returned v) u) :
    ArmFor flags0 classFile x code maxLocals ret World_1 tables_1 room_1 Calls_1 rest_1 Pre_1 Post := by
  intro l hfl _ _ p e ha hc hk s m args below hf hA hF happ hP
  obtain ⟨hcalls, hrest, hpre⟩ := hP
  obtain ⟨-, -, -, hnamed, -, -, -, hat⟩ := (Spec.applies_iff hf).mp happ
  obtain ⟨hg, hn⟩ := and_e (Cond.before_iff.mp (show (Jvm.Cond.and given_1 narrow_1).before args s = true from hpre))
  obtain ⟨g1a, g1b⟩ := and_e hg
  obtain ⟨g2a, g2b⟩ := and_e g1b
  obtain ⟨g3a, g3b⟩ := and_e g2b
  obtain ⟨g4a, g4b⟩ := and_e g3b
  obtain ⟨g5a, g5b⟩ := and_e g4b
  obtain ⟨g6a, g6b⟩ := and_e g5b
  obtain ⟨w0, w1, w2, w3, w4, w5, rfl⟩ : ∃ w0 w1 w2 w3 w4 w5 : Value, args = #[w0, w1, w2, w3, w4, w5] := by
    have hs : args.size = 6 := by simpa [Cond.value, given_1] using g1a
    obtain ⟨L⟩ := args
    match L, hs with
    | [w0, w1, w2, w3, w4, w5], _ => exact ⟨w0, w1, w2, w3, w4, w5, rfl⟩
  have hw := fun d (hd : d ∈ tables_1) => atoms_spec (ws := Jvm.Cond.code x code maxLocals ret :: tables_1) hat d (List.mem_cons_of_mem _ hd)
  have hfit : Fit s := fun {y c} hc i hi => by
    obtain ⟨ha, rfl⟩ := Array.getElem?_eq_some_iff.mp hc
    have q := List.all_eq_true.mp ((Array.all_eq_true_iff_forall_mem.mp hF) _ (Array.getElem_mem ha)) i (List.mem_range.mpr hi)
    simpa [Array.getElem?_eq_getElem hi] using q
  obtain ⟨hsets, hown0⟩ := atoms_of _ (rest_1_c_eq ▸ (show rest_1_c.before _ s = true from hrest))
  have hr0 := Cond.before_iff.mp hown0
  obtain ⟨i0, ei0⟩ := isL_v g2a
  obtain rfl : w0 = (.long i0) := Option.some.inj ei0
  obtain ⟨i1, ei1⟩ := is_v g3a
  obtain rfl : w1 = (.int i1) := Option.some.inj ei1
  obtain ⟨i2, ei2⟩ := is_v g4a
  obtain rfl : w2 = (.int i2) := Option.some.inj ei2
  obtain ⟨i3, ei3⟩ := is_v g5a
  obtain rfl : w3 = (.int i3) := Option.some.inj ei3
  obtain ⟨i4, ei4⟩ := is_v g6a
  obtain rfl : w4 = (.int i4) := Option.some.inj ei4
  obtain ⟨i5, ei5⟩ := is_v g6b
  obtain rfl : w5 = (.int i5) := Option.some.inj ei5
  obtain ⟨a_E, v_E⟩ := exa_v (Cond.before_iff.mp (hsets _ (List.mem_of_getElem? (i := 2) rfl)))
  have S_E := Sta.start v_E (Or.inr ⟨(hw _ (List.mem_of_getElem? (i := 25) rfl)), hsets _ (List.mem_of_getElem? (i := 0) rfl)⟩)
  obtain ⟨n, o, h1, h2, h3, _, L, rfl, ⟨rfl, N⟩, hq⟩ := rm0 l s _ hw tables_1 i0 i1 i2 i3 i4 i5 a_E s.heap s.heap.size (Nat.le_refl _) S_E p e ha hc hk s m _ below hf ((Spec.applies_iff_loose hf).mp happ).1 ⟨rfl, State.Warmed39.refl s, rfl⟩ trivial
  refine ⟨n, _, h1, h2, h3, hpost _ _ _ _ _ _ ⟨Cond.after_iff.mpr rfl, Cond.after_iff.mpr (eq_i res_at (Term.int_eval (1)) rfl), trivial⟩ ⟨hq.1, hq.2.1, (hq.2.2.sift fun y hy => Or.inr (N y hy)).mono (by decide) (by decide)⟩⟩
theorem main_1_1 : Claimed_1_1 := comes_1 fun _ _ _ _ _ _ h hF => ⟨h.1, hF⟩
theorem main_1_2 : Claimed_1_2 := comes_1 fun _ _ _ _ _ _ h hF => ⟨h.2.1, hF⟩
end Jvm.Pilot.@@N@@
namespace Jvm.Pilot.@@N@@
open Jvm Jvm.ClassFile Sem Op Lib Jvm.Free Jvm.Stand Jvm.Pilot.@@N@@.Jvm.D
/-! MADE BY PROGRAM (witnessworld.py) out of the Statement's table words and the real class files: 21 classes; the members and pool entries that the words name. The judged class is class 1, her method 2. -/
namespace start1
open Jvm.ClassFile
def u (s : String) : CpInfo := .utf8 (stringToUtf16 s)
/-- a pool by its gaps: so many unusable entries, then the entry; so many at the end -/
def gap : Nat → List CpInfo → List CpInfo
  | 0, r => r
  | n + 1, r => .unusable :: gap n r
def poolList (es : List (Nat × CpInfo)) (last : Nat) : List CpInfo := es.foldr (fun e r => gap e.1 (e.2 :: r)) (gap last [])
def pool (es : List (Nat × CpInfo)) (last : Nat) : Array CpInfo := ⟨poolList es last⟩
def fileOf (pool : Array CpInfo) (this : Nat) (attrs : Array Attribute := #[]) (ms : Array MethodInfo := #[]) (fl : Nat := 33) (sup : Nat := 0) (ifs : Array Nat := #[]) (fds : Array FieldInfo := #[]) : ClassFile where
  minorVersion := 0
  majorVersion := 65
  constantPool := pool
  accessFlags := fl
  thisClass := this
  superClass := sup
  interfaces := ifs
  fields := fds
  methods := ms
  attributes := attrs
def plain (name : String) (sup : Option ClassId) : Class where
  name := name
  kind := .ordinary
  loader := none
  accessFlags := 33
  super := sup
  interfaces := #[]
  cf := none
  fields := #[]
  methods := #[]
  instanceTypes := #[]
  staticTypes := #[]
  resolved := #[]
  callSites := []
  init := .initialized
  statics := none
  mirror := none

def pool0 : Array CpInfo := pool [(5, u "<init>"), (0, u "()V"), (1, .class_ 10), (1, u "java/lang/Object"), (85, u "clone"), (0, u "()Ljava/lang/Object;")] 26

def k0c0 : Code := { maxStack := 0, maxLocals := 1, code := object_method_1_code, exceptionTable := #[], attributes := #[] }
def k0m0 : Method := { name := "<init>", desc := "()V", sig := { parameters := [], returnType := none }, accessFlags := 1, code := some k0c0 }
def k0m1 : Method := { name := "clone", desc := "()Ljava/lang/Object;", sig := { parameters := [], returnType := some (.object "java/lang/Object") }, accessFlags := 260, code := none }
/-- java/lang/Object -/
def k0 : Class := { plain "java/lang/Object" none with
  accessFlags := 33
  interfaces := #[]
  cf := some (fileOf pool0 8 #[] #[{ accessFlags := 1, nameIndex := 5, descriptorIndex := 6, attributes := #[] }, { accessFlags := 260, nameIndex := 96, descriptorIndex := 97, attributes := #[] }] 33 0 #[] #[])
  fields := #[]
  methods := #[k0m0, k0m1]
  instanceTypes := #[]
  staticTypes := #[]
  resolved := Array.replicate 124 none
  statics := none }

def pool1 : Array CpInfo := pool [(2, .class_ 4), (1, u "java/lang/Object"), (0, u "<init>"), (0, u "()V"), (0, .long 3), (1, .methodref 10 11), (0, .class_ 12), (0, .nameAndType 13 14), (0, u "com/example/tieline/tieline/wavelet/RegistrationReachPinLaw"), (0, u "v"), (0, u "(JI)D"), (0, .integer 1048576), (0, .integer 1048575), (0, .class_ 18), (0, u "com/example/tieline/tieline/wavelet/Registration"), (0, .methodref 17 20), (0, .nameAndType 5 21), (0, u "([DIIDDD)V"), (0, .methodref 17 23), (0, .nameAndType 24 25), (0, u "reach"), (0, u "(I)[D"), (0, .long 25), (3, u "law"), (0, u "(JIIIII)Z")] 5

def k1m0 : Method := { name := "<init>", desc := "()V", sig := { parameters := [], returnType := none }, accessFlags := 1, code := none }
def k1c1 : Code := { maxStack := 4, maxLocals := 3, code := method_2_code, exceptionTable := #[], attributes := #[] }
def k1m1 : Method := { name := "v", desc := "(JI)D", sig := { parameters := [.long, .int], returnType := some .double }, accessFlags := 10, code := some k1c1 }
def k1c2 : Code := { maxStack := 11, maxLocals := 21, code := code, exceptionTable := #[], attributes := #[] }
def k1m2 : Method := { name := "law", desc := "(JIIIII)Z", sig := { parameters := [.long, .int, .int, .int, .int, .int], returnType := some .boolean }, accessFlags := 9, code := some k1c2 }
/-- com/example/tieline/tieline/wavelet/RegistrationReachPinLaw -/
def k1 : Class := { plain "com/example/tieline/tieline/wavelet/RegistrationReachPinLaw" (some 0) with
  accessFlags := 49
  interfaces := #[]
  cf := some (fileOf pool1 10 #[] #[{ accessFlags := 1, nameIndex := 5, descriptorIndex := 6, attributes := #[] }, { accessFlags := 10, nameIndex := 13, descriptorIndex := 14, attributes := #[] }, { accessFlags := 9, nameIndex := 30, descriptorIndex := 31, attributes := #[] }] 49 2 #[] #[])
  fields := #[]
  methods := #[k1m0, k1m1, k1m2]
  instanceTypes := #[]
  staticTypes := #[]
  resolved := Array.replicate 37 none
  statics := none }

def pool2 : Array CpInfo := pool [(1, .methodref 2 3), (0, .class_ 4), (0, .nameAndType 5 6), (0, u "[D"), (0, u "clone"), (0, u "()Ljava/lang/Object;"), (0, .methodref 8 9), (0, .class_ 10), (0, .nameAndType 11 12), (0, u "java/util/Optional"), (0, u "empty"), (0, u "()Ljava/util/Optional;"), (0, .class_ 14), (0, u "com/example/tieline/tieline/wavelet/Registration$ShiftPrior"), (0, .methodref 13 16), (0, .nameAndType 17 18), (0, u "<init>"), (0, u "(DD)V"), (0, .methodref 8 20), (0, .nameAndType 21 22), (0, u "of"), (0, u "(Ljava/lang/Object;)Ljava/util/Optional;"), (0, .methodref 24 25), (0, .class_ 26), (0, .nameAndType 17 27), (0, u "com/example/tieline/tieline/wavelet/Registration"), (0, u "([DLjava/util/Optional;IIDLjava/util/Optional;)V"), (4, u "reflectivity"), (11, .methodref 45 46), (0, .class_ 47), (0, .nameAndType 17 48), (0, u "java/lang/Object"), (0, u "()V"), (0, .methodref 8 50), (0, .nameAndType 51 52), (0, u "isEmpty"), (0, u "()Z"), (0, .methodref 8 54), (0, .nameAndType 55 6), (0, u "get"), (0, .methodref 13 57), (0, .nameAndType 58 59), (0, u "meanMs"), (0, u "()D"), (0, .methodref 61 62), (0, .class_ 63), (0, .nameAndType 64 65), (0, u "java/lang/Double"), (0, u "isFinite"), (0, u "(D)Z"), (0, .methodref 13 67), (0, .nameAndType 68 59), (0, u "sdMs"), (15, .fieldref 24 85), (0, .nameAndType 32 4), (0, .fieldref 24 87), (0, .nameAndType 88 89), (0, u "levels"), (0, u "Ljava/util/Optional;"), (0, .fieldref 24 91), (0, .nameAndType 92 93), (0, u "first"), (0, u "I"), (0, .fieldref 24 95), (0, .nameAndType 96 93), (0, u "count"), (0, .fieldref 24 98), (0, .nameAndType 99 100), (0, u "intervalMs"), (0, u "D"), (0, .fieldref 24 102), (0, .nameAndType 103 89), (0, u "shift"), (0, .fieldref 24 105), (0, .nameAndType 106 93), (0, u "lowest"), (0, .fieldref 24 108), (0, .nameAndType 109 93), (0, u "highest"), (38, .class_ 150), (1, u "com/example/tieline/tieline/wavelet/Registration$Placement"), (89, u "([DIIDDD)V"), (18, u "reach"), (0, u "(I)[D"), (7, .class_ 269), (0, u "com/example/tieline/tieline/wavelet/Registration$Derivatives")] 18

def k2c0 : Code := { maxStack := 13, maxLocals := 10, code := prog_38_method_1_code, exceptionTable := #[], attributes := #[] }
def k2m0 : Method := { name := "<init>", desc := "([DIIDDD)V", sig := { parameters := [(.array .double), .int, .int, .double, .double, .double], returnType := none }, accessFlags := 1, code := some k2c0 }
def k2c1 : Code := { maxStack := 8, maxLocals := 11, code := prog_38_method_3_code, exceptionTable := #[], attributes := #[] }
def k2m1 : Method := { name := "<init>", desc := "([DLjava/util/Optional;IIDLjava/util/Optional;)V", sig := { parameters := [(.array .double), (.object "java/util/Optional"), .int, .int, .double, (.object "java/util/Optional")], returnType := none }, accessFlags := 2, code := some k2c1 }
def k2c2 : Code := { maxStack := 7, maxLocals := 3, code := prog_38_method_23_code, exceptionTable := #[], attributes := #[] }
def k2m2 : Method := { name := "reach", desc := "(I)[D", sig := { parameters := [.int], returnType := some (.array .double) }, accessFlags := 0, code := some k2c2 }
/-- com/example/tieline/tieline/wavelet/Registration -/
def k2 : Class := { plain "com/example/tieline/tieline/wavelet/Registration" (some 0) with
  accessFlags := 49
  interfaces := #[]
  cf := some (fileOf pool2 24 #[.nestMembers #[148, 268, 13]] #[{ accessFlags := 1, nameIndex := 17, descriptorIndex := 240, attributes := #[] }, { accessFlags := 2, nameIndex := 17, descriptorIndex := 27, attributes := #[] }, { accessFlags := 0, nameIndex := 259, descriptorIndex := 260, attributes := #[] }] 49 45 #[] #[{ accessFlags := 18, nameIndex := 32, descriptorIndex := 4, attributes := #[] }, { accessFlags := 18, nameIndex := 88, descriptorIndex := 89, attributes := #[] }, { accessFlags := 18, nameIndex := 92, descriptorIndex := 93, attributes := #[] }, { accessFlags := 18, nameIndex := 96, descriptorIndex := 93, attributes := #[] }, { accessFlags := 18, nameIndex := 99, descriptorIndex := 100, attributes := #[] }, { accessFlags := 18, nameIndex := 103, descriptorIndex := 89, attributes := #[] }, { accessFlags := 18, nameIndex := 106, descriptorIndex := 93, attributes := #[] }, { accessFlags := 18, nameIndex := 109, descriptorIndex := 93, attributes := #[] }])
  fields := #[{ name := "reflectivity", type := (.array .double), accessFlags := 18, slot := 0, constantValue := 0 }, { name := "levels", type := (.object "java/util/Optional"), accessFlags := 18, slot := 1, constantValue := 0 }, { name := "first", type := .int, accessFlags := 18, slot := 2, constantValue := 0 }, { name := "count", type := .int, accessFlags := 18, slot := 3, constantValue := 0 }, { name := "intervalMs", type := .double, accessFlags := 18, slot := 4, constantValue := 0 }, { name := "shift", type := (.object "java/util/Optional"), accessFlags := 18, slot := 5, constantValue := 0 }, { name := "lowest", type := .int, accessFlags := 18, slot := 6, constantValue := 0 }, { name := "highest", type := .int, accessFlags := 18, slot := 7, constantValue := 0 }]
  methods := #[k2m0, k2m1, k2m2]
  instanceTypes := #[(.array .double), (.object "java/util/Optional"), .int, .int, .double, (.object "java/util/Optional"), .int, .int]
  staticTypes := #[]
  resolved := Array.replicate 288 none
  statics := none }

def pool3 : Array CpInfo := pool [(1, .class_ 2), (0, u "java/lang/Cloneable"), (0, .class_ 4), (0, u "java/lang/Object")] 2

/-- java/lang/Cloneable -/
def k3 : Class := { plain "java/lang/Cloneable" (some 0) with
  accessFlags := 1537
  interfaces := #[]
  cf := some (fileOf pool3 1 #[] #[] 1537 3 #[] #[])
  fields := #[]
  methods := #[]
  instanceTypes := #[]
  staticTypes := #[]
  resolved := Array.replicate 7 none
  statics := none }

def pool4 : Array CpInfo := pool [(1, .fieldref 2 3), (0, .class_ 4), (0, .nameAndType 5 6), (0, u "java/util/Optional"), (0, u "EMPTY"), (0, u "Ljava/util/Optional;"), (0, .methodref 8 9), (0, .class_ 10), (0, .nameAndType 11 12), (0, u "java/lang/Object"), (0, u "<init>"), (0, u "()V"), (0, .fieldref 2 14), (0, .nameAndType 15 16), (0, u "value"), (0, u "Ljava/lang/Object;"), (0, .methodref 18 19), (0, .class_ 20), (0, .nameAndType 21 22), (0, u "java/util/Objects"), (0, u "requireNonNull"), (0, u "(Ljava/lang/Object;)Ljava/lang/Object;"), (0, .methodref 2 24), (0, .nameAndType 11 25), (0, u "(Ljava/lang/Object;)V"), (19, u "isEmpty"), (0, u "()Z"), (8, u "empty"), (0, u "()Ljava/util/Optional;"), (8, u "(Ljava/lang/Object;)Ljava/util/Optional;"), (7, u "get"), (0, u "()Ljava/lang/Object;"), (7, u "of")] 104

def k4c0 : Code := { maxStack := 1, maxLocals := 1, code := jdk_32_method_1_code, exceptionTable := #[], attributes := #[] }
def k4m0 : Method := { name := "empty", desc := "()Ljava/util/Optional;", sig := { parameters := [], returnType := some (.object "java/util/Optional") }, accessFlags := 9, code := some k4c0 }
def k4c1 : Code := { maxStack := 2, maxLocals := 2, code := jdk_32_method_2_code, exceptionTable := #[], attributes := #[] }
def k4m1 : Method := { name := "<init>", desc := "(Ljava/lang/Object;)V", sig := { parameters := [(.object "java/lang/Object")], returnType := none }, accessFlags := 2, code := some k4c1 }
def k4c2 : Code := { maxStack := 3, maxLocals := 1, code := jdk_32_method_3_code, exceptionTable := #[], attributes := #[] }
def k4m2 : Method := { name := "of", desc := "(Ljava/lang/Object;)Ljava/util/Optional;", sig := { parameters := [(.object "java/lang/Object")], returnType := some (.object "java/util/Optional") }, accessFlags := 9, code := some k4c2 }
def k4c3 : Code := { maxStack := 3, maxLocals := 1, code := jdk_32_method_5_code, exceptionTable := #[], attributes := #[] }
def k4m3 : Method := { name := "get", desc := "()Ljava/lang/Object;", sig := { parameters := [], returnType := some (.object "java/lang/Object") }, accessFlags := 1, code := some k4c3 }
def k4c4 : Code := { maxStack := 1, maxLocals := 1, code := jdk_32_method_7_code, exceptionTable := #[], attributes := #[] }
def k4m4 : Method := { name := "isEmpty", desc := "()Z", sig := { parameters := [], returnType := some .boolean }, accessFlags := 1, code := some k4c4 }
/-- java/util/Optional -/
def k4 : Class := { plain "java/util/Optional" (some 0) with
  accessFlags := 49
  interfaces := #[]
  cf := some (fileOf pool4 2 #[] #[{ accessFlags := 9, nameIndex := 55, descriptorIndex := 56, attributes := #[] }, { accessFlags := 2, nameIndex := 11, descriptorIndex := 25, attributes := #[] }, { accessFlags := 9, nameIndex := 82, descriptorIndex := 65, attributes := #[] }, { accessFlags := 1, nameIndex := 73, descriptorIndex := 74, attributes := #[] }, { accessFlags := 1, nameIndex := 45, descriptorIndex := 46, attributes := #[] }] 49 8 #[] #[{ accessFlags := 26, nameIndex := 5, descriptorIndex := 6, attributes := #[] }, { accessFlags := 18, nameIndex := 15, descriptorIndex := 16, attributes := #[] }])
  fields := #[{ name := "EMPTY", type := (.object "java/util/Optional"), accessFlags := 26, slot := 0, constantValue := 0 }, { name := "value", type := (.object "java/lang/Object"), accessFlags := 18, slot := 0, constantValue := 0 }]
  methods := #[k4m0, k4m1, k4m2, k4m3, k4m4]
  instanceTypes := #[(.object "java/lang/Object")]
  staticTypes := #[(.object "java/util/Optional")]
  resolved := Array.replicate 187 none
  statics := some 0 }

def pool5 : Array CpInfo := pool [(1, .methodref 2 3), (0, .class_ 4), (0, .nameAndType 5 6), (0, u "java/lang/Object"), (0, u "<init>"), (0, u "()V"), (0, .class_ 8), (0, u "java/lang/Record")] 13

def k5c0 : Code := { maxStack := 1, maxLocals := 1, code := jdk_30_method_1_code, exceptionTable := #[], attributes := #[] }
def k5m0 : Method := { name := "<init>", desc := "()V", sig := { parameters := [], returnType := none }, accessFlags := 4, code := some k5c0 }
/-- java/lang/Record -/
def k5 : Class := { plain "java/lang/Record" (some 0) with
  accessFlags := 1057
  interfaces := #[]
  cf := some (fileOf pool5 7 #[] #[{ accessFlags := 4, nameIndex := 5, descriptorIndex := 6, attributes := #[] }] 1057 2 #[] #[])
  fields := #[]
  methods := #[k5m0]
  instanceTypes := #[]
  staticTypes := #[]
  resolved := Array.replicate 22 none
  statics := none }

def pool6 : Array CpInfo := pool [(1, .methodref 2 3), (0, .class_ 4), (0, .nameAndType 5 6), (0, u "java/lang/Record"), (0, u "<init>"), (0, u "()V"), (0, .fieldref 8 9), (0, .class_ 10), (0, .nameAndType 11 12), (0, u "com/example/tieline/tieline/wavelet/Registration$ShiftPrior"), (0, u "meanMs"), (0, u "D"), (0, .fieldref 8 14), (0, .nameAndType 15 12), (0, u "sdMs"), (12, u "(DD)V"), (6, u "()D"), (3, .class_ 40), (0, u "com/example/tieline/tieline/wavelet/Registration")] 20

def k6c0 : Code := { maxStack := 3, maxLocals := 5, code := prog_41_method_1_code, exceptionTable := #[], attributes := #[] }
def k6m0 : Method := { name := "<init>", desc := "(DD)V", sig := { parameters := [.double, .double], returnType := none }, accessFlags := 1, code := some k6c0 }
def k6c1 : Code := { maxStack := 2, maxLocals := 1, code := prog_41_method_5_code, exceptionTable := #[], attributes := #[] }
def k6m1 : Method := { name := "meanMs", desc := "()D", sig := { parameters := [], returnType := some .double }, accessFlags := 1, code := some k6c1 }
def k6c2 : Code := { maxStack := 2, maxLocals := 1, code := prog_41_method_6_code, exceptionTable := #[], attributes := #[] }
def k6m2 : Method := { name := "sdMs", desc := "()D", sig := { parameters := [], returnType := some .double }, accessFlags := 1, code := some k6c2 }
/-- com/example/tieline/tieline/wavelet/Registration$ShiftPrior -/
def k6 : Class := { plain "com/example/tieline/tieline/wavelet/Registration$ShiftPrior" (some 5) with
  accessFlags := 49
  interfaces := #[]
  cf := some (fileOf pool6 8 #[.nestHost 39] #[{ accessFlags := 1, nameIndex := 5, descriptorIndex := 28, attributes := #[] }, { accessFlags := 1, nameIndex := 11, descriptorIndex := 35, attributes := #[] }, { accessFlags := 1, nameIndex := 15, descriptorIndex := 35, attributes := #[] }] 49 2 #[] #[{ accessFlags := 18, nameIndex := 11, descriptorIndex := 12, attributes := #[] }, { accessFlags := 18, nameIndex := 15, descriptorIndex := 12, attributes := #[] }])
  fields := #[{ name := "meanMs", type := .double, accessFlags := 18, slot := 0, constantValue := 0 }, { name := "sdMs", type := .double, accessFlags := 18, slot := 1, constantValue := 0 }]
  methods := #[k6m0, k6m1, k6m2]
  instanceTypes := #[.double, .double]
  staticTypes := #[]
  resolved := Array.replicate 61 none
  statics := none }

def pool7 : Array CpInfo := pool [(2, .class_ 4), (1, u "java/lang/Object"), (0, u "<init>"), (0, u "()V"), (35, .class_ 44), (1, u "java/util/Objects"), (0, u "requireNonNull"), (0, u "(Ljava/lang/Object;)Ljava/lang/Object;")] 137

def k7m0 : Method := { name := "<init>", desc := "()V", sig := { parameters := [], returnType := none }, accessFlags := 2, code := none }
def k7c1 : Code := { maxStack := 2, maxLocals := 1, code := jdk_31_method_10_code, exceptionTable := #[], attributes := #[] }
def k7m1 : Method := { name := "requireNonNull", desc := "(Ljava/lang/Object;)Ljava/lang/Object;", sig := { parameters := [(.object "java/lang/Object")], returnType := some (.object "java/lang/Object") }, accessFlags := 9, code := some k7c1 }
/-- java/util/Objects -/
def k7 : Class := { plain "java/util/Objects" (some 0) with
  accessFlags := 49
  interfaces := #[]
  cf := some (fileOf pool7 42 #[] #[{ accessFlags := 2, nameIndex := 5, descriptorIndex := 6, attributes := #[] }, { accessFlags := 9, nameIndex := 45, descriptorIndex := 46, attributes := #[] }] 49 2 #[] #[])
  fields := #[]
  methods := #[k7m0, k7m1]
  instanceTypes := #[]
  staticTypes := #[]
  resolved := Array.replicate 184 none
  statics := none }

def pool8 : Array CpInfo := pool [(1, .class_ 2), (0, u "java/io/Serializable"), (0, .class_ 4), (0, u "java/lang/Object")] 2

/-- java/io/Serializable -/
def k8 : Class := { plain "java/io/Serializable" (some 0) with
  accessFlags := 1537
  interfaces := #[]
  cf := some (fileOf pool8 1 #[] #[] 1537 3 #[] #[])
  fields := #[]
  methods := #[]
  instanceTypes := #[]
  staticTypes := #[]
  resolved := Array.replicate 7 none
  statics := none }

def pool9 : Array CpInfo := pool [(2, .class_ 4), (1, u "java/lang/Object"), (0, u "<init>"), (0, u "()V"), (1, .class_ 10), (1, u "java/lang/Number"), (2, .class_ 14), (0, u "java/io/Serializable"), (0, u "serialVersionUID"), (0, u "J")] 20

def k9m0 : Method := { name := "<init>", desc := "()V", sig := { parameters := [], returnType := none }, accessFlags := 1, code := none }
/-- java/lang/Number -/
def k9 : Class := { plain "java/lang/Number" (some 0) with
  accessFlags := 1057
  interfaces := #[8]
  cf := some (fileOf pool9 8 #[] #[{ accessFlags := 1, nameIndex := 5, descriptorIndex := 6, attributes := #[] }] 1057 2 #[13] #[{ accessFlags := 26, nameIndex := 15, descriptorIndex := 16, attributes := #[] }])
  fields := #[{ name := "serialVersionUID", type := .long, accessFlags := 26, slot := 0, constantValue := 0 }]
  methods := #[k9m0]
  instanceTypes := #[]
  staticTypes := #[.long]
  resolved := Array.replicate 37 none
  statics := none }

def pool10 : Array CpInfo := pool [(1, .class_ 2), (0, u "java/lang/Comparable"), (0, .class_ 4), (0, u "java/lang/Object")] 7

/-- java/lang/Comparable -/
def k10 : Class := { plain "java/lang/Comparable" (some 0) with
  accessFlags := 1537
  interfaces := #[]
  cf := some (fileOf pool10 1 #[] #[] 1537 3 #[] #[])
  fields := #[]
  methods := #[]
  instanceTypes := #[]
  staticTypes := #[]
  resolved := Array.replicate 12 none
  statics := none }

def pool11 : Array CpInfo := pool [(1, .class_ 2), (0, u "java/lang/constant/Constable"), (0, .class_ 4), (0, u "java/lang/Object")] 6

/-- java/lang/constant/Constable -/
def k11 : Class := { plain "java/lang/constant/Constable" (some 0) with
  accessFlags := 1537
  interfaces := #[]
  cf := some (fileOf pool11 1 #[] #[] 1537 3 #[] #[])
  fields := #[]
  methods := #[]
  instanceTypes := #[]
  staticTypes := #[]
  resolved := Array.replicate 11 none
  statics := none }

def pool12 : Array CpInfo := pool [(1, .class_ 2), (0, u "java/lang/constant/ConstantDesc"), (0, .class_ 4), (0, u "java/lang/Object")] 32

/-- java/lang/constant/ConstantDesc -/
def k12 : Class := { plain "java/lang/constant/ConstantDesc" (some 0) with
  accessFlags := 1537
  interfaces := #[]
  cf := some (fileOf pool12 1 #[] #[] 1537 3 #[] #[])
  fields := #[]
  methods := #[]
  instanceTypes := #[]
  staticTypes := #[]
  resolved := Array.replicate 37 none
  statics := none }

def pool13 : Array CpInfo := pool [(1, .class_ 2), (0, u "java/lang/Double"), (10, u "isFinite"), (0, u "(D)Z"), (8, .class_ 25), (1, u "java/lang/Math"), (12, .methodref 23 39), (0, .nameAndType 40 41), (0, u "abs"), (0, u "(D)D"), (69, .double 9218868437227405311), (2, .class_ 116), (1, u "java/lang/Number"), (3, u "value"), (0, u "D"), (51, u "TYPE"), (0, u "Ljava/lang/Class;"), (0, .class_ 176), (0, u "java/lang/Comparable"), (0, .class_ 178), (0, u "java/lang/constant/Constable"), (0, .class_ 180), (0, u "java/lang/constant/ConstantDesc"), (0, u "POSITIVE_INFINITY"), (3, u "NEGATIVE_INFINITY"), (2, u "NaN"), (2, u "MAX_VALUE"), (0, u "MIN_NORMAL"), (0, u "MIN_VALUE"), (2, u "SIZE"), (0, u "I"), (1, u "PRECISION"), (1, u "MAX_EXPONENT"), (1, u "MIN_EXPONENT"), (1, u "BYTES"), (3, u "serialVersionUID"), (0, u "J")] 79

def k13c0 : Code := { maxStack := 4, maxLocals := 2, code := jdk_117_method_8_code, exceptionTable := #[], attributes := #[] }
def k13m0 : Method := { name := "isFinite", desc := "(D)Z", sig := { parameters := [.double], returnType := some .boolean }, accessFlags := 9, code := some k13c0 }
/-- java/lang/Double -/
def k13 : Class := { plain "java/lang/Double" (some 9) with
  accessFlags := 49
  interfaces := #[10, 11, 12]
  cf := some (fileOf pool13 1 #[] #[{ accessFlags := 9, nameIndex := 13, descriptorIndex := 14, attributes := #[] }] 49 114 #[175, 177, 179] #[{ accessFlags := 25, nameIndex := 181, descriptorIndex := 121, attributes := #[] }, { accessFlags := 25, nameIndex := 185, descriptorIndex := 121, attributes := #[] }, { accessFlags := 25, nameIndex := 188, descriptorIndex := 121, attributes := #[] }, { accessFlags := 25, nameIndex := 191, descriptorIndex := 121, attributes := #[] }, { accessFlags := 25, nameIndex := 192, descriptorIndex := 121, attributes := #[] }, { accessFlags := 25, nameIndex := 193, descriptorIndex := 121, attributes := #[] }, { accessFlags := 25, nameIndex := 196, descriptorIndex := 197, attributes := #[] }, { accessFlags := 25, nameIndex := 199, descriptorIndex := 197, attributes := #[] }, { accessFlags := 25, nameIndex := 201, descriptorIndex := 197, attributes := #[] }, { accessFlags := 25, nameIndex := 203, descriptorIndex := 197, attributes := #[] }, { accessFlags := 25, nameIndex := 205, descriptorIndex := 197, attributes := #[] }, { accessFlags := 25, nameIndex := 173, descriptorIndex := 174, attributes := #[] }, { accessFlags := 18, nameIndex := 120, descriptorIndex := 121, attributes := #[] }, { accessFlags := 26, nameIndex := 209, descriptorIndex := 210, attributes := #[] }])
  fields := #[{ name := "POSITIVE_INFINITY", type := .double, accessFlags := 25, slot := 0, constantValue := 0 }, { name := "NEGATIVE_INFINITY", type := .double, accessFlags := 25, slot := 1, constantValue := 0 }, { name := "NaN", type := .double, accessFlags := 25, slot := 2, constantValue := 0 }, { name := "MAX_VALUE", type := .double, accessFlags := 25, slot := 3, constantValue := 0 }, { name := "MIN_NORMAL", type := .double, accessFlags := 25, slot := 4, constantValue := 0 }, { name := "MIN_VALUE", type := .double, accessFlags := 25, slot := 5, constantValue := 0 }, { name := "SIZE", type := .int, accessFlags := 25, slot := 6, constantValue := 0 }, { name := "PRECISION", type := .int, accessFlags := 25, slot := 7, constantValue := 0 }, { name := "MAX_EXPONENT", type := .int, accessFlags := 25, slot := 8, constantValue := 0 }, { name := "MIN_EXPONENT", type := .int, accessFlags := 25, slot := 9, constantValue := 0 }, { name := "BYTES", type := .int, accessFlags := 25, slot := 10, constantValue := 0 }, { name := "TYPE", type := (.object "java/lang/Class"), accessFlags := 25, slot := 11, constantValue := 0 }, { name := "value", type := .double, accessFlags := 18, slot := 0, constantValue := 0 }, { name := "serialVersionUID", type := .long, accessFlags := 26, slot := 12, constantValue := 0 }]
  methods := #[k13m0]
  instanceTypes := #[.double]
  staticTypes := #[.double, .double, .double, .double, .double, .double, .int, .int, .int, .int, .int, (.object "java/lang/Class"), .long]
  resolved := Array.replicate 290 none
  statics := none }

def pool14 : Array CpInfo := pool [(1, .class_ 2), (0, u "java/lang/Math"), (1, .class_ 6), (1, u "java/lang/Object"), (0, u "<init>"), (0, u "()V"), (5, u "(D)D"), (83, .class_ 100), (1, u "java/lang/Math$RandomNumberGeneratorHolder"), (23, u "abs"), (47, u "negativeZeroFloatBits"), (0, u "J"), (2, u "negativeZeroDoubleBits"), (68, u "$assertionsDisabled"), (0, u "Z"), (91, u "twoToTheDoubleScaleDown"), (0, u "D"), (4, u "twoToTheDoubleScaleUp"), (9, u "E"), (3, u "PI"), (2, u "TAU"), (2, u "DEGREES_TO_RADIANS"), (0, u "RADIANS_TO_DEGREES")] 94

def k14m0 : Method := { name := "<init>", desc := "()V", sig := { parameters := [], returnType := none }, accessFlags := 2, code := none }
def k14c1 : Code := { maxStack := 4, maxLocals := 2, code := jdk_29_method_64_code, exceptionTable := #[], attributes := #[] }
def k14m1 : Method := { name := "abs", desc := "(D)D", sig := { parameters := [.double], returnType := some .double }, accessFlags := 9, code := some k14c1 }
/-- java/lang/Math -/
def k14 : Class := { plain "java/lang/Math" (some 0) with
  accessFlags := 49
  interfaces := #[]
  cf := some (fileOf pool14 1 #[.nestMembers #[98]] #[{ accessFlags := 2, nameIndex := 7, descriptorIndex := 8, attributes := #[] }, { accessFlags := 9, nameIndex := 124, descriptorIndex := 14, attributes := #[] }] 49 4 #[] #[{ accessFlags := 25, nameIndex := 354, descriptorIndex := 339, attributes := #[] }, { accessFlags := 25, nameIndex := 358, descriptorIndex := 339, attributes := #[] }, { accessFlags := 25, nameIndex := 361, descriptorIndex := 339, attributes := #[] }, { accessFlags := 26, nameIndex := 364, descriptorIndex := 339, attributes := #[] }, { accessFlags := 26, nameIndex := 365, descriptorIndex := 339, attributes := #[] }, { accessFlags := 26, nameIndex := 172, descriptorIndex := 173, attributes := #[] }, { accessFlags := 26, nameIndex := 176, descriptorIndex := 173, attributes := #[] }, { accessFlags := 8, nameIndex := 344, descriptorIndex := 339, attributes := #[] }, { accessFlags := 8, nameIndex := 338, descriptorIndex := 339, attributes := #[] }, { accessFlags := 4120, nameIndex := 245, descriptorIndex := 246, attributes := #[] }])
  fields := #[{ name := "E", type := .double, accessFlags := 25, slot := 0, constantValue := 0 }, { name := "PI", type := .double, accessFlags := 25, slot := 1, constantValue := 0 }, { name := "TAU", type := .double, accessFlags := 25, slot := 2, constantValue := 0 }, { name := "DEGREES_TO_RADIANS", type := .double, accessFlags := 26, slot := 3, constantValue := 0 }, { name := "RADIANS_TO_DEGREES", type := .double, accessFlags := 26, slot := 4, constantValue := 0 }, { name := "negativeZeroFloatBits", type := .long, accessFlags := 26, slot := 5, constantValue := 0 }, { name := "negativeZeroDoubleBits", type := .long, accessFlags := 26, slot := 6, constantValue := 0 }, { name := "twoToTheDoubleScaleUp", type := .double, accessFlags := 8, slot := 7, constantValue := 0 }, { name := "twoToTheDoubleScaleDown", type := .double, accessFlags := 8, slot := 8, constantValue := 0 }, { name := "$assertionsDisabled", type := .boolean, accessFlags := 4120, slot := 9, constantValue := 0 }]
  methods := #[k14m0, k14m1]
  instanceTypes := #[]
  staticTypes := #[.double, .double, .double, .double, .double, .long, .long, .double, .double, .boolean]
  resolved := Array.replicate 460 none
  statics := none }

/-- the primitive byte -/
def k15 : Class := { plain "byte" none with kind := .primitive 'B', accessFlags := 0x411 }
/-- [B -/
def k16 : Class := { plain "[B" (some 0) with kind := .array 15 .byte, interfaces := #[3, 8], accessFlags := 1041 }

/-- the primitive double -/
def k17 : Class := { plain "double" none with kind := .primitive 'D', accessFlags := 0x411 }
/-- [D -/
def k18 : Class := { plain "[D" (some 0) with kind := .array 17 .double, interfaces := #[3, 8], accessFlags := 1041 }

/-- the primitive int -/
def k19 : Class := { plain "int" none with kind := .primitive 'I', accessFlags := 0x411 }
/-- [I -/
def k20 : Class := { plain "[I" (some 0) with kind := .array 19 .int, interfaces := #[3, 8], accessFlags := 1041 }

def heap : Heap := #[{ cls := 4, slots := #[.ref 1], vm := .statics 4 },
  { cls := 4, slots := #[.null], vm := .none }]
def classes : Array Class := #[k0, k1, k2, k3, k4, k5, k6, k7, k8, k9, k10, k11, k12, k13, k14, k15, k16, k17, k18, k19, k20]
def interned : List (Array UInt16 × Addr) := []
def slotsUsed : Nat := 2
def theMethod : MethodId := ⟨1, 2⟩
def args0 : Array Value := #[.long 5, .int 6, .int 7, .int 8, .int 9, .int 10]
def aboutOver (below : List Frame) : State where
  vm := { classes := classes, interned := interned.toArray }
  heap := heap
  slotsUsed := slotsUsed
  threads := #[{ frames := .invoking theMethod args0 :: below }]
def below0 : List Frame := [.native { method := ⟨0, 0⟩, args := #[] }]
def about1 : State := aboutOver below0
def p0 : Program := .bare "" "" ""
def e0 : Env := launch0.env 0 0 0
theorem w_frames : about1.frames = Frame.invoking theMethod args0 :: below0 := rfl
set_option maxRecDepth 65536 in
theorem w_args : argsFit about1.vm theMethod args0 = true := by decide +kernel
set_option maxRecDepth 65536 in
theorem w_heap : heapFits about1 = true := by decide +kernel
set_option maxRecDepth 65536 in
theorem w_runnable : about1.curStatus? = some .runnable := by decide +kernel
set_option maxRecDepth 65536 in
theorem w_alone : about1.alone = true := by decide +kernel
set_option maxRecDepth 65536 in
theorem w_named : about1.methodNamed? x = some theMethod := by decide +kernel
set_option maxRecDepth 65536 in
theorem w_hears : about1.hears theMethod below0 = true := by decide +kernel
set_option maxRecDepth 65536 in
theorem w_ripe : about1.ripe theMethod args0 below0 = true := by decide +kernel
theorem w_running : about1.status = .running := rfl
set_option maxRecDepth 65536 in
theorem w_room : about1.hasRoom e0.platform room_1 = true :=
  launch0.hasRoom_least _ room_1 (by decide +kernel) (by decide +kernel) (by decide +kernel) (by decide +kernel) (by decide +kernel) (by decide +kernel)
theorem allAtoms_all (ts : List Jvm.Cond) (a : Array Jvm.Value) (st : Jvm.State) : (allAtoms ts).before a st = ts.all (fun c => c.before a st) := by
  induction ts with
  | nil => rfl
  | cons c t ih =>
    show (Jvm.Cond.and c (allAtoms t)).before a st = _
    rw [Jvm.Cond.before_and, ih, List.all_cons]
def words1 : List Jvm.Cond := Jvm.Cond.code x code maxLocals ret :: tables_1
/-- a 'code' word, met by the world's own term for the bytes: nothing is compared byte by byte -/
theorem code_word {y : MethodName} {bytes : ByteArray} {mx : Nat} {rt : Option FieldType} {a : Array Value} {s : State} {m : MethodId} {meth : Method} {c : Code} (h1 : s.methodNamed? y = some m) (h2 : s.vm.method? m = some meth) (h3 : meth.code = some c) (h4 : c.code = bytes)
    (h5 : (c.maxLocals == mx && c.exceptionTable.isEmpty && decide (c.maxStack ≤ mostOperands) && decide (meth.sig.returnType = rt) && !meth.locks && decide (parseMethodDescriptor y.desc = some meth.sig)) = true) : (Jvm.Cond.code y bytes mx rt).before a s = true := by
  simp only [Bool.and_eq_true, beq_iff_eq, Bool.not_eq_true', decide_eq_true_eq] at h5
  obtain ⟨⟨⟨⟨⟨g1, g2⟩, g3⟩, g4⟩, g5⟩, g6⟩ := h5
  simp [Cond.before, Cond.holds, Cond.value, h1, h2, h3, h4, g1, g2, g3, g4, g5, g6]
def isCode : Jvm.Cond → Bool
  | .code _ _ _ _ => true
  | _ => false
theorem all_split {L : List Jvm.Cond} {P : Jvm.Cond → Bool} (h1 : L.all (fun c => isCode c || P c) = true) (h2 : ∀ c ∈ L.filter isCode, P c = true) : L.all P = true := by
  refine List.all_eq_true.mpr fun c hc => ?_
  have h := List.all_eq_true.mp h1 c hc
  rcases Bool.eq_false_or_eq_true (isCode c) with hi | hi
  · exact h2 c (List.mem_filter.mpr ⟨hc, hi⟩)
  · simpa [hi] using h
set_option maxRecDepth 65536 in
theorem w_c0 : (Jvm.Cond.code x code maxLocals ret).before args0 about1 = true := code_word (m := ⟨1, 2⟩) (meth := k1m2) (c := k1c2) (by decide +kernel) rfl rfl rfl (by decide +kernel)
set_option maxRecDepth 65536 in
theorem w_c1 : (Jvm.Cond.code ({ cls := "com/example/tieline/tieline/wavelet/RegistrationReachPinLaw", name := "v", desc := "(JI)D" } : Jvm.MethodName) method_2_code (3 : Nat) (Option.some Jvm.ClassFile.FieldType.double)).before args0 about1 = true := code_word (m := ⟨1, 1⟩) (meth := k1m1) (c := k1c1) (by decide +kernel) rfl rfl rfl (by decide +kernel)
set_option maxRecDepth 65536 in
theorem w_c2 : (Jvm.Cond.code ({ cls := "com/example/tieline/tieline/wavelet/Registration", name := "<init>", desc := "([DIIDDD)V" } : Jvm.MethodName) prog_38_method_1_code (10 : Nat) (Option.none : Option Jvm.ClassFile.FieldType)).before args0 about1 = true := code_word (m := ⟨2, 0⟩) (meth := k2m0) (c := k2c0) (by decide +kernel) rfl rfl rfl (by decide +kernel)
set_option maxRecDepth 65536 in
theorem w_c3 : (Jvm.Cond.code ({ cls := "java/util/Optional", name := "empty", desc := "()Ljava/util/Optional;" } : Jvm.MethodName) jdk_32_method_1_code (1 : Nat) (Option.some (Jvm.ClassFile.FieldType.object "java/util/Optional"))).before args0 about1 = true := code_word (m := ⟨4, 0⟩) (meth := k4m0) (c := k4c0) (by decide +kernel) rfl rfl rfl (by decide +kernel)
set_option maxRecDepth 65536 in
theorem w_c4 : (Jvm.Cond.code ({ cls := "com/example/tieline/tieline/wavelet/Registration$ShiftPrior", name := "<init>", desc := "(DD)V" } : Jvm.MethodName) prog_41_method_1_code (5 : Nat) (Option.none : Option Jvm.ClassFile.FieldType)).before args0 about1 = true := code_word (m := ⟨6, 0⟩) (meth := k6m0) (c := k6c0) (by decide +kernel) rfl rfl rfl (by decide +kernel)
set_option maxRecDepth 65536 in
theorem w_c5 : (Jvm.Cond.code ({ cls := "java/lang/Record", name := "<init>", desc := "()V" } : Jvm.MethodName) jdk_30_method_1_code (1 : Nat) (Option.none : Option Jvm.ClassFile.FieldType)).before args0 about1 = true := code_word (m := ⟨5, 0⟩) (meth := k5m0) (c := k5c0) (by decide +kernel) rfl rfl rfl (by decide +kernel)
set_option maxRecDepth 65536 in
theorem w_c6 : (Jvm.Cond.code ({ cls := "java/lang/Object", name := "<init>", desc := "()V" } : Jvm.MethodName) object_method_1_code (1 : Nat) (Option.none : Option Jvm.ClassFile.FieldType)).before args0 about1 = true := code_word (m := ⟨0, 0⟩) (meth := k0m0) (c := k0c0) (by decide +kernel) rfl rfl rfl (by decide +kernel)
set_option maxRecDepth 65536 in
theorem w_c7 : (Jvm.Cond.code ({ cls := "java/util/Optional", name := "of", desc := "(Ljava/lang/Object;)Ljava/util/Optional;" } : Jvm.MethodName) jdk_32_method_3_code (1 : Nat) (Option.some (Jvm.ClassFile.FieldType.object "java/util/Optional"))).before args0 about1 = true := code_word (m := ⟨4, 2⟩) (meth := k4m2) (c := k4c2) (by decide +kernel) rfl rfl rfl (by decide +kernel)
set_option maxRecDepth 65536 in
theorem w_c8 : (Jvm.Cond.code ({ cls := "java/util/Objects", name := "requireNonNull", desc := "(Ljava/lang/Object;)Ljava/lang/Object;" } : Jvm.MethodName) jdk_31_method_10_code (1 : Nat) (Option.some (Jvm.ClassFile.FieldType.object "java/lang/Object"))).before args0 about1 = true := code_word (m := ⟨7, 1⟩) (meth := k7m1) (c := k7c1) (by decide +kernel) rfl rfl rfl (by decide +kernel)
set_option maxRecDepth 65536 in
theorem w_c9 : (Jvm.Cond.code ({ cls := "java/util/Optional", name := "<init>", desc := "(Ljava/lang/Object;)V" } : Jvm.MethodName) jdk_32_method_2_code (2 : Nat) (Option.none : Option Jvm.ClassFile.FieldType)).before args0 about1 = true := code_word (m := ⟨4, 1⟩) (meth := k4m1) (c := k4c1) (by decide +kernel) rfl rfl rfl (by decide +kernel)
set_option maxRecDepth 65536 in
theorem w_c10 : (Jvm.Cond.code ({ cls := "com/example/tieline/tieline/wavelet/Registration", name := "<init>", desc := "([DLjava/util/Optional;IIDLjava/util/Optional;)V" } : Jvm.MethodName) prog_38_method_3_code (11 : Nat) (Option.none : Option Jvm.ClassFile.FieldType)).before args0 about1 = true := code_word (m := ⟨2, 1⟩) (meth := k2m1) (c := k2c1) (by decide +kernel) rfl rfl rfl (by decide +kernel)
set_option maxRecDepth 65536 in
theorem w_c11 : (Jvm.Cond.code ({ cls := "java/util/Optional", name := "isEmpty", desc := "()Z" } : Jvm.MethodName) jdk_32_method_7_code (1 : Nat) (Option.some Jvm.ClassFile.FieldType.boolean)).before args0 about1 = true := code_word (m := ⟨4, 4⟩) (meth := k4m4) (c := k4c4) (by decide +kernel) rfl rfl rfl (by decide +kernel)
set_option maxRecDepth 65536 in
theorem w_c12 : (Jvm.Cond.code ({ cls := "java/util/Optional", name := "get", desc := "()Ljava/lang/Object;" } : Jvm.MethodName) jdk_32_method_5_code (1 : Nat) (Option.some (Jvm.ClassFile.FieldType.object "java/lang/Object"))).before args0 about1 = true := code_word (m := ⟨4, 3⟩) (meth := k4m3) (c := k4c3) (by decide +kernel) rfl rfl rfl (by decide +kernel)
set_option maxRecDepth 65536 in
theorem w_c13 : (Jvm.Cond.code ({ cls := "com/example/tieline/tieline/wavelet/Registration$ShiftPrior", name := "meanMs", desc := "()D" } : Jvm.MethodName) prog_41_method_5_code (1 : Nat) (Option.some Jvm.ClassFile.FieldType.double)).before args0 about1 = true := code_word (m := ⟨6, 1⟩) (meth := k6m1) (c := k6c1) (by decide +kernel) rfl rfl rfl (by decide +kernel)
set_option maxRecDepth 65536 in
theorem w_c14 : (Jvm.Cond.code ({ cls := "java/lang/Double", name := "isFinite", desc := "(D)Z" } : Jvm.MethodName) jdk_117_method_8_code (2 : Nat) (Option.some Jvm.ClassFile.FieldType.boolean)).before args0 about1 = true := code_word (m := ⟨13, 0⟩) (meth := k13m0) (c := k13c0) (by decide +kernel) rfl rfl rfl (by decide +kernel)
set_option maxRecDepth 65536 in
theorem w_c15 : (Jvm.Cond.code ({ cls := "java/lang/Math", name := "abs", desc := "(D)D" } : Jvm.MethodName) jdk_29_method_64_code (2 : Nat) (Option.some Jvm.ClassFile.FieldType.double)).before args0 about1 = true := code_word (m := ⟨14, 1⟩) (meth := k14m1) (c := k14c1) (by decide +kernel) rfl rfl rfl (by decide +kernel)
set_option maxRecDepth 65536 in
theorem w_c16 : (Jvm.Cond.code ({ cls := "com/example/tieline/tieline/wavelet/Registration$ShiftPrior", name := "sdMs", desc := "()D" } : Jvm.MethodName) prog_41_method_6_code (1 : Nat) (Option.some Jvm.ClassFile.FieldType.double)).before args0 about1 = true := code_word (m := ⟨6, 2⟩) (meth := k6m2) (c := k6c2) (by decide +kernel) rfl rfl rfl (by decide +kernel)
set_option maxRecDepth 65536 in
theorem w_c17 : (Jvm.Cond.code ({ cls := "com/example/tieline/tieline/wavelet/Registration", name := "reach", desc := "(I)[D" } : Jvm.MethodName) prog_38_method_23_code (3 : Nat) (Option.some (Jvm.ClassFile.FieldType.array Jvm.ClassFile.FieldType.double))).before args0 about1 = true := code_word (m := ⟨2, 2⟩) (meth := k2m2) (c := k2c2) (by decide +kernel) rfl rfl rfl (by decide +kernel)
def codes1 : List Jvm.Cond := [Jvm.Cond.code x code maxLocals ret, Jvm.Cond.code ({ cls := "com/example/tieline/tieline/wavelet/RegistrationReachPinLaw", name := "v", desc := "(JI)D" } : Jvm.MethodName) method_2_code (3 : Nat) (Option.some Jvm.ClassFile.FieldType.double), Jvm.Cond.code ({ cls := "com/example/tieline/tieline/wavelet/Registration", name := "<init>", desc := "([DIIDDD)V" } : Jvm.MethodName) prog_38_method_1_code (10 : Nat) (Option.none : Option Jvm.ClassFile.FieldType), Jvm.Cond.code ({ cls := "java/util/Optional", name := "empty", desc := "()Ljava/util/Optional;" } : Jvm.MethodName) jdk_32_method_1_code (1 : Nat) (Option.some (Jvm.ClassFile.FieldType.object "java/util/Optional")), Jvm.Cond.code ({ cls := "com/example/tieline/tieline/wavelet/Registration$ShiftPrior", name := "<init>", desc := "(DD)V" } : Jvm.MethodName) prog_41_method_1_code (5 : Nat) (Option.none : Option Jvm.ClassFile.FieldType), Jvm.Cond.code ({ cls := "java/lang/Record", name := "<init>", desc := "()V" } : Jvm.MethodName) jdk_30_method_1_code (1 : Nat) (Option.none : Option Jvm.ClassFile.FieldType), Jvm.Cond.code ({ cls := "java/lang/Object", name := "<init>", desc := "()V" } : Jvm.MethodName) object_method_1_code (1 : Nat) (Option.none : Option Jvm.ClassFile.FieldType), Jvm.Cond.code ({ cls := "java/util/Optional", name := "of", desc := "(Ljava/lang/Object;)Ljava/util/Optional;" } : Jvm.MethodName) jdk_32_method_3_code (1 : Nat) (Option.some (Jvm.ClassFile.FieldType.object "java/util/Optional")), Jvm.Cond.code ({ cls := "java/util/Objects", name := "requireNonNull", desc := "(Ljava/lang/Object;)Ljava/lang/Object;" } : Jvm.MethodName) jdk_31_method_10_code (1 : Nat) (Option.some (Jvm.ClassFile.FieldType.object "java/lang/Object")), Jvm.Cond.code ({ cls := "java/util/Optional", name := "<init>", desc := "(Ljava/lang/Object;)V" } : Jvm.MethodName) jdk_32_method_2_code (2 : Nat) (Option.none : Option Jvm.ClassFile.FieldType), Jvm.Cond.code ({ cls := "com/example/tieline/tieline/wavelet/Registration", name := "<init>", desc := "([DLjava/util/Optional;IIDLjava/util/Optional;)V" } : Jvm.MethodName) prog_38_method_3_code (11 : Nat) (Option.none : Option Jvm.ClassFile.FieldType), Jvm.Cond.code ({ cls := "java/util/Optional", name := "isEmpty", desc := "()Z" } : Jvm.MethodName) jdk_32_method_7_code (1 : Nat) (Option.some Jvm.ClassFile.FieldType.boolean), Jvm.Cond.code ({ cls := "java/util/Optional", name := "get", desc := "()Ljava/lang/Object;" } : Jvm.MethodName) jdk_32_method_5_code (1 : Nat) (Option.some (Jvm.ClassFile.FieldType.object "java/lang/Object")), Jvm.Cond.code ({ cls := "com/example/tieline/tieline/wavelet/Registration$ShiftPrior", name := "meanMs", desc := "()D" } : Jvm.MethodName) prog_41_method_5_code (1 : Nat) (Option.some Jvm.ClassFile.FieldType.double), Jvm.Cond.code ({ cls := "java/lang/Double", name := "isFinite", desc := "(D)Z" } : Jvm.MethodName) jdk_117_method_8_code (2 : Nat) (Option.some Jvm.ClassFile.FieldType.boolean), Jvm.Cond.code ({ cls := "java/lang/Math", name := "abs", desc := "(D)D" } : Jvm.MethodName) jdk_29_method_64_code (2 : Nat) (Option.some Jvm.ClassFile.FieldType.double), Jvm.Cond.code ({ cls := "com/example/tieline/tieline/wavelet/Registration$ShiftPrior", name := "sdMs", desc := "()D" } : Jvm.MethodName) prog_41_method_6_code (1 : Nat) (Option.some Jvm.ClassFile.FieldType.double), Jvm.Cond.code ({ cls := "com/example/tieline/tieline/wavelet/Registration", name := "reach", desc := "(I)[D" } : Jvm.MethodName) prog_38_method_23_code (3 : Nat) (Option.some (Jvm.ClassFile.FieldType.array Jvm.ClassFile.FieldType.double))]
set_option maxRecDepth 65536 in
theorem codes_eq : words1.filter isCode = codes1 := rfl
theorem w_codes : ∀ c ∈ words1.filter isCode, c.before args0 about1 = true := by
  rw [codes_eq]
  intro c hc
  simp only [codes1, List.mem_cons, List.not_mem_nil, or_false] at hc
  rcases hc with rfl | rfl | rfl | rfl | rfl | rfl | rfl | rfl | rfl | rfl | rfl | rfl | rfl | rfl | rfl | rfl | rfl | rfl
  · exact w_c0
  · exact w_c1
  · exact w_c2
  · exact w_c3
  · exact w_c4
  · exact w_c5
  · exact w_c6
  · exact w_c7
  · exact w_c8
  · exact w_c9
  · exact w_c10
  · exact w_c11
  · exact w_c12
  · exact w_c13
  · exact w_c14
  · exact w_c15
  · exact w_c16
  · exact w_c17
set_option maxRecDepth 65536 in
theorem w_t1 : (words1.take 24).all (fun c => isCode c || c.before args0 about1) = true := by decide +kernel
set_option maxRecDepth 65536 in
theorem w_t2 : ((words1.drop 24).take 24).all (fun c => isCode c || c.before args0 about1) = true := by decide +kernel
set_option maxRecDepth 65536 in
theorem w_t3 : (((words1.drop 24).drop 24).take 24).all (fun c => isCode c || c.before args0 about1) = true := by decide +kernel
set_option maxRecDepth 65536 in
theorem w_t4 : ((((words1.drop 24).drop 24).drop 24).take 24).all (fun c => isCode c || c.before args0 about1) = true := by decide +kernel
set_option maxRecDepth 65536 in
theorem w_t5 : ((((words1.drop 24).drop 24).drop 24).drop 24).all (fun c => isCode c || c.before args0 about1) = true := by decide +kernel
theorem w_tables : (allAtoms (Jvm.Cond.code x code maxLocals ret :: tables_1)).before args0 about1 = true := by
  rw [allAtoms_all]
  show words1.all (fun c => c.before args0 about1) = true
  refine all_split ?_ w_codes
  rw [← List.take_append_drop 24 words1, List.all_append, w_t1, ← List.take_append_drop 24 (words1.drop 24), List.all_append, w_t2, ← List.take_append_drop 24 ((words1.drop 24).drop 24), List.all_append, w_t3, ← List.take_append_drop 24 (((words1.drop 24).drop 24).drop 24), List.all_append, w_t4, w_t5]
  rfl
set_option maxRecDepth 65536 in
theorem w_rest : rest_1_c.before args0 about1 = true := by decide +kernel
set_option maxRecDepth 65536 in
theorem w_case : (Jvm.Cond.and given_1 narrow_1).before args0 about1 = true := by decide +kernel
theorem w_applies : (headSpec (Jvm.Cond.code x code maxLocals ret :: tables_1) room_1).applies x e0.platform about1 = true :=
  (Spec.applies_iff w_frames).mpr ⟨w_running, w_runnable, w_alone, w_named, w_hears, w_ripe, w_room, w_tables⟩
theorem atStart : AtStart classFile x code maxLocals ret World_1 tables_1 room_1 Calls_1 rest_1 Pre_1 launch0 p0 e0 about1 theMethod args0 below0 :=
  ⟨lists_1, trivial, launch0.admits_env _ _ _, launch0.least_env, fairChoices_fair.cas, fairChoices_fair.clock, w_frames, w_args, w_heap, w_applies, trivial, w_rest, w_case⟩
end start1
theorem witness_1 : WitnessClaimed_1 := ⟨start1.p0, start1.e0, start1.about1, start1.theMethod, start1.args0, start1.below0, start1.atStart⟩
end Jvm.Pilot.@@N@@
