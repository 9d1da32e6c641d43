import JvmDerived
import JvmDerived.Pilot.@@N@@Statement
import JvmDerived.Pilot.@@N@@Code
set_option linter.unusedVariables false
set_option linter.unusedSimpArgs false
namespace Jvm.Pilot.@@N@@
open Jvm Jvm.ClassFile Sem Op Lib Jvm.Free Jvm.Stand Jvm.LawKit Jvm.RoadKit Bundle Jvm.Pilot.@@N@@.Jvm.D
section Own
variable {p : Program} {l : Launch} {e : Env} {R : Room} {s : State} {m : MethodId} {args : Array Value} {below : List Frame} {meth : Method} {c : Code} {T : State} {locs : List Loc} {cells slots : Nat}
/-- the run from A ends, returns what Q says, and has made and written no more than told -/
def Dn (p : Program) (e : Env) (below : List Frame) (s : State) (Q : Option Value → Heap → List Loc → Prop) (rc rs : Nat) (A : State) : Prop :=
  ∃ s₂ o, Steps p.tables e below A s₂ ∧ s₂.status = .running ∧ Ended s₂ below o ∧ ∃ v L, o = .returned v ∧ Q v s₂.heap L ∧ FrameEnd s o s₂ L rc rs
theorem Dn.st {Q : Option Value → Heap → List Loc → Prop} {rc rs : Nat} {A B : State} (h : ∀ t, Steps p.tables e below B t → Steps p.tables e below A t) (k : Dn p e below s Q rc rs B) : Dn p e below s Q rc rs A := by
  obtain ⟨s2, o, h1, h2⟩ := k; exact ⟨s2, o, h _ h1, h2⟩
theorem Dn.tr {Q : Option Value → Heap → List Loc → Prop} {rc rs : Nat} {A B : State} (h : Steps p.tables e below A B) (k : Dn p e below s Q rc rs B) : Dn p e below s Q rc rs A := by
  obtain ⟨s2, o, h1, h2⟩ := k; exact ⟨s2, o, h.trans h1, h2⟩
theorem Dn.ret (X : Stand p l e R s m args below meth c T locs cells slots) (hlk : meth.locks = false) (hx : p.tables.exec = Jvm.exec) {pc : Nat} {Ls : Array Slot} {w : Value} {t : FieldType} {i : Instr} {rest : List Value} (hret : meth.sig.returnType = some t) (hn : narrow t w = w)
    (hi : (i = .ireturn ∧ (t = .int ∨ t = .boolean ∨ t = .byte ∨ t = .char ∨ t = .short) ∧ ∃ z, w = .int z) ∨ (i = .lreturn ∧ t = .long ∧ ∃ z, w = .long z) ∨ (i = .dreturn ∧ t = .double ∧ ∃ z, w = .double z) ∨ (i = .freturn ∧ t = .float ∧ ∃ z, w = .float z) ∨ (i = .areturn ∧ t.isReference = true ∧ w.isRef = true))
    (hd : decode c.code pc = .ok (i, 1)) {Q : Option Value → Heap → List Loc → Prop} {rc rs : Nat} (hq : Q (some w) T.heap locs) (hc : cells ≤ rc) (hs : slots ≤ rs) : Dn p e below s Q rc rs (T.setTop (mkF m pc Ls (w :: rest))) := by
  obtain ⟨fs, hr, hrun, hended, hW, hsame⟩ := X.leave (v := some w) (fun h => by rw [hret] at h; cases h) hlk
  exact ⟨_, _, retOut X hx hret hn hi hd hr, hrun, hended, _, _, rfl, hq, ⟨_, rfl⟩, hW, hsame.mono hc hs⟩
theorem Dn.ret0 (X : Stand p l e R s m args below meth c T locs cells slots) (hlk : meth.locks = false) (hx : p.tables.exec = Jvm.exec) {pc : Nat} {Ls : Array Slot} (hret : meth.sig.returnType = none)
    (hd : decode c.code pc = .ok (.return_, 1)) {Q : Option Value → Heap → List Loc → Prop} {rc rs : Nat} (hq : Q none T.heap locs) (hc : cells ≤ rc) (hs : slots ≤ rs) : Dn p e below s Q rc rs (T.setTop (mkF m pc Ls [])) := by
  obtain ⟨fs, hr, hrun, hended, hW, hsame⟩ := X.leave (v := none) (fun _ => rfl) hlk
  exact ⟨_, _, X.returnOut hx hret hd hr, hrun, hended, _, _, rfl, hq, ⟨_, rfl⟩, hW, hsame.mono hc hs⟩
theorem own_iincW {tb : Tables} [Ours tb] {target : State} {g : JFrame} (h : At T m c below) (hx : tb.exec = Jvm.exec) (hg : g.method = m) {k : Nat} {cst : Int} {x : Int32} {l' : Array Slot} (hd : decode c.code g.pc = .ok (.iinc k cst, 6)) (hl : g.locals[k]? = some (.val (.int x))) (hl' : storeLocals g.locals k (.int (x + Int32.ofInt cst)) = some l')
    (hr : Steps tb e below (T.setTop { g with pc := g.pc + 6, locals := l' }) target) : Steps tb e below (T.setTop g) target := by
  subst hg
  jvm_step h [h.top, hx, hd, hl, hl']
  exact hr
theorem own_dremS {tb : Tables} [Ours tb] {target : State} {g : JFrame} (h : At T m c below) (hx : tb.exec = Jvm.exec) (hg : g.method = m) {x y v : UInt64} {rest : List Value} (hd : decode c.code g.pc = .ok (.drem, 1)) (hs : g.stack = .double y :: .double x :: rest) (hn : Jvm.Free.Fl.NoNaN64 (FP.drem x y)) (hv : FP.drem x y = v)
    (hr : Steps tb e below (T.setTop { g with pc := g.pc + 1, stack := .double v :: rest }) target) : Steps tb e below (T.setTop g) target := by
  subst hg; subst hv
  obtain ⟨gm, gp, gl, gs, gk, ge, gr⟩ := g
  simp only at hs hd
  subst hs
  jvm_step h [h.top, hx, hd, Op.drem.at_number h.top hn]
  exact hr
end Own
section Dyad
open Jvm.FP Jvm.FP.Core Jvm.Free.Fl
/-- the datum with its exponent moved by k -/
def sft (k : Nat) : Datum → Datum
  | .nan => .nan
  | .inf s => .inf s
  | .fin s c q => .fin s c (q + (k : Int))
/-- x is the number i / 2^k -/
def DS (k : Nat) (i : Int) (x : UInt64) : Prop := Whole i (sft k (val64 x))
theorem sft_zero (d : Datum) : sft 0 d = d := by
  cases d with
  | nan => rfl
  | inf s => rfl
  | fin s c q => show Datum.fin s c (q + ((0 : Nat) : Int)) = _; rw [Int.natCast_zero, Int.add_zero]
theorem sft_sum (k : Nat) (x y : Datum) : exactSum (sft k x) (sft k y) = sft k (exactSum x y) := by
  cases x with
  | nan => rfl
  | inf s =>
    cases y with
    | nan => rfl
    | inf t => show (if s = t then Datum.inf s else .nan) = sft k (if s = t then Datum.inf s else .nan); split <;> rfl
    | fin t d r => rfl
  | fin s c q =>
    cases y with
    | nan => rfl
    | inf t => rfl
    | fin t d r =>
      have h : min (q + (k : Int)) (r + k) = min q r + k := by omega
      have h1 : q + (k : Int) - (min q r + k) = q - min q r := by omega
      have h2 : r + (k : Int) - (min q r + k) = r - min q r := by omega
      have hu : sumUnits s c (q + k) t d (r + k) (min (q + k) (r + k)) = sumUnits s c q t d r (min q r) := by
        show signed s (c * 2 ^ (q + (k : Int) - min (q + k) (r + k)).toNat) + signed t (d * 2 ^ (r + (k : Int) - min (q + k) (r + k)).toNat) = signed s (c * 2 ^ (q - min q r).toNat) + signed t (d * 2 ^ (r - min q r).toNat)
        rw [h, h1, h2]
      show Datum.fin (sumSign s t (sumUnits s c (q + k) t d (r + k) (min (q + k) (r + k)))) (sumUnits s c (q + k) t d (r + k) (min (q + k) (r + k))).natAbs (min (q + k) (r + k)) = Datum.fin (sumSign s t (sumUnits s c q t d r (min q r))) (sumUnits s c q t d r (min q r)).natAbs (min q r + k)
      rw [hu, h]
theorem sft_negate (k : Nat) (x : Datum) : negate (sft k x) = sft k (negate x) := by cases x <;> rfl
theorem sft_product (k m : Nat) (x y : Datum) : exactProduct (sft k x) (sft m y) = sft (k + m) (exactProduct x y) := by
  cases x with
  | nan => rfl
  | inf s =>
    cases y with
    | nan => rfl
    | inf t => rfl
    | fin t d r => show (if d = 0 then Datum.nan else .inf (s != t)) = sft (k + m) (if d = 0 then Datum.nan else .inf (s != t)); split <;> rfl
  | fin s c q =>
    cases y with
    | nan => rfl
    | inf t => show (if c = 0 then Datum.nan else .inf (s != t)) = sft (k + m) (if c = 0 then Datum.nan else .inf (s != t)); split <;> rfl
    | fin t d r =>
      show Datum.fin (s != t) (c * d) (q + k + (r + m)) = Datum.fin (s != t) (c * d) (q + r + ((k + m : Nat) : Int))
      congr 1; omega
theorem sft_order (k : Nat) (x y : Datum) : order (sft k x) (sft k y) = order x y := by
  cases x with
  | nan => rfl
  | inf s => cases y <;> rfl
  | fin s c q =>
    cases y with
    | nan => rfl
    | inf t => rfl
    | fin t d r =>
      have h : min (q + (k : Int)) (r + k) = min q r + k := by omega
      have h1 : q + (k : Int) - (min q r + k) = q - min q r := by omega
      have h2 : r + (k : Int) - (min q r + k) = r - min q r := by omega
      show some (compare (signed s (c * 2 ^ (q + (k : Int) - min (q + k) (r + k)).toNat)) (signed t (d * 2 ^ (r + (k : Int) - min (q + k) (r + k)).toNat))) = some (compare (signed s (c * 2 ^ (q - min q r).toNat)) (signed t (d * 2 ^ (r - min q r).toNat)))
      rw [h, h1, h2]
theorem b64_qmin : b64.qmin = -1074 := by decide +kernel
theorem b64_qmax : b64.qmax = 971 := by decide +kernel
theorem b64_tails : b64.tails = 4503599627370496 := by decide +kernel
theorem fits64 (s : Bool) (c : Nat) (q : Int) : Core.fits b64 (.fin s c q) ↔ c < 2 ^ 53 ∧ -1074 ≤ q ∧ q ≤ 971 ∧ (q = -1074 ∨ 4503599627370496 ≤ c) := by
  show (c < 2 ^ 53 ∧ b64.qmin ≤ q ∧ q ≤ b64.qmax ∧ (q = b64.qmin ∨ b64.tails ≤ c)) ↔ _
  rw [b64_qmin, b64_qmax, b64_tails]
/-- n / 2^k is a double, for n up to 2^53 and k up to 1022 -/
theorem natFitS (s : Bool) {n k : Nat} (hk : k ≤ 1022) (hn : n ≤ 2 ^ 53) :
    ∃ c q, Core.fits b64 (.fin s c q) ∧ n * 2 ^ (-(k : Int) - q).toNat = c * 1 * 2 ^ (q - -(k : Int)).toNat := by
  by_cases h0 : n = 0
  · subst h0
    exact ⟨0, b64.qmin, zero_fits good_b64 s, by simp⟩
  · obtain ⟨c, q, hf, hv⟩ := natFit good_b64 wide_b64 s (show n ≤ 2 ^ b64.p from hn)
    rw [fits64] at hf
    have hq : -52 ≤ q := by
      refine Int.not_lt.mp fun hlt => ?_
      have e1 : (q - 0).toNat = 0 := by omega
      have e2 : (0 - q).toNat = 53 + ((0 - q).toNat - 53) := by omega
      rw [e1, e2, Nat.pow_add] at hv
      have p := Nat.two_pow_pos ((0 - q).toNat - 53)
      have : 2 ^ 53 * 1 ≤ 2 ^ 53 * 2 ^ ((0 - q).toNat - 53) := Nat.mul_le_mul_left _ p
      have : 1 * (2 ^ 53 * 2 ^ ((0 - q).toNat - 53)) ≤ n * (2 ^ 53 * 2 ^ ((0 - q).toNat - 53)) := Nat.mul_le_mul_right _ (by omega)
      omega
    refine ⟨c, q - k, (fits64 _ _ _).mpr ⟨hf.1, by omega, by omega, Or.inr (hf.2.2.2.resolve_left (by omega))⟩, ?_⟩
    rw [show -(k : Int) - (q - k) = 0 - q by omega, show q - k - -(k : Int) = q - 0 by omega]
    exact hv
theorem whole_signed {i : Int} {s : Bool} {c : Nat} {q : Int} (h : Whole i (.fin s c q)) : signed s i.natAbs = i := by
  by_cases hi : i = 0
  · rw [hi]; exact signed_zero s
  · rw [whole_sign h hi]; unfold signed
    by_cases h : i < 0 <;> simp [h] <;> omega
theorem ds_round {k : Nat} {i : Int} {d : Datum} (hk : k ≤ 1022) (hi : i.natAbs ≤ 2 ^ 53) (h : Whole i (sft k d)) : Whole i (sft k (Core.round b64 d)) := by
  cases d with
  | nan => exact h.elim
  | inf s => exact h.elim
  | fin s c q =>
    have hs := whole_signed h
    have h1 := whole_natAbs h
    obtain ⟨c', q', hfit, hv⟩ := natFitS s hk hi
    have e1 : Core.round b64 (.fin s c q) = roundRatio b64 s i.natAbs 1 (-(k : Int)) := by
      refine roundRatio_congr (by decide) (by decide) ?_
      rw [show q - -(k : Int) = q + k by omega, show -(k : Int) - q = -(q + k) by omega]
      simpa using h1
    rw [e1, roundRatio_exact good_b64 (by decide) hfit hv]
    show signed s (c' * 2 ^ (q' + (k : Int)).toNat) = i * _
    rw [show -(k : Int) - q' = -(q' + k) by omega, show q' - -(k : Int) = q' + k by omega, Nat.mul_one] at hv
    rw [← hv, signed_mul, hs]
theorem DS.nn {k : Nat} {i : Int} {x : UInt64} (h : DS k i x) : NoNaN64 x := val64_no.mpr fun q => by
  unfold DS at h; rw [q] at h; exact h.elim
theorem DS.fin {k : Nat} {i : Int} {x : UInt64} (h : DS k i x) : ∃ s c q, val64 x = .fin s c q ∧ Whole i (.fin s c (q + (k : Int))) := by
  unfold DS at h
  cases e : val64 x with
  | nan => rw [e] at h; exact h.elim
  | inf s => rw [e] at h; exact h.elim
  | fin s c q => rw [e] at h; exact ⟨s, c, q, rfl, h⟩
theorem DS.lit {k : Nat} {i : Int} {x : UInt64} {s : Bool} {c : Nat} {q : Int} (hv : val64 x = .fin s c q) (he : signed s (c * 2 ^ (q + (k : Int)).toNat) = i * ((2 ^ (-(q + (k : Int))).toNat : Nat) : Int)) : DS k i x := by
  unfold DS; rw [hv]; exact he
theorem DS.i2d (v : Int32) : DS 0 v.toInt (FP.i2d v) := by unfold DS; rw [sft_zero]; exact i2d_int v
theorem DS.l2d {v : Int64} (h : v.toInt.natAbs ≤ 2 ^ 53) : DS 0 v.toInt (FP.l2d v) := by unfold DS; rw [sft_zero]; exact l2d_int h
theorem DS.dint {i : Int} {x : UInt64} (h : DS 0 i x) : DInt i x := by unfold DS at h; rw [sft_zero] at h; exact h
theorem DS.zero (k : Nat) : DS k 0 0 := DS.lit (s := false) (c := 0) (q := -1074) (by decide +kernel) (by rw [Nat.zero_mul, Int.zero_mul]; rfl)
theorem DS.add {k : Nat} {i j : Int} {x y : UInt64} (hx : DS k i x) (hy : DS k j y) (hb : (i + j).natAbs ≤ 2 ^ 53) (hk : k ≤ 1022) : DS k (i + j) (FP.dadd x y) := by
  show Whole _ (sft k (val64 (Core.dadd x y)))
  rw [val64_dadd]; refine ds_round hk hb ?_; rw [← sft_sum]; exact whole_sum hx hy
theorem DS.sub {k : Nat} {i j : Int} {x y : UInt64} (hx : DS k i x) (hy : DS k j y) (hb : (i - j).natAbs ≤ 2 ^ 53) (hk : k ≤ 1022) : DS k (i - j) (FP.dsub x y) := by
  show Whole _ (sft k (val64 (Core.dsub x y)))
  rw [val64_dsub]; refine ds_round hk hb ?_; rw [← sft_sum, ← sft_negate, Int.sub_eq_add_neg]; exact whole_sum hx (whole_negate hy)
theorem DS.mul {k m : Nat} {i j : Int} {x y : UInt64} (hx : DS k i x) (hy : DS m j y) (hb : (i * j).natAbs ≤ 2 ^ 53) (hk : k + m ≤ 1022) : DS (k + m) (i * j) (FP.dmul x y) := by
  show Whole _ (sft (k + m) (val64 (Core.dmul x y)))
  rw [val64_dmul]; refine ds_round hk hb ?_; rw [← sft_product]; exact whole_product hx hy
theorem DS.addc {k : Nat} {i j Q : Int} {x y : UInt64} (hx : DS k i x) (hy : DS k j y) (e : i + j = Q) (hb : Q.natAbs ≤ 2 ^ 53) (hk : k ≤ 1022) : DS k Q (FP.dadd x y) := by subst e; exact DS.add hx hy hb hk
theorem DS.subc {k : Nat} {i j Q : Int} {x y : UInt64} (hx : DS k i x) (hy : DS k j y) (e : i - j = Q) (hb : Q.natAbs ≤ 2 ^ 53) (hk : k ≤ 1022) : DS k Q (FP.dsub x y) := by subst e; exact DS.sub hx hy hb hk
theorem DS.cmp {k : Nat} {i j : Int} {x y : UInt64} (hx : DS k i x) (hy : DS k j y) : FP.dcmp x y = some (compare i j) := by
  show order (val64 x) (val64 y) = _
  rw [← sft_order k]; exact order_whole hx hy
/-- what dcmp pushes -/
def c3 (i j : Int) : Int32 := if i < j then -1 else if i = j then 0 else 1
theorem c3_lt (i j : Int) : c3 i j < 0 ↔ i < j := by unfold c3; split <;> (try split) <;> simp_all <;> first | decide | omega
theorem c3_gt (i j : Int) : 0 < c3 i j ↔ j < i := by unfold c3; split <;> (try split) <;> simp_all <;> first | decide | omega
theorem c3_eq (i j : Int) : c3 i j = 0 ↔ i = j := by unfold c3; split <;> (try split) <;> simp_all <;> first | decide | omega
theorem cmpV_int (i j : Int) (o : CmpOp) : cmpValue (some (compare i j)) o = c3 i j := by
  unfold c3
  by_cases h1 : i < j
  · have : compare i j = .lt := by simp [compare, compareOfLessAndEq, h1]
    rw [this, if_pos h1]; cases o <;> rfl
  · by_cases h2 : i = j
    · have : compare i j = .eq := by simp [compare, compareOfLessAndEq, h2]
      rw [this, if_neg h1, if_pos h2]; cases o <;> rfl
    · have : compare i j = .gt := by simp [compare, compareOfLessAndEq, h1, h2]
      rw [this, if_neg h1, if_neg h2]; cases o <;> rfl
theorem DS.cmpV {k : Nat} {i j : Int} {x y : UInt64} (hx : DS k i x) (hy : DS k j y) (o : CmpOp) : cmpValue (FP.dcmp x y) o = c3 i j := by rw [hx.cmp hy]; exact cmpV_int i j o
theorem whole_iff {i : Int} {s : Bool} {c : Nat} {q : Int} {N : Nat} (h : 0 ≤ q + N) : Whole i (.fin s c q) ↔ signed s c * ((2 ^ (q + N).toNat : Nat) : Int) = i * ((2 ^ N : Nat) : Int) := by
  show signed s (c * 2 ^ q.toNat) = i * ((2 ^ (-q).toNat : Nat) : Int) ↔ _
  rw [signed_mul]
  have e : q.toNat + N = (q + N).toNat + (-q).toNat := by omega
  have p1 : ((2 ^ N : Nat) : Int) ≠ 0 := by have := Nat.two_pow_pos N; omega
  have p2 : ((2 ^ (-q).toNat : Nat) : Int) ≠ 0 := by have := Nat.two_pow_pos (-q).toNat; omega
  have e1 : signed s c * ((2 ^ q.toNat : Nat) : Int) * ((2 ^ N : Nat) : Int) = signed s c * ((2 ^ (q + N).toNat : Nat) : Int) * ((2 ^ (-q).toNat : Nat) : Int) := by
    rw [Int.mul_assoc, Int.mul_assoc, ← Int.natCast_mul, ← Int.natCast_mul, ← Nat.pow_add, ← Nat.pow_add, e]
  constructor
  · intro hh
    refine Int.eq_of_mul_eq_mul_right p2 ?_
    rw [← e1, hh]; ac_rfl
  · intro hh
    refine Int.eq_of_mul_eq_mul_right p1 ?_
    rw [e1, hh]; ac_rfl
theorem DS.up {k : Nat} {i : Int} {x : UInt64} (h : DS k i x) (m : Nat) : DS (k + m) (i * ((2 ^ m : Nat) : Int)) x := by
  obtain ⟨s, c, q, e, hw⟩ := h.fin
  unfold DS; rw [e]
  show Whole _ (.fin s c (q + ((k + m : Nat) : Int)))
  rw [whole_iff (N := (-q).toNat) (by omega)]
  rw [whole_iff (N := (-q).toNat + m) (by omega)] at hw
  rw [show q + (k : Int) + (((-q).toNat + m : Nat) : Int) = q + ((k + m : Nat) : Int) + ((-q).toNat : Nat) by omega] at hw
  rw [hw, Nat.pow_add, Int.natCast_mul]; ac_rfl
theorem DS.cast {k k' : Nat} {i i' : Int} {x : UInt64} (h : DS k i x) (e1 : k = k') (e2 : i = i') : DS k' i' x := e1 ▸ e2 ▸ h
/-- the quotient, as the rounding of a ratio of whole numbers -/
theorem ds_quot {k m : Nat} {i j : Int} {x y : UInt64} (hx : DS k i x) (hy : DS m j y) (hj : j ≠ 0) :
    ∃ s t, signed s i.natAbs = i ∧ signed t j.natAbs = j ∧ val64 (FP.ddiv x y) = roundRatio b64 (s != t) i.natAbs j.natAbs ((m : Int) - k) := by
  obtain ⟨s, c, q, e, hw⟩ := hx.fin
  obtain ⟨t, d, r, e', hw'⟩ := hy.fin
  have hd : d ≠ 0 := fun z => hj ((whole_zero hw').mp z)
  have h1 := whole_natAbs hw
  have h2 := whole_natAbs hw'
  refine ⟨s, t, whole_signed hw, whole_signed hw', ?_⟩
  show val64 (Core.ddiv x y) = _
  rw [val64_ddiv, e, e']
  show (if d = 0 then _ else roundRatio b64 (s != t) c d (q - r)) = _
  rw [if_neg hd]
  have hj' : 0 < j.natAbs := by omega
  rw [roundRatio_congr (A' := i.natAbs) (B' := d) (e' := -(k : Int) - r) (by omega) (by omega) (by
    rw [show q - r - (-(k : Int) - r) = q + k by omega, show -(k : Int) - r - (q - r) = -(q + k) by omega, Nat.mul_right_comm, h1]; ac_rfl)]
  refine roundRatio_congr (by omega) hj' ?_
  rw [show -(k : Int) - r - ((m : Int) - k) = -(r + m) by omega, show (m : Int) - k - (-(k : Int) - r) = r + m by omega, Nat.mul_assoc, ← h2]; ac_rfl
theorem DS.div {k m n : Nat} {i j Q : Int} {x y : UInt64} (hx : DS k i x) (hy : DS m j y) (hj : j ≠ 0) (hQ : i * ((2 ^ (m + n) : Nat) : Int) = Q * j * ((2 ^ k : Nat) : Int)) (hb : Q.natAbs ≤ 2 ^ 53) (hn : n ≤ 1022) : DS n Q (FP.ddiv x y) := by
  obtain ⟨s, t, hs, ht, hv⟩ := ds_quot hx hy hj
  obtain ⟨c', q', hfit, hf⟩ := natFitS (s != t) hn hb
  have hj' : 0 < j.natAbs := by omega
  have hQn : i.natAbs * 2 ^ (m + n) = Q.natAbs * j.natAbs * 2 ^ k := by
    have := congrArg Int.natAbs hQ
    rwa [Int.natAbs_mul, Int.natAbs_mul, Int.natAbs_mul, Int.natAbs_natCast, Int.natAbs_natCast] at this
  have e1 : roundRatio b64 (s != t) i.natAbs j.natAbs ((m : Int) - k) = roundRatio b64 (s != t) Q.natAbs 1 (-(n : Int)) := by
    refine roundRatio_congr hj' (by decide) ?_
    rw [Nat.mul_one]
    have ea : m + n = ((m : Int) - k - -(n : Int)).toNat + min (m + n) k := by omega
    have eb : k = (-(n : Int) - ((m : Int) - k)).toNat + min (m + n) k := by omega
    generalize ((m : Int) - k - -(n : Int)).toNat = u at ea ⊢
    generalize (-(n : Int) - ((m : Int) - k)).toNat = w at eb ⊢
    have hQ2 : i.natAbs * 2 ^ (u + min (m + n) k) = Q.natAbs * j.natAbs * 2 ^ (w + min (m + n) k) := by rw [← ea, ← eb]; exact hQn
    rw [Nat.pow_add, Nat.pow_add, ← Nat.mul_assoc, ← Nat.mul_assoc] at hQ2
    exact Nat.eq_of_mul_eq_mul_right (Nat.two_pow_pos _) hQ2
  rw [e1, roundRatio_exact good_b64 (by decide) hfit hf] at hv
  unfold DS; rw [hv]
  show signed (s != t) (c' * 2 ^ (q' + (n : Int)).toNat) = Q * _
  rw [show -(n : Int) - q' = -(q' + n) by omega, show q' - -(n : Int) = q' + n by omega, Nat.mul_one] at hf
  rw [← hf, signed_mul]
  congr 1
  have hp : (0 : Int) < ((2 ^ (m + n) : Nat) : Int) := by have := Nat.two_pow_pos (m + n); omega
  have hp2 : (0 : Int) < ((2 ^ k : Nat) : Int) := by have := Nat.two_pow_pos k; omega
  generalize ((2 ^ (m + n) : Nat) : Int) = P1 at hQ hp
  generalize ((2 ^ k : Nat) : Int) = P2 at hQ hp2
  -- the sign of the quotient
  have key : signed (s != t) (Q.natAbs * (j.natAbs * j.natAbs)) = Q * (j.natAbs * j.natAbs : Nat) := by
    have e2 : signed (s != t) (i.natAbs * j.natAbs) = i * j := by rw [signed_xor, hs, ht]
    have e3 : i.natAbs * P1.natAbs = Q.natAbs * j.natAbs * P2.natAbs := by
      have := congrArg Int.natAbs hQ
      rwa [Int.natAbs_mul, Int.natAbs_mul, Int.natAbs_mul] at this
    have e4 : signed (s != t) (Q.natAbs * (j.natAbs * j.natAbs)) * P2 = Q * (j.natAbs * j.natAbs : Nat) * P2 := by
      have p2 : P2 = (P2.natAbs : Int) := by omega
      have p1 : P1 = (P1.natAbs : Int) := by omega
      calc signed (s != t) (Q.natAbs * (j.natAbs * j.natAbs)) * P2
          = signed (s != t) (Q.natAbs * (j.natAbs * j.natAbs) * P2.natAbs) := by rw [signed_mul _ (Q.natAbs * (j.natAbs * j.natAbs)), ← p2]
        _ = signed (s != t) (i.natAbs * j.natAbs * P1.natAbs) := by
            congr 1
            calc Q.natAbs * (j.natAbs * j.natAbs) * P2.natAbs = (Q.natAbs * j.natAbs * P2.natAbs) * j.natAbs := by ac_rfl
              _ = i.natAbs * j.natAbs * P1.natAbs := by rw [← e3]; ac_rfl
        _ = i * j * P1 := by rw [signed_mul, e2, ← p1]
        _ = (i * P1) * j := by ac_rfl
        _ = Q * (j * j) * P2 := by rw [hQ]; ac_rfl
        _ = Q * (j.natAbs * j.natAbs : Nat) * P2 := by rw [Int.natCast_mul, Int.natAbs_mul_self' j]
    exact Int.eq_of_mul_eq_mul_right (by omega) e4
  rw [signed_mul] at key
  exact Int.eq_of_mul_eq_mul_right (by have : 0 < j.natAbs * j.natAbs := Nat.mul_pos hj' hj'; omega) key
/-- by a power of two -/
theorem DS.divp {k t : Nat} {i : Int} {x y : UInt64} (hx : DS k i x) (hy : DS 0 ((2 ^ t : Nat) : Int) y) (hb : i.natAbs ≤ 2 ^ 53) (hn : k + t ≤ 1022) : DS (k + t) i (FP.ddiv x y) :=
  DS.div hx hy (by have := Nat.two_pow_pos t; omega) (by rw [Nat.zero_add, Nat.pow_add, Int.natCast_mul]; ac_rfl) hb hn
theorem sft_rem (k : Nat) (x y : Datum) : exactRemainder (sft k x) (sft k y) = sft k (exactRemainder x y) := by
  cases x with
  | nan => rfl
  | inf s => rfl
  | fin s c q =>
    cases y with
    | nan => rfl
    | inf t => rfl
    | fin t d r =>
      have h : min (q + (k : Int)) (r + k) = min q r + k := by omega
      have h1 : q + (k : Int) - (min q r + k) = q - min q r := by omega
      have h2 : r + (k : Int) - (min q r + k) = r - min q r := by omega
      show (if d = 0 then Datum.nan else .fin s (c * 2 ^ (q + (k : Int) - min (q + k) (r + k)).toNat % (d * 2 ^ (r + (k : Int) - min (q + k) (r + k)).toNat)) (min (q + k) (r + k))) = sft k (if d = 0 then Datum.nan else .fin s (c * 2 ^ (q - min q r).toNat % (d * 2 ^ (r - min q r).toNat)) (min q r))
      rw [h, h1, h2]; split <;> rfl
theorem signed_tmod {s : Bool} {i : Int} (hs : signed s i.natAbs = i) (j : Int) : signed s (i.natAbs % j.natAbs) = i.tmod j := by
  cases i with
  | ofNat a =>
    have e : Int.tmod (Int.ofNat a) j = ((a % j.natAbs : Nat) : Int) := by cases j <;> rfl
    rw [e]; show signed s (a % j.natAbs) = _
    have hs' : signed s a = (a : Int) := hs
    cases s with
    | false => rfl
    | true =>
      have h0 : a = 0 := by
        have : -(a : Int) = (a : Int) := hs'
        omega
      subst h0; rw [Nat.zero_mod]; rfl
  | negSucc a =>
    have e : Int.tmod (Int.negSucc a) j = -(((a + 1) % j.natAbs : Nat) : Int) := by cases j <;> rfl
    rw [e]; show signed s ((a + 1) % j.natAbs) = _
    cases s with
    | true => rfl
    | false =>
      have : ((a + 1 : Nat) : Int) = Int.negSucc a := hs
      omega
theorem whole_rem {i j : Int} {x y : Datum} (hx : Whole i x) (hy : Whole j y) (hj : j ≠ 0) : Whole (i.tmod j) (exactRemainder x y) := by
  cases x with
  | nan => exact hx.elim
  | inf => exact hx.elim
  | fin s c q =>
  cases y with
  | nan => exact hy.elim
  | inf => exact hy.elim
  | fin t d r =>
    have hd : d ≠ 0 := fun z => hj ((whole_zero hy).mp z)
    have h1 := congrArg Int.natAbs (whole_units hx (e := min q r) (by omega))
    have h2 := congrArg Int.natAbs (whole_units hy (e := min q r) (by omega))
    rw [Int.natAbs_mul, Int.natAbs_mul, Int.natAbs_natCast, Int.natAbs_natCast, natAbs_signed] at h1 h2
    show Whole _ (if d = 0 then _ else Datum.fin s (inUnits c q (min q r) % inUnits d r (min q r)) (min q r))
    rw [if_neg hd]
    show signed s (inUnits c q (min q r) % inUnits d r (min q r) * 2 ^ (min q r).toNat) = i.tmod j * ((2 ^ (-(min q r)).toNat : Nat) : Int)
    rw [← Nat.mul_mod_mul_right, h1, h2, Nat.mul_mod_mul_right, signed_mul, signed_tmod (whole_signed hx)]
theorem DS.rem {k : Nat} {i j : Int} {x y : UInt64} (hx : DS k i x) (hy : DS k j y) (hj : j ≠ 0) (hb : (i.tmod j).natAbs ≤ 2 ^ 53) (hk : k ≤ 1022) : DS k (i.tmod j) (FP.drem x y) := by
  show Whole _ (sft k (val64 (Core.drem x y)))
  rw [val64_drem]; refine ds_round hk hb ?_; rw [← sft_rem]; exact whole_rem hx hy hj
end Dyad
section Between
open Jvm.FP Jvm.FP.Core Jvm.Free.Fl
/-- the value in units of 2^-1074 -/
def zv (x : UInt64) : Int := zval b64 (val64 x)
def UU (k : Nat) : Int := ((2 ^ (1074 - k) : Nat) : Int)
theorem UU_pos (k : Nat) : 0 < UU k := by unfold UU; have := Nat.two_pow_pos (1074 - k); omega
/-- x is a number from lo / 2^k to hi / 2^k -/
def DI (k : Nat) (lo hi : Int) (x : UInt64) : Prop := DFin x ∧ lo * UU k ≤ zv x ∧ zv x ≤ hi * UU k
theorem whole_zvk {i : Int} {s : Bool} {c : Nat} {q : Int} {k : Nat} (hq : -1074 ≤ q) (hk : k ≤ 1074) (h : Whole i (.fin s c (q + (k : Int)))) : zval b64 (.fin s c q) = i * UU k := by
  rw [whole_iff (N := 1074 - k) (by omega)] at h
  unfold UU; rw [← h]
  show signed s (c * 2 ^ (q - b64.qmin).toNat) = _
  rw [b64_qmin, signed_mul, show q - -1074 = q + (k : Int) + ((1074 - k : Nat) : Int) by omega]
theorem DS.zeq {k : Nat} {i : Int} {x : UInt64} (h : DS k i x) (hk : k ≤ 1074) : zv x = i * UU k := by
  obtain ⟨s, c, q, e, hw⟩ := h.fin
  have hf := val64_fits x
  unfold zv; rw [e] at hf ⊢
  exact whole_zvk ((fits64 s c q).mp hf).2.1 hk hw
theorem DS.dfin {k : Nat} {i : Int} {x : UInt64} (h : DS k i x) : DFin x := by
  obtain ⟨s, c, q, e, -⟩ := h.fin; exact ⟨s, c, q, e⟩
theorem DS.di {k : Nat} {i : Int} {x : UInt64} (h : DS k i x) (hk : k ≤ 1074) : DI k i i x := ⟨h.dfin, Int.le_of_eq (h.zeq hk).symm, Int.le_of_eq (h.zeq hk)⟩
theorem DI.mono {k : Nat} {a b a' b' : Int} {x : UInt64} (h : DI k a b x) (h1 : a' ≤ a) (h2 : b ≤ b') : DI k a' b' x :=
  ⟨h.1, Int.le_trans (Int.mul_le_mul_of_nonneg_right h1 (Int.le_of_lt (UU_pos k))) h.2.1, Int.le_trans h.2.2 (Int.mul_le_mul_of_nonneg_right h2 (Int.le_of_lt (UU_pos k)))⟩
theorem DI.nn {k : Nat} {a b : Int} {x : UInt64} (h : DI k a b x) : NoNaN64 x := val64_no.mpr fun q => by
  obtain ⟨s, c, e, w⟩ := h.1; rw [w] at q; cases q
/-- i / 2^k is a double -/
def Rep (k : Nat) (i : Int) : Prop := ∃ s c q, Core.fits b64 (.fin s c q) ∧ zval b64 (.fin s c q) = i * UU k
theorem rep_of {k : Nat} {i : Int} (hk : k ≤ 1022) (hi : i.natAbs ≤ 2 ^ 53) : Rep k i := by
  obtain ⟨c, q, hf, hv⟩ := natFitS (decide (i < 0)) hk hi
  refine ⟨_, c, q, hf, whole_zvk ((fits64 _ c q).mp hf).2.1 (by omega) ?_⟩
  rw [show -(k : Int) - q = -(q + k) by omega, show q - -(k : Int) = q + k by omega, Nat.mul_one] at hv
  show signed (decide (i < 0)) (c * 2 ^ (q + (k : Int)).toNat) = i * _
  rw [← hv, signed_mul]; congr 1
  unfold signed
  by_cases h : i < 0 <;> simp [h] <;> omega
theorem rep_two {k : Nat} {i : Int} (h : Rep k i) (hs : i.natAbs ≤ 2 ^ 60) : Rep k (2 * i) := by
  obtain ⟨s, c, q, hf, hz⟩ := h
  have hU := UU_pos k
  rw [fits64] at hf
  by_cases h0 : c < 4503599627370496
  · have hq : q = -1074 := hf.2.2.2.resolve_right (by omega)
    refine ⟨s, 2 * c, q, (fits64 _ _ _).mpr ⟨by omega, by omega, by omega, Or.inl hq⟩, ?_⟩
    show signed s (2 * c * 2 ^ (q - b64.qmin).toNat) = _
    have hz' : signed s (c * 2 ^ (q - b64.qmin).toNat) = i * UU k := hz
    rw [show 2 * c * 2 ^ (q - b64.qmin).toNat = c * 2 ^ (q - b64.qmin).toNat * 2 by ac_rfl, signed_mul, hz']
    show i * UU k * 2 = 2 * i * UU k
    ac_rfl
  · have hz' : signed s (c * 2 ^ (q - b64.qmin).toNat) = i * UU k := hz
    have hq : q < 971 := by
      refine Int.not_le.mp fun hle => ?_
      have e1 : (c * 2 ^ (q - b64.qmin).toNat : Nat) = i.natAbs * (UU k).natAbs := by
        have := congrArg Int.natAbs hz'; rwa [natAbs_signed, Int.natAbs_mul] at this
      have e2 : (UU k).natAbs ≤ 2 ^ 1074 := by unfold UU; rw [Int.natAbs_natCast]; exact Nat.pow_le_pow_right (by decide) (by omega)
      have e3 : i.natAbs * (UU k).natAbs ≤ 2 ^ 60 * 2 ^ 1074 := Nat.mul_le_mul hs e2
      have e4 : 4503599627370496 * 2 ^ 2045 ≤ c * 2 ^ (q - b64.qmin).toNat := Nat.mul_le_mul (by omega) (Nat.pow_le_pow_right (by decide) (by rw [b64_qmin]; omega))
      have e5 : (2 : Nat) ^ 60 * 2 ^ 1074 < 4503599627370496 * 2 ^ 2045 := by rw [show (4503599627370496 : Nat) = 2 ^ 52 by decide, ← Nat.pow_add, ← Nat.pow_add]; exact Nat.pow_lt_pow_right (by decide) (by decide)
      generalize (2 : Nat) ^ 60 * 2 ^ 1074 = X1 at e3 e5
      generalize 4503599627370496 * (2 : Nat) ^ 2045 = X2 at e4 e5
      omega
    refine ⟨s, c, q + 1, (fits64 _ _ _).mpr ⟨hf.1, by omega, by omega, Or.inr (by omega)⟩, ?_⟩
    show signed s (c * 2 ^ (q + 1 - b64.qmin).toNat) = _
    rw [show (q + 1 - b64.qmin).toNat = (q - b64.qmin).toNat + 1 by rw [b64_qmin]; omega, Nat.pow_succ, ← Nat.mul_assoc, signed_mul, hz']
    show i * UU k * 2 = 2 * i * UU k
    ac_rfl
/-- a rounded datum between two numbers is a number -/
theorem fin_between {d V W : Datum} (hd : d ≠ .nan) (fV : Core.fits b64 V) (fW : Core.fits b64 W) (hV : ∃ s c q, V = .fin s c q) (hW : ∃ s c q, W = .fin s c q) (h1 : zval b64 V ≤ zval b64 d) (h2 : zval b64 d ≤ zval b64 W) : ∃ s c q, d = .fin s c q := by
  cases d with
  | nan => exact absurd rfl hd
  | fin s c q => exact ⟨s, c, q, rfl⟩
  | inf s =>
    exfalso
    obtain ⟨sv, cv, qv, rfl⟩ := hV
    obtain ⟨sw, cw, qw, rfl⟩ := hW
    have l1 : zmag b64 (.fin sv cv qv) < b64.tails * 2 ^ (b64.exps - 2) := zmag_lt_top good_b64 fV
    have l2 : zmag b64 (.fin sw cw qw) < b64.tails * 2 ^ (b64.exps - 2) := zmag_lt_top good_b64 fW
    have a1 : -(zmag b64 (.fin sv cv qv) : Int) ≤ zval b64 (.fin sv cv qv) := by unfold zval signed; split <;> omega
    have a2 : zval b64 (.fin sw cw qw) ≤ (zmag b64 (.fin sw cw qw) : Int) := by unfold zval signed; split <;> omega
    cases s with
    | false =>
      have : zval b64 (.inf false) = ((b64.tails * 2 ^ (b64.exps - 2) : Nat) : Int) := rfl
      omega
    | true =>
      have : zval b64 (.inf true) = -((b64.tails * 2 ^ (b64.exps - 2) : Nat) : Int) := rfl
      omega
theorem round_not_nan {x y : UInt64} (hx : DFin x) (hy : DFin y) : val64 (FP.dadd x y) ≠ .nan := by
  obtain ⟨s, c, q, e⟩ := hx; obtain ⟨t, d, r, e'⟩ := hy
  show val64 (Core.dadd x y) ≠ .nan
  rw [val64_dadd, e, e']
  intro h
  have := roundRatio_cases b64 (sumSign s t (sumUnits s c q t d r (min q r))) (sumUnits s c q t d r (min q r)).natAbs 1 (min q r)
  have h' : roundRatio b64 (sumSign s t (sumUnits s c q t d r (min q r))) (sumUnits s c q t d r (min q r)).natAbs 1 (min q r) = .nan := h
  rcases this with ⟨c', q', w⟩ | w <;> rw [w] at h' <;> cases h'
theorem DI.addR {k : Nat} {a b c d A B : Int} {x y : UInt64} (hx : DI k a b x) (hy : DI k c d y) (hA : A ≤ a + c) (hB : b + d ≤ B) (rA : Rep k A) (rB : Rep k B) : DI k A B (FP.dadd x y) := by
  have hn := round_not_nan hx.1 hy.1
  have hU := UU_pos k
  obtain ⟨s1, c1, q1, f1, z1⟩ := rA
  obtain ⟨s2, c2, q2, f2, z2⟩ := rB
  have e : val64 (FP.dadd x y) = Core.round b64 (exactSum (val64 x) (val64 y)) := val64_dadd x y
  have hs1 : A * UU k ≤ zv x + zv y := by
    have : A * UU k ≤ (a + c) * UU k := Int.mul_le_mul_of_nonneg_right hA (Int.le_of_lt hU)
    rw [Int.add_mul] at this; have := hx.2.1; have := hy.2.1; omega
  have hs2 : zv x + zv y ≤ B * UU k := by
    have : (b + d) * UU k ≤ B * UU k := Int.mul_le_mul_of_nonneg_right hB (Int.le_of_lt hU)
    rw [Int.add_mul] at this; have := hx.2.2; have := hy.2.2; omega
  have g1 : zval b64 (.fin s1 c1 q1) ≤ zval b64 (val64 (FP.dadd x y)) := by
    rw [e]; exact sum_ge good_b64 hx.1 hy.1 (val64_fits x) (val64_fits y) f1 (by simp) (by rw [z1]; exact hs1)
  have g2 : zval b64 (val64 (FP.dadd x y)) ≤ zval b64 (.fin s2 c2 q2) := by
    rw [e]; exact sum_le good_b64 hx.1 hy.1 (val64_fits x) (val64_fits y) f2 (by simp) (by rw [z2]; exact hs2)
  refine ⟨fin_between hn f1 f2 ⟨_, _, _, rfl⟩ ⟨_, _, _, rfl⟩ g1 g2, ?_, ?_⟩
  · rw [← z1]; exact g1
  · rw [← z2]; exact g2
theorem DI.add {k : Nat} {a b c d : Int} {x y : UInt64} (hx : DI k a b x) (hy : DI k c d y) (hk : k ≤ 1022) (h1 : (a + c).natAbs ≤ 2 ^ 53) (h2 : (b + d).natAbs ≤ 2 ^ 53) : DI k (a + c) (b + d) (FP.dadd x y) :=
  hx.addR hy (Int.le_refl _) (Int.le_refl _) (rep_of hk h1) (rep_of hk h2)
theorem DI.sub {k : Nat} {a b c d : Int} {x y : UInt64} (hx : DI k a b x) (hy : DI k c d y) (hk : k ≤ 1022) (h1 : (a - d).natAbs ≤ 2 ^ 53) (h2 : (b - c).natAbs ≤ 2 ^ 53) : DI k (a - d) (b - c) (FP.dsub x y) := by
  have e : FP.dsub x y = FP.dadd x (Core.dneg y) := Core.dsub_eq x y
  have hz : zv (Core.dneg y) = -zv y := by unfold zv; rw [Core.val64_dneg, zval_negate]
  have hf : DFin (Core.dneg y) := by obtain ⟨s, c, q, w⟩ := hy.1; exact ⟨!s, c, q, by rw [Core.val64_dneg, w]; rfl⟩
  have hy' : DI k (-d) (-c) (Core.dneg y) := ⟨hf, by rw [hz, Int.neg_mul]; have := hy.2.2; omega, by rw [hz, Int.neg_mul]; have := hy.2.1; omega⟩
  rw [e, Int.sub_eq_add_neg, Int.sub_eq_add_neg]
  exact hx.add hy' hk (by rw [← Int.sub_eq_add_neg]; exact h1) (by rw [← Int.sub_eq_add_neg]; exact h2)
/-- by a whole number above nought -/
theorem DI.div {k : Nat} {a b A B j : Int} {x y : UInt64} (hx : DI k a b x) (hy : DS 0 j y) (hj : 0 < j) (hA : A * j ≤ a) (hB : b ≤ B * j) (rA : Rep k A) (rB : Rep k B) : DI k A B (FP.ddiv x y) := by
  have hU := UU_pos k
  obtain ⟨s, c, q, e⟩ := hx.1
  obtain ⟨t, d, r, e', hw'⟩ := hy.fin
  have hr0 : r + ((0 : Nat) : Int) = r := by simp
  rw [hr0] at hw'
  have hd : d ≠ 0 := fun z => by have := (whole_zero hw').mp z; omega
  have ht : t = false := by rw [whole_sign hw' (by omega)]; simp; omega
  have h2 := whole_natAbs hw'
  have hfx := val64_fits x
  rw [e] at hfx
  have hq := ((fits64 s c q).mp hfx).2.1
  generalize hN : zmag b64 (.fin s c q) = N
  have hN' : N = c * 2 ^ (q + 1074).toNat := by
    rw [← hN]; show c * 2 ^ (q - b64.qmin).toNat = _; rw [b64_qmin, show q - -1074 = q + 1074 by omega]
  have hzx : zv x = signed s N := by unfold zv; rw [e]; show signed s _ = _; rw [hN]
  have hj' : 0 < j.natAbs := by omega
  have ev : val64 (FP.ddiv x y) = roundRatio b64 s N j.natAbs b64.qmin := by
    show val64 (Core.ddiv x y) = _
    rw [val64_ddiv, e, e', ht]
    show (if d = 0 then _ else roundRatio b64 (s != false) c d (q - r)) = _
    rw [if_neg hd, show (s != false) = s by cases s <;> rfl]
    rw [roundRatio_congr (A' := N) (B' := d) (e' := -1074 - r) (by omega) (by omega) (by
      rw [show q - r - (-1074 - r) = q + 1074 by omega, show (-1074 - r - (q - r)).toNat = 0 by omega, hN', Nat.pow_zero, Nat.mul_one]; ac_rfl)]
    rw [b64_qmin]
    refine roundRatio_congr (by omega) hj' ?_
    rw [show -1074 - r - -1074 = -r by omega, show -1074 - (-1074 - r) = r by omega, Nat.mul_assoc, ← h2]; ac_rfl
  obtain ⟨s1, c1, q1, f1, z1⟩ := rA
  obtain ⟨s2, c2, q2, f2, z2⟩ := rB
  have hle : ∀ {sv : Bool} {cv : Nat} {qv : Int}, Core.fits b64 (.fin sv cv qv) → N ≤ zmag b64 (.fin sv cv qv) * j.natAbs → zmag b64 (roundRatio b64 s N j.natAbs b64.qmin) ≤ zmag b64 (.fin sv cv qv) := fun fv h =>
    zmag_roundRatio_le good_b64 hj' fv (by simp) (Int.le_refl _) (Int.le_refl _) (by
      rw [Int.sub_self]; show N * 2 ^ (b64.qmin - b64.qmin).toNat ≤ _; rw [Int.sub_self]; simpa using h)
  have hge : ∀ {sv : Bool} {cv : Nat} {qv : Int}, Core.fits b64 (.fin sv cv qv) → zmag b64 (.fin sv cv qv) * j.natAbs ≤ N → zmag b64 (.fin sv cv qv) ≤ zmag b64 (roundRatio b64 s N j.natAbs b64.qmin) := fun fv h =>
    zmag_roundRatio_ge good_b64 hj' fv (Int.le_refl _) (Int.le_refl _) (by
      rw [Int.sub_self]; show _ ≤ N * 2 ^ (b64.qmin - b64.qmin).toNat; rw [Int.sub_self]; simpa using h)
  have hsg : sgn (roundRatio b64 s N j.natAbs b64.qmin) = s := sgn_roundRatio ..
  have hzr : zval b64 (val64 (FP.ddiv x y)) = signed s (zmag b64 (roundRatio b64 s N j.natAbs b64.qmin)) := by rw [ev]; unfold zval; rw [hsg]
  have hjj : (j.natAbs : Int) = j := by omega
  have x1 := hx.2.1; have x2 := hx.2.2
  rw [hzx] at x1 x2
  -- A*U*j ≤ signed s N ≤ B*U*j
  have y1 : A * UU k * j ≤ signed s N := by
    have : A * j * UU k ≤ a * UU k := Int.mul_le_mul_of_nonneg_right hA (Int.le_of_lt hU)
    rw [show A * UU k * j = A * j * UU k by ac_rfl]; omega
  have y2 : signed s N ≤ B * UU k * j := by
    have : b * UU k ≤ B * j * UU k := Int.mul_le_mul_of_nonneg_right hB (Int.le_of_lt hU)
    rw [show B * UU k * j = B * j * UU k by ac_rfl]; omega
  have zm1 : (zmag b64 (.fin s1 c1 q1) : Int) = (A * UU k).natAbs := by
    have := congrArg Int.natAbs z1; unfold zval at this; rw [natAbs_signed] at this; omega
  have zm2 : (zmag b64 (.fin s2 c2 q2) : Int) = (B * UU k).natAbs := by
    have := congrArg Int.natAbs z2; unfold zval at this; rw [natAbs_signed] at this; omega
  show DFin (FP.ddiv x y) ∧ A * UU k ≤ zv (FP.ddiv x y) ∧ zv (FP.ddiv x y) ≤ B * UU k
  generalize A * UU k = P at z1 y1 zm1 ⊢
  generalize B * UU k = Q at z2 y2 zm2 ⊢
  have conv : ∀ (u : Int) (z : Nat), (z : Int) = u.natAbs → ((z * j.natAbs : Nat) : Int) = (if 0 ≤ u then u * j else -(u * j)) := by
    intro u z hz
    rw [Int.natCast_mul, hz, hjj]
    split
    · rw [Int.natAbs_of_nonneg (by omega)]
    · rw [show (u.natAbs : Int) = -u by omega, Int.neg_mul]
  have cP := conv P _ zm1
  have cQ := conv Q _ zm2
  have pj : ∀ u : Int, (0 ≤ u → 0 ≤ u * j) ∧ (u < 0 → u * j < 0) := fun u => ⟨fun h => Int.mul_nonneg h (by omega), fun h => Int.mul_neg_of_neg_of_pos h hj⟩
  have pP := pj P; have pQ := pj Q
  have L1 : P ≤ zval b64 (val64 (FP.ddiv x y)) := by
    rw [hzr]
    cases s with
    | false =>
      have y1' : P * j ≤ (N : Int) := y1
      show P ≤ ((zmag b64 (roundRatio b64 false N j.natAbs b64.qmin) : Nat) : Int)
      by_cases h0 : 0 ≤ P
      · rw [if_pos h0] at cP
        have := hge f1 (by omega)
        omega
      · omega
    | true =>
      have y1' : P * j ≤ -(N : Int) := y1
      show P ≤ -((zmag b64 (roundRatio b64 true N j.natAbs b64.qmin) : Nat) : Int)
      by_cases h0 : 0 ≤ P
      · have hN0 : N = 0 := by have := pP.1 h0; omega
        rw [if_pos h0] at cP
        have hP0 : P * j = 0 := by have := pP.1 h0; omega
        have hPz : P = 0 := by rcases Int.mul_eq_zero.mp hP0 with h | h <;> omega
        have := hle f1 (by omega)
        omega
      · rw [if_neg h0] at cP
        have := hle f1 (by omega)
        omega
  have L2 : zval b64 (val64 (FP.ddiv x y)) ≤ Q := by
    rw [hzr]
    cases s with
    | false =>
      have y2' : (N : Int) ≤ Q * j := y2
      show ((zmag b64 (roundRatio b64 false N j.natAbs b64.qmin) : Nat) : Int) ≤ Q
      by_cases h0 : 0 ≤ Q
      · rw [if_pos h0] at cQ
        have := hle f2 (by omega)
        omega
      · have := pQ.2 (by omega); omega
    | true =>
      have y2' : -(N : Int) ≤ Q * j := y2
      show -((zmag b64 (roundRatio b64 true N j.natAbs b64.qmin) : Nat) : Int) ≤ Q
      by_cases h0 : 0 ≤ Q
      · omega
      · rw [if_neg h0] at cQ
        have := hge f2 (by omega)
        omega
  have hn : val64 (FP.ddiv x y) ≠ .nan := by
    rw [ev]; intro h
    rcases roundRatio_cases b64 s N j.natAbs b64.qmin with ⟨c', q', w⟩ | w <;> rw [w] at h <;> cases h
  exact ⟨fin_between hn f1 f2 ⟨_, _, _, rfl⟩ ⟨_, _, _, rfl⟩ (by rw [z1]; exact L1) (by rw [z2]; exact L2), L1, L2⟩
theorem cmp_zv {x y : UInt64} (hx : DFin x) (hy : DFin y) : FP.dcmp x y = some (compare (zv x) (zv y)) := by
  obtain ⟨s, c, q, e⟩ := hx; obtain ⟨t, d, r, e'⟩ := hy
  have hx' : val64 x ≠ .nan := by rw [e]; simp
  have hy' : val64 y ≠ .nan := by rw [e']; simp
  exact order_zval good_b64 (val64_fits x) (val64_fits y) hx' hy'
theorem DI.cmpV {k : Nat} {a b c d : Int} {x y : UInt64} (hx : DI k a b x) (hy : DI k c d y) (h : b < c) (o : CmpOp) : cmpValue (FP.dcmp x y) o = -1 := by
  have hU := UU_pos k
  have : b * UU k < c * UU k := Int.mul_lt_mul_of_pos_right h hU
  rw [cmp_zv hx.1 hy.1, cmpV_int]; unfold c3; rw [if_pos (by have := hx.2.2; have := hy.2.1; omega)]
theorem UU_succ (k : Nat) (hk : k + 1 ≤ 1074) : UU k = 2 * UU (k + 1) := by
  unfold UU
  rw [show 1074 - k = (1074 - (k + 1)) + 1 by omega, Nat.pow_succ, Int.natCast_mul, Int.mul_comm]; rfl
theorem UU_two : UU 0 = 2 * UU 1 := UU_succ 0 (by decide)
/-- a double of 2^51 or more is a whole number of halves -/
theorem di_half {lo hi : Int} {x : UInt64} (h : DI 0 lo hi x) (hb : (2251799813685248 : Int) ≤ lo ∨ hi ≤ -2251799813685248) : ∃ i, DS 1 i x ∧ lo * 2 ≤ i ∧ i ≤ hi * 2 := by
  obtain ⟨s, c, q, e⟩ := h.1
  have hf := val64_fits x
  rw [e, fits64] at hf
  have hz : zv x = signed s (c * 2 ^ (q + 1074).toNat) := by
    unfold zv; rw [e]; show signed s (c * 2 ^ (q - b64.qmin).toNat) = _; rw [b64_qmin, show q - -1074 = q + 1074 by omega]
  obtain ⟨P, hP⟩ : ∃ P, P = (2 : Nat) ^ (1074 - 2) := ⟨_, rfl⟩
  have hp0 : 0 < P := by rw [hP]; exact Nat.two_pow_pos _
  obtain ⟨PP, hPP⟩ : ∃ PP, PP = UU 0 := ⟨_, rfl⟩
  have hu : PP = (P : Int) * 4 := by
    have u1 : UU 0 = 2 * UU 1 := UU_succ 0 (by decide)
    have u2 : UU 1 = 2 * UU 2 := UU_succ 1 (by decide)
    have u3 : UU 2 = (P : Int) := by rw [hP]; rfl
    omega
  have hq : -1 ≤ q := by
    refine Int.not_lt.mp fun hlt => ?_
    have e1 : (q + 1074).toNat ≤ 1074 - 2 := by omega
    have e2 : c * 2 ^ (q + 1074).toNat ≤ 9007199254740991 * P := by rw [hP]; exact Nat.mul_le_mul (by omega) (Nat.pow_le_pow_right (by decide) e1)
    have h1 := h.2.1; have h2 := h.2.2
    rw [hz, ← hPP] at h1 h2
    generalize c * 2 ^ (q + 1074).toNat = W at e2 h1 h2
    have a1 : signed s W ≤ (W : Int) := by unfold signed; split <;> omega
    have a2 : -(W : Int) ≤ signed s W := by unfold signed; split <;> omega
    rcases hb with hb | hb
    · have : 2251799813685248 * PP ≤ lo * PP := Int.mul_le_mul_of_nonneg_right hb (by omega)
      omega
    · have : hi * PP ≤ -2251799813685248 * PP := Int.mul_le_mul_of_nonneg_right hb (by omega)
      omega
  have hd : DS 1 (signed s (c * 2 ^ (q + 1).toNat)) x := by
    unfold DS; rw [e]
    show signed s (c * 2 ^ (q + ((1 : Nat) : Int)).toNat) = _
    rw [show (-(q + ((1 : Nat) : Int))).toNat = 0 by omega]; simp
  refine ⟨_, hd, ?_, ?_⟩
  · have h1 := h.2.1
    rw [hd.zeq (by decide), UU_two, ← Int.mul_assoc] at h1
    exact Int.le_of_mul_le_mul_right h1 (UU_pos 1)
  · have h1 := h.2.2
    rw [hd.zeq (by decide), UU_two, ← Int.mul_assoc] at h1
    exact Int.le_of_mul_le_mul_right h1 (UU_pos 1)
/-- a sum that is a whole number of the coarser scale -/
theorem DS.add_half {k : Nat} {i j Q : Int} {x y : UInt64} (hx : DS (k + 1) i x) (hy : DS (k + 1) j y) (e : i + j = Q * 2) (hb : Q.natAbs ≤ 2 ^ 53) (hk : k ≤ 1022) : DS k Q (FP.dadd x y) := by
  show Whole _ (sft k (val64 (Core.dadd x y)))
  rw [val64_dadd]; refine ds_round hk hb ?_
  have h := whole_sum hx hy
  rw [sft_sum, e] at h
  generalize exactSum (val64 x) (val64 y) = d at h ⊢
  cases d with
  | nan => exact h.elim
  | inf s => exact h.elim
  | fin s c q =>
    have h' : Whole (Q * 2) (.fin s c (q + ((k + 1 : Nat) : Int))) := h
    show Whole Q (.fin s c (q + (k : Int)))
    rw [whole_iff (N := (-q).toNat) (by omega)] at h'
    rw [whole_iff (N := (-q).toNat + 1) (by omega)]
    rw [show q + (k : Int) + (((-q).toNat + 1 : Nat) : Int) = q + ((k + 1 : Nat) : Int) + ((-q).toNat : Nat) by omega, h', Nat.pow_succ, Int.natCast_mul]
    show Q * 2 * _ = Q * (_ * 2)
    ac_rfl
end Between

theorem own_c4 {v : Int32} (h1 : 1 ≤ v.toInt) (h2 : v.toInt ≤ 4) : v = 1 ∨ v = 2 ∨ v = 3 ∨ v = 4 := by
  have e : ∀ k : Int32, v.toInt = k.toInt → v = k := fun k h => Int32.toInt_inj.mp h
  rcases (show v.toInt = 1 ∨ v.toInt = 2 ∨ v.toInt = 3 ∨ v.toInt = 4 by omega) with h | h | h | h
  · exact Or.inl (e 1 h)
  · exact Or.inr (Or.inl (e 2 h))
  · exact Or.inr (Or.inr (Or.inl (e 3 h)))
  · exact Or.inr (Or.inr (Or.inr (e 4 h)))
theorem own_rep4 {i : Int} (h : i.natAbs ≤ 2 ^ 53) : Rep 0 (2 * (2 * i)) := rep_two (rep_two (rep_of (by decide) h) (by omega)) (by omega)

theorem d1_0 : decode method_2_code 0 = .ok (.iload_n 0, 1) := by decide +kernel
theorem d1_1 : decode method_2_code 1 = .ok (.iconst 1, 1) := by decide +kernel
theorem d1_2 : decode method_2_code 2 = .ok (.if_icmp .ne 11, 3) := by decide +kernel
theorem d1_5 : decode method_2_code 5 = .ok (.iconst 1, 1) := by decide +kernel
theorem d1_6 : decode method_2_code 6 = .ok (.newarray .double, 2) := by decide +kernel
theorem d1_8 : decode method_2_code 8 = .ok (.dup, 1) := by decide +kernel
theorem d1_9 : decode method_2_code 9 = .ok (.iconst 0, 1) := by decide +kernel
theorem d1_10 : decode method_2_code 10 = .ok (.dload_n 1, 1) := by decide +kernel
theorem d1_11 : decode method_2_code 11 = .ok (.dastore, 1) := by decide +kernel
theorem d1_12 : decode method_2_code 12 = .ok (.areturn, 1) := by decide +kernel
theorem pn0 : plainName "com/example/listino/listino/stats/MomentsMeanPinLaw" = true := by first | (simp [plainName, overriddenIn]; done) | decide +kernel
theorem ef1_rm1_1 (m : MethodId) (x0 : Int32) (x1 : UInt64) (x2 : UInt64) (x3 : UInt64) (x4 : UInt64) : entryFrame m #[(.int x0), (.double x1), (.double x2), (.double x3), (.double x4)] 9 = mkF m 0 #[.val (.int x0), .val (.double x1), .second, .val (.double x2), .second, .val (.double x3), .second, .val (.double x4), .second] [] := by first | (simp [entryFrame, mkF, argsToLocals, Value.category]; done) | rfl
def Q1_1 (Z : State) (y0 : UInt64) (y1 : UInt64) (y2 : UInt64) (y3 : UInt64) (h0 : Heap) (n0 : Nat) (v : Option Value) (h : Heap) (L : List Loc) : Prop := ∃ (b : Addr) (kb : ClassId), v = some (.ref b) ∧ h0.size ≤ b ∧ Fr n0 L ∧ Keep h0 h [] ∧ Arv Z h b kb .double 1 [(.double y0)] (.double 0)
set_option maxRecDepth 65536 in
set_option maxHeartbeats 40000000 in
theorem rm1_1 (l : Launch) (Z : State) (a0 : Array Value) (hw : ∀ d ∈ tables_1, d.before a0 Z = true) (ws : List Jvm.Cond) (y0 : UInt64) (y1 : UInt64) (y2 : UInt64) (y3 : UInt64) (h0 : Heap) (n0 : Nat) (Z0 : n0 ≤ h0.size) :
    MetFree l (⟨"com/example/listino/listino/stats/MomentsMeanPinLaw", "build", "(IDDDD)[D"⟩ : MethodName) (head1 (Jvm.Cond.code (⟨"com/example/listino/listino/stats/MomentsMeanPinLaw", "build", "(IDDDD)[D"⟩ : MethodName) method_2_code 9 (some (.array .double)) :: ws) ({ frames := 0, cells := 1, slots := 1, locals := 0 } : Room)) (fun aa UU => aa = #[(.int (1 : Int32)), (.double y0), (.double y1), (.double y2), (.double y3)] ∧ Z.Warmed39 UU.vm ∧ UU.heap = h0) (fun _ _ _ _ _ => True) (fun _ UU oo UU' => ∃ vv LL, oo = .returned vv ∧ Q1_1 Z y0 y1 y2 y3 h0 n0 vv UU'.heap LL ∧ FrameEnd UU oo UU' LL ({ frames := 0, cells := 1, slots := 1, locals := 0 } : Room).cells ({ frames := 0, cells := 1, slots := 1, locals := 0 } : Room).slots) := by
  refine MetFree.of_bodySF (plainFor_of_name pn0) hisR ?_
  intro p e s m args below meth c s₁ Bd hml0 hP hK
  obtain ⟨rfl, hZ, hh⟩ := hP
  have hx := Bd.exec
  have hby := Bd.bytes
  have hlk : meth.locks = false := BodyLoose.notSynchronized Bd
  have hret := Bd.returns
  have hml : c.maxLocals = 9 := hml0
  have hown : s.vm.findClass "com/example/listino/listino/stats/MomentsMeanPinLaw" = some m.cls := findClass_of_methodNamed Bd.named
  have hnm := (name_of_methodNamed Bd.named Bd.method).1
  have X0 : Stand p l e ({ frames := 0, cells := 1, slots := 1, locals := 0 } : Room) s m #[(.int (1 : Int32)), (.double y0), (.double y1), (.double y2), (.double y3)] below meth c s₁ [] 0 0 := Stand.of_body Bd
  have e0 : s₁.heap = h0 := by rw [← hh, Bd.state]; rfl
  have N0 := Fr.nil n0
  show Dn p e below s (Q1_1 Z y0 y1 y2 y3 h0 n0) ({ frames := 0, cells := 1, slots := 1, locals := 0 } : Room).cells ({ frames := 0, cells := 1, slots := 1, locals := 0 } : Room).slots (s₁.setTop (entryFrame m #[(.int (1 : Int32)), (.double y0), (.double y1), (.double y2), (.double y3)] 9))
  refine Dn.st (fun _ kk => castTop (ef1_rm1_1 m (1 : Int32) y0 y1 y2 y3) kk) ?_
  show Dn p e below s _ _ _ (s₁.setTop (mkF m 0 #[.val (.int (1 : Int32)), .val (.double y0), .second, .val (.double y1), .second, .val (.double y2), .second, .val (.double y3), .second] []))
  refine Dn.st (fun _ kk => XS.iloadN X0.here hx rfl (hb hby d1_0) rfl  (XS.iconst X0.here hx rfl (hb hby d1_1) (kk))) ?_
  show Dn p e below s _ _ _ (s₁.setTop (mkF m 2 #[.val (.int (1 : Int32)), .val (.double y0), .second, .val (.double y1), .second, .val (.double y2), .second, .val (.double y3), .second] [(.int (1 : Int32)), (.int (1 : Int32))]))
  have hc2 : (1 : Int32) = (1 : Int32) := by decide
  refine Dn.st (fun _ kk => XS.icmpNo X0.here hx rfl (hb hby d1_2) rfl (teq hc2).2 (XS.iconst X0.here hx rfl (hb hby d1_5) (kk))) ?_
  show Dn p e below s _ _ _ (s₁.setTop (mkF m 6 #[.val (.int (1 : Int32)), .val (.double y0), .second, .val (.double y1), .second, .val (.double y2), .second, .val (.double y3), .second] [(.int (1 : Int32))]))
  obtain ⟨T6, h6, k6, X6, e6, E6, A6, st6⟩ := newP X0 hx hZ (hw _ (List.mem_of_getElem? (i := 4) rfl)) e0 (g := (mkF m 6 #[.val (.int (1 : Int32)), .val (.double y0), .second, .val (.double y1), .second, .val (.double y2), .second, .val (.double y3), .second] [(.int (1 : Int32))])) rfl (hb hby d1_6) rfl (by decide) (cap := 1) (by decide) (by decide) (by decide) (by decide)
  obtain ⟨b6, g6⟩ : ∃ z, z = h0.size := ⟨_, rfl⟩
  rw [← g6] at A6 st6
  have gz_b6 : h0.size ≤ b6 := Nat.le_trans (Keep.refl h0 []).1 (Nat.le_of_eq g6.symm)
  have K6 := (Keep.refl h0 []).ext E6
  have gn_b6 : n0 ≤ b6 := Nat.le_trans Z0 (Nat.le_of_eq g6.symm)
  have Z6 : n0 ≤ h6.size := Nat.le_trans Z0 E6.1
  have V_b6 : Arv Z h6 b6 k6 .double (1 : Int32) [(.double (0 : UInt64))] (.double (0 : UInt64)) := (Arv.new A6 (by decide)).pad (pad_rep [] (.double (0 : UInt64)) 1)
  refine Dn.st st6 ?_
  show Dn p e below s _ _ _ (T6.setTop (mkF m 8 #[.val (.int (1 : Int32)), .val (.double y0), .second, .val (.double y1), .second, .val (.double y2), .second, .val (.double y3), .second] [(.ref b6)]))
  refine Dn.st (fun _ kk => XS.dup X6.here hx rfl (hb hby d1_8) rfl rfl (XS.iconst X6.here hx rfl (hb hby d1_9) (XS.dloadN X6.here hx rfl (hb hby d1_10) rfl  (kk)))) ?_
  show Dn p e below s _ _ _ (T6.setTop (mkF m 11 #[.val (.int (1 : Int32)), .val (.double y0), .second, .val (.double y1), .second, .val (.double y2), .second, .val (.double y3), .second] [(.double y0), (.int (0 : Int32)), (.ref b6), (.ref b6)]))
  have Vc_b6_11 := V_b6
  obtain ⟨cl_b6_11, Ar_b6_11, q_b6_11, S_b6_11, N_b6_11, H_b6_11, G_b6_11⟩ := Vc_b6_11
  have hin11 : ¬ ((0 : Int32) < 0 ∨ cl_b6_11.slots.size ≤ ((0 : Int32)).toNatClampNeg) := inb_of S_b6_11 ⟨by decide, by decide⟩
  obtain ⟨T11, h11, X11, e11, W11, st11⟩ := stD X6 hx hZ e6 Ar_b6_11 (j := (0 : Int32)) hin11 (g := (mkF m 11 #[.val (.int (1 : Int32)), .val (.double y0), .second, .val (.double y1), .second, .val (.double y2), .second, .val (.double y3), .second] [(.double y0), (.int (0 : Int32)), (.ref b6), (.ref b6)])) rfl rfl (hb hby d1_11)
  have V_b6_11 := Arv.set Ar_b6_11 q_b6_11 S_b6_11 N_b6_11 H_b6_11 G_b6_11 rfl W11 0 rfl (Nat.le_of_ble_eq_true rfl)
  have K11 := K6.wr W11 (Or.inr gz_b6)
  have N11 := Fr.snoc X11 N0 gn_b6
  have Z11 : n0 ≤ h11.size := Nat.le_trans Z6 (Keep.of_wr W11).1
  refine Dn.st st11 ?_
  show Dn p e below s _ _ _ (T11.setTop (mkF m 12 #[.val (.int (1 : Int32)), .val (.double y0), .second, .val (.double y1), .second, .val (.double y2), .second, .val (.double y3), .second] [(.ref b6)]))
  exact Dn.ret X11 hlk hx hret rfl (Or.inr (Or.inr (Or.inr (Or.inr ⟨rfl, rfl, rfl⟩)))) (hb hby d1_12) (by rw [e11]; exact ⟨b6, k6, rfl, gz_b6, N11, K11, V_b6_11⟩) (by decide) (by decide)

theorem d1_13 : decode method_2_code 13 = .ok (.iload_n 0, 1) := by decide +kernel
theorem d1_14 : decode method_2_code 14 = .ok (.iconst 2, 1) := by decide +kernel
theorem d1_15 : decode method_2_code 15 = .ok (.if_icmp .ne 15, 3) := by decide +kernel
theorem d1_18 : decode method_2_code 18 = .ok (.iconst 2, 1) := by decide +kernel
theorem d1_19 : decode method_2_code 19 = .ok (.newarray .double, 2) := by decide +kernel
theorem d1_21 : decode method_2_code 21 = .ok (.dup, 1) := by decide +kernel
theorem d1_22 : decode method_2_code 22 = .ok (.iconst 0, 1) := by decide +kernel
theorem d1_23 : decode method_2_code 23 = .ok (.dload_n 1, 1) := by decide +kernel
theorem d1_24 : decode method_2_code 24 = .ok (.dastore, 1) := by decide +kernel
theorem d1_25 : decode method_2_code 25 = .ok (.dup, 1) := by decide +kernel
theorem d1_26 : decode method_2_code 26 = .ok (.iconst 1, 1) := by decide +kernel
theorem d1_27 : decode method_2_code 27 = .ok (.dload_n 3, 1) := by decide +kernel
theorem d1_28 : decode method_2_code 28 = .ok (.dastore, 1) := by decide +kernel
theorem d1_29 : decode method_2_code 29 = .ok (.areturn, 1) := by decide +kernel
theorem ef1_rm1_2 (m : MethodId) (x0 : Int32) (x1 : UInt64) (x2 : UInt64) (x3 : UInt64) (x4 : UInt64) : entryFrame m #[(.int x0), (.double x1), (.double x2), (.double x3), (.double x4)] 9 = mkF m 0 #[.val (.int x0), .val (.double x1), .second, .val (.double x2), .second, .val (.double x3), .second, .val (.double x4), .second] [] := by first | (simp [entryFrame, mkF, argsToLocals, Value.category]; done) | rfl
def Q1_2 (Z : State) (y0 : UInt64) (y1 : UInt64) (y2 : UInt64) (y3 : UInt64) (h0 : Heap) (n0 : Nat) (v : Option Value) (h : Heap) (L : List Loc) : Prop := ∃ (b : Addr) (kb : ClassId), v = some (.ref b) ∧ h0.size ≤ b ∧ Fr n0 L ∧ Keep h0 h [] ∧ Arv Z h b kb .double 2 [(.double y0), (.double y1)] (.double 0)
set_option maxRecDepth 65536 in
set_option maxHeartbeats 40000000 in
theorem rm1_2 (l : Launch) (Z : State) (a0 : Array Value) (hw : ∀ d ∈ tables_1, d.before a0 Z = true) (ws : List Jvm.Cond) (y0 : UInt64) (y1 : UInt64) (y2 : UInt64) (y3 : UInt64) (h0 : Heap) (n0 : Nat) (Z0 : n0 ≤ h0.size) :
    MetFree l (⟨"com/example/listino/listino/stats/MomentsMeanPinLaw", "build", "(IDDDD)[D"⟩ : MethodName) (head1 (Jvm.Cond.code (⟨"com/example/listino/listino/stats/MomentsMeanPinLaw", "build", "(IDDDD)[D"⟩ : MethodName) method_2_code 9 (some (.array .double)) :: ws) ({ frames := 0, cells := 1, slots := 2, locals := 0 } : Room)) (fun aa UU => aa = #[(.int (2 : Int32)), (.double y0), (.double y1), (.double y2), (.double y3)] ∧ Z.Warmed39 UU.vm ∧ UU.heap = h0) (fun _ _ _ _ _ => True) (fun _ UU oo UU' => ∃ vv LL, oo = .returned vv ∧ Q1_2 Z y0 y1 y2 y3 h0 n0 vv UU'.heap LL ∧ FrameEnd UU oo UU' LL ({ frames := 0, cells := 1, slots := 2, locals := 0 } : Room).cells ({ frames := 0, cells := 1, slots := 2, locals := 0 } : Room).slots) := by
  refine MetFree.of_bodySF (plainFor_of_name pn0) hisR ?_
  intro p e s m args below meth c s₁ Bd hml0 hP hK
  obtain ⟨rfl, hZ, hh⟩ := hP
  have hx := Bd.exec
  have hby := Bd.bytes
  have hlk : meth.locks = false := BodyLoose.notSynchronized Bd
  have hret := Bd.returns
  have hml : c.maxLocals = 9 := hml0
  have hown : s.vm.findClass "com/example/listino/listino/stats/MomentsMeanPinLaw" = some m.cls := findClass_of_methodNamed Bd.named
  have hnm := (name_of_methodNamed Bd.named Bd.method).1
  have X0 : Stand p l e ({ frames := 0, cells := 1, slots := 2, locals := 0 } : Room) s m #[(.int (2 : Int32)), (.double y0), (.double y1), (.double y2), (.double y3)] below meth c s₁ [] 0 0 := Stand.of_body Bd
  have e0 : s₁.heap = h0 := by rw [← hh, Bd.state]; rfl
  have N0 := Fr.nil n0
  show Dn p e below s (Q1_2 Z y0 y1 y2 y3 h0 n0) ({ frames := 0, cells := 1, slots := 2, locals := 0 } : Room).cells ({ frames := 0, cells := 1, slots := 2, locals := 0 } : Room).slots (s₁.setTop (entryFrame m #[(.int (2 : Int32)), (.double y0), (.double y1), (.double y2), (.double y3)] 9))
  refine Dn.st (fun _ kk => castTop (ef1_rm1_2 m (2 : Int32) y0 y1 y2 y3) kk) ?_
  show Dn p e below s _ _ _ (s₁.setTop (mkF m 0 #[.val (.int (2 : Int32)), .val (.double y0), .second, .val (.double y1), .second, .val (.double y2), .second, .val (.double y3), .second] []))
  refine Dn.st (fun _ kk => XS.iloadN X0.here hx rfl (hb hby d1_0) rfl  (XS.iconst X0.here hx rfl (hb hby d1_1) (kk))) ?_
  show Dn p e below s _ _ _ (s₁.setTop (mkF m 2 #[.val (.int (2 : Int32)), .val (.double y0), .second, .val (.double y1), .second, .val (.double y2), .second, .val (.double y3), .second] [(.int (1 : Int32)), (.int (2 : Int32))]))
  have hc2 : ¬ ((2 : Int32) = (1 : Int32)) := by decide
  refine Dn.st (fun _ kk => XS.icmpYes X0.here hx rfl (pc0 := 2) (pc' := 13) rfl (hb hby d1_2) rfl (feq hc2).2 (by decide) (by decide) (XS.iloadN X0.here hx rfl (hb hby d1_13) rfl  (XS.iconst X0.here hx rfl (hb hby d1_14) (kk)))) ?_
  show Dn p e below s _ _ _ (s₁.setTop (mkF m 15 #[.val (.int (2 : Int32)), .val (.double y0), .second, .val (.double y1), .second, .val (.double y2), .second, .val (.double y3), .second] [(.int (2 : Int32)), (.int (2 : Int32))]))
  have hc15 : (2 : Int32) = (2 : Int32) := by decide
  refine Dn.st (fun _ kk => XS.icmpNo X0.here hx rfl (hb hby d1_15) rfl (teq hc15).2 (XS.iconst X0.here hx rfl (hb hby d1_18) (kk))) ?_
  show Dn p e below s _ _ _ (s₁.setTop (mkF m 19 #[.val (.int (2 : Int32)), .val (.double y0), .second, .val (.double y1), .second, .val (.double y2), .second, .val (.double y3), .second] [(.int (2 : Int32))]))
  obtain ⟨T19, h19, k19, X19, e19, E19, A19, st19⟩ := newP X0 hx hZ (hw _ (List.mem_of_getElem? (i := 4) rfl)) e0 (g := (mkF m 19 #[.val (.int (2 : Int32)), .val (.double y0), .second, .val (.double y1), .second, .val (.double y2), .second, .val (.double y3), .second] [(.int (2 : Int32))])) rfl (hb hby d1_19) rfl (by decide) (cap := 2) (by decide) (by decide) (by decide) (by decide)
  obtain ⟨b19, g19⟩ : ∃ z, z = h0.size := ⟨_, rfl⟩
  rw [← g19] at A19 st19
  have gz_b19 : h0.size ≤ b19 := Nat.le_trans (Keep.refl h0 []).1 (Nat.le_of_eq g19.symm)
  have K19 := (Keep.refl h0 []).ext E19
  have gn_b19 : n0 ≤ b19 := Nat.le_trans Z0 (Nat.le_of_eq g19.symm)
  have Z19 : n0 ≤ h19.size := Nat.le_trans Z0 E19.1
  have V_b19 : Arv Z h19 b19 k19 .double (2 : Int32) [(.double (0 : UInt64)), (.double (0 : UInt64))] (.double (0 : UInt64)) := (Arv.new A19 (by decide)).pad (pad_rep [] (.double (0 : UInt64)) 2)
  refine Dn.st st19 ?_
  show Dn p e below s _ _ _ (T19.setTop (mkF m 21 #[.val (.int (2 : Int32)), .val (.double y0), .second, .val (.double y1), .second, .val (.double y2), .second, .val (.double y3), .second] [(.ref b19)]))
  refine Dn.st (fun _ kk => XS.dup X19.here hx rfl (hb hby d1_21) rfl rfl (XS.iconst X19.here hx rfl (hb hby d1_22) (XS.dloadN X19.here hx rfl (hb hby d1_23) rfl  (kk)))) ?_
  show Dn p e below s _ _ _ (T19.setTop (mkF m 24 #[.val (.int (2 : Int32)), .val (.double y0), .second, .val (.double y1), .second, .val (.double y2), .second, .val (.double y3), .second] [(.double y0), (.int (0 : Int32)), (.ref b19), (.ref b19)]))
  have Vc_b19_24 := V_b19
  obtain ⟨cl_b19_24, Ar_b19_24, q_b19_24, S_b19_24, N_b19_24, H_b19_24, G_b19_24⟩ := Vc_b19_24
  have hin24 : ¬ ((0 : Int32) < 0 ∨ cl_b19_24.slots.size ≤ ((0 : Int32)).toNatClampNeg) := inb_of S_b19_24 ⟨by decide, by decide⟩
  obtain ⟨T24, h24, X24, e24, W24, st24⟩ := stD X19 hx hZ e19 Ar_b19_24 (j := (0 : Int32)) hin24 (g := (mkF m 24 #[.val (.int (2 : Int32)), .val (.double y0), .second, .val (.double y1), .second, .val (.double y2), .second, .val (.double y3), .second] [(.double y0), (.int (0 : Int32)), (.ref b19), (.ref b19)])) rfl rfl (hb hby d1_24)
  have V_b19_24 := Arv.set Ar_b19_24 q_b19_24 S_b19_24 N_b19_24 H_b19_24 G_b19_24 rfl W24 0 rfl (Nat.le_of_ble_eq_true rfl)
  have K24 := K19.wr W24 (Or.inr gz_b19)
  have N24 := Fr.snoc X24 N0 gn_b19
  have Z24 : n0 ≤ h24.size := Nat.le_trans Z19 (Keep.of_wr W24).1
  refine Dn.st st24 ?_
  show Dn p e below s _ _ _ (T24.setTop (mkF m 25 #[.val (.int (2 : Int32)), .val (.double y0), .second, .val (.double y1), .second, .val (.double y2), .second, .val (.double y3), .second] [(.ref b19)]))
  refine Dn.st (fun _ kk => XS.dup X24.here hx rfl (hb hby d1_25) rfl rfl (XS.iconst X24.here hx rfl (hb hby d1_26) (XS.dloadN X24.here hx rfl (hb hby d1_27) rfl  (kk)))) ?_
  show Dn p e below s _ _ _ (T24.setTop (mkF m 28 #[.val (.int (2 : Int32)), .val (.double y0), .second, .val (.double y1), .second, .val (.double y2), .second, .val (.double y3), .second] [(.double y1), (.int (1 : Int32)), (.ref b19), (.ref b19)]))
  have Vc_b19_28 := V_b19_24
  obtain ⟨cl_b19_28, Ar_b19_28, q_b19_28, S_b19_28, N_b19_28, H_b19_28, G_b19_28⟩ := Vc_b19_28
  have hin28 : ¬ ((1 : Int32) < 0 ∨ cl_b19_28.slots.size ≤ ((1 : Int32)).toNatClampNeg) := inb_of S_b19_28 ⟨by decide, by decide⟩
  obtain ⟨T28, h28, X28, e28, W28, st28⟩ := stD X24 hx hZ e24 Ar_b19_28 (j := (1 : Int32)) hin28 (g := (mkF m 28 #[.val (.int (2 : Int32)), .val (.double y0), .second, .val (.double y1), .second, .val (.double y2), .second, .val (.double y3), .second] [(.double y1), (.int (1 : Int32)), (.ref b19), (.ref b19)])) rfl rfl (hb hby d1_28)
  have V_b19_28 := Arv.set Ar_b19_28 q_b19_28 S_b19_28 N_b19_28 H_b19_28 G_b19_28 rfl W28 1 rfl (Nat.le_of_ble_eq_true rfl)
  have K28 := K24.wr W28 (Or.inr gz_b19)
  have N28 := Fr.snoc X28 N24 gn_b19
  have Z28 : n0 ≤ h28.size := Nat.le_trans Z24 (Keep.of_wr W28).1
  refine Dn.st st28 ?_
  show Dn p e below s _ _ _ (T28.setTop (mkF m 29 #[.val (.int (2 : Int32)), .val (.double y0), .second, .val (.double y1), .second, .val (.double y2), .second, .val (.double y3), .second] [(.ref b19)]))
  exact Dn.ret X28 hlk hx hret rfl (Or.inr (Or.inr (Or.inr (Or.inr ⟨rfl, rfl, rfl⟩)))) (hb hby d1_29) (by rw [e28]; exact ⟨b19, k19, rfl, gz_b19, N28, K28, V_b19_28⟩) (by decide) (by decide)

theorem d1_30 : decode method_2_code 30 = .ok (.iload_n 0, 1) := by decide +kernel
theorem d1_31 : decode method_2_code 31 = .ok (.iconst 3, 1) := by decide +kernel
theorem d1_32 : decode method_2_code 32 = .ok (.if_icmp .ne 20, 3) := by decide +kernel
theorem d1_35 : decode method_2_code 35 = .ok (.iconst 3, 1) := by decide +kernel
theorem d1_36 : decode method_2_code 36 = .ok (.newarray .double, 2) := by decide +kernel
theorem d1_38 : decode method_2_code 38 = .ok (.dup, 1) := by decide +kernel
theorem d1_39 : decode method_2_code 39 = .ok (.iconst 0, 1) := by decide +kernel
theorem d1_40 : decode method_2_code 40 = .ok (.dload_n 1, 1) := by decide +kernel
theorem d1_41 : decode method_2_code 41 = .ok (.dastore, 1) := by decide +kernel
theorem d1_42 : decode method_2_code 42 = .ok (.dup, 1) := by decide +kernel
theorem d1_43 : decode method_2_code 43 = .ok (.iconst 1, 1) := by decide +kernel
theorem d1_44 : decode method_2_code 44 = .ok (.dload_n 3, 1) := by decide +kernel
theorem d1_45 : decode method_2_code 45 = .ok (.dastore, 1) := by decide +kernel
theorem d1_46 : decode method_2_code 46 = .ok (.dup, 1) := by decide +kernel
theorem d1_47 : decode method_2_code 47 = .ok (.iconst 2, 1) := by decide +kernel
theorem d1_48 : decode method_2_code 48 = .ok (.dload 5, 2) := by decide +kernel
theorem d1_50 : decode method_2_code 50 = .ok (.dastore, 1) := by decide +kernel
theorem d1_51 : decode method_2_code 51 = .ok (.areturn, 1) := by decide +kernel
theorem ef1_rm1_3 (m : MethodId) (x0 : Int32) (x1 : UInt64) (x2 : UInt64) (x3 : UInt64) (x4 : UInt64) : entryFrame m #[(.int x0), (.double x1), (.double x2), (.double x3), (.double x4)] 9 = mkF m 0 #[.val (.int x0), .val (.double x1), .second, .val (.double x2), .second, .val (.double x3), .second, .val (.double x4), .second] [] := by first | (simp [entryFrame, mkF, argsToLocals, Value.category]; done) | rfl
def Q1_3 (Z : State) (y0 : UInt64) (y1 : UInt64) (y2 : UInt64) (y3 : UInt64) (h0 : Heap) (n0 : Nat) (v : Option Value) (h : Heap) (L : List Loc) : Prop := ∃ (b : Addr) (kb : ClassId), v = some (.ref b) ∧ h0.size ≤ b ∧ Fr n0 L ∧ Keep h0 h [] ∧ Arv Z h b kb .double 3 [(.double y0), (.double y1), (.double y2)] (.double 0)
set_option maxRecDepth 65536 in
set_option maxHeartbeats 40000000 in
theorem rm1_3 (l : Launch) (Z : State) (a0 : Array Value) (hw : ∀ d ∈ tables_1, d.before a0 Z = true) (ws : List Jvm.Cond) (y0 : UInt64) (y1 : UInt64) (y2 : UInt64) (y3 : UInt64) (h0 : Heap) (n0 : Nat) (Z0 : n0 ≤ h0.size) :
    MetFree l (⟨"com/example/listino/listino/stats/MomentsMeanPinLaw", "build", "(IDDDD)[D"⟩ : MethodName) (head1 (Jvm.Cond.code (⟨"com/example/listino/listino/stats/MomentsMeanPinLaw", "build", "(IDDDD)[D"⟩ : MethodName) method_2_code 9 (some (.array .double)) :: ws) ({ frames := 0, cells := 1, slots := 3, locals := 0 } : Room)) (fun aa UU => aa = #[(.int (3 : Int32)), (.double y0), (.double y1), (.double y2), (.double y3)] ∧ Z.Warmed39 UU.vm ∧ UU.heap = h0) (fun _ _ _ _ _ => True) (fun _ UU oo UU' => ∃ vv LL, oo = .returned vv ∧ Q1_3 Z y0 y1 y2 y3 h0 n0 vv UU'.heap LL ∧ FrameEnd UU oo UU' LL ({ frames := 0, cells := 1, slots := 3, locals := 0 } : Room).cells ({ frames := 0, cells := 1, slots := 3, locals := 0 } : Room).slots) := by
  refine MetFree.of_bodySF (plainFor_of_name pn0) hisR ?_
  intro p e s m args below meth c s₁ Bd hml0 hP hK
  obtain ⟨rfl, hZ, hh⟩ := hP
  have hx := Bd.exec
  have hby := Bd.bytes
  have hlk : meth.locks = false := BodyLoose.notSynchronized Bd
  have hret := Bd.returns
  have hml : c.maxLocals = 9 := hml0
  have hown : s.vm.findClass "com/example/listino/listino/stats/MomentsMeanPinLaw" = some m.cls := findClass_of_methodNamed Bd.named
  have hnm := (name_of_methodNamed Bd.named Bd.method).1
  have X0 : Stand p l e ({ frames := 0, cells := 1, slots := 3, locals := 0 } : Room) s m #[(.int (3 : Int32)), (.double y0), (.double y1), (.double y2), (.double y3)] below meth c s₁ [] 0 0 := Stand.of_body Bd
  have e0 : s₁.heap = h0 := by rw [← hh, Bd.state]; rfl
  have N0 := Fr.nil n0
  show Dn p e below s (Q1_3 Z y0 y1 y2 y3 h0 n0) ({ frames := 0, cells := 1, slots := 3, locals := 0 } : Room).cells ({ frames := 0, cells := 1, slots := 3, locals := 0 } : Room).slots (s₁.setTop (entryFrame m #[(.int (3 : Int32)), (.double y0), (.double y1), (.double y2), (.double y3)] 9))
  refine Dn.st (fun _ kk => castTop (ef1_rm1_3 m (3 : Int32) y0 y1 y2 y3) kk) ?_
  show Dn p e below s _ _ _ (s₁.setTop (mkF m 0 #[.val (.int (3 : Int32)), .val (.double y0), .second, .val (.double y1), .second, .val (.double y2), .second, .val (.double y3), .second] []))
  refine Dn.st (fun _ kk => XS.iloadN X0.here hx rfl (hb hby d1_0) rfl  (XS.iconst X0.here hx rfl (hb hby d1_1) (kk))) ?_
  show Dn p e below s _ _ _ (s₁.setTop (mkF m 2 #[.val (.int (3 : Int32)), .val (.double y0), .second, .val (.double y1), .second, .val (.double y2), .second, .val (.double y3), .second] [(.int (1 : Int32)), (.int (3 : Int32))]))
  have hc2 : ¬ ((3 : Int32) = (1 : Int32)) := by decide
  refine Dn.st (fun _ kk => XS.icmpYes X0.here hx rfl (pc0 := 2) (pc' := 13) rfl (hb hby d1_2) rfl (feq hc2).2 (by decide) (by decide) (XS.iloadN X0.here hx rfl (hb hby d1_13) rfl  (XS.iconst X0.here hx rfl (hb hby d1_14) (kk)))) ?_
  show Dn p e below s _ _ _ (s₁.setTop (mkF m 15 #[.val (.int (3 : Int32)), .val (.double y0), .second, .val (.double y1), .second, .val (.double y2), .second, .val (.double y3), .second] [(.int (2 : Int32)), (.int (3 : Int32))]))
  have hc15 : ¬ ((3 : Int32) = (2 : Int32)) := by decide
  refine Dn.st (fun _ kk => XS.icmpYes X0.here hx rfl (pc0 := 15) (pc' := 30) rfl (hb hby d1_15) rfl (feq hc15).2 (by decide) (by decide) (XS.iloadN X0.here hx rfl (hb hby d1_30) rfl  (XS.iconst X0.here hx rfl (hb hby d1_31) (kk)))) ?_
  show Dn p e below s _ _ _ (s₁.setTop (mkF m 32 #[.val (.int (3 : Int32)), .val (.double y0), .second, .val (.double y1), .second, .val (.double y2), .second, .val (.double y3), .second] [(.int (3 : Int32)), (.int (3 : Int32))]))
  have hc32 : (3 : Int32) = (3 : Int32) := by decide
  refine Dn.st (fun _ kk => XS.icmpNo X0.here hx rfl (hb hby d1_32) rfl (teq hc32).2 (XS.iconst X0.here hx rfl (hb hby d1_35) (kk))) ?_
  show Dn p e below s _ _ _ (s₁.setTop (mkF m 36 #[.val (.int (3 : Int32)), .val (.double y0), .second, .val (.double y1), .second, .val (.double y2), .second, .val (.double y3), .second] [(.int (3 : Int32))]))
  obtain ⟨T36, h36, k36, X36, e36, E36, A36, st36⟩ := newP X0 hx hZ (hw _ (List.mem_of_getElem? (i := 4) rfl)) e0 (g := (mkF m 36 #[.val (.int (3 : Int32)), .val (.double y0), .second, .val (.double y1), .second, .val (.double y2), .second, .val (.double y3), .second] [(.int (3 : Int32))])) rfl (hb hby d1_36) rfl (by decide) (cap := 3) (by decide) (by decide) (by decide) (by decide)
  obtain ⟨b36, g36⟩ : ∃ z, z = h0.size := ⟨_, rfl⟩
  rw [← g36] at A36 st36
  have gz_b36 : h0.size ≤ b36 := Nat.le_trans (Keep.refl h0 []).1 (Nat.le_of_eq g36.symm)
  have K36 := (Keep.refl h0 []).ext E36
  have gn_b36 : n0 ≤ b36 := Nat.le_trans Z0 (Nat.le_of_eq g36.symm)
  have Z36 : n0 ≤ h36.size := Nat.le_trans Z0 E36.1
  have V_b36 : Arv Z h36 b36 k36 .double (3 : Int32) [(.double (0 : UInt64)), (.double (0 : UInt64)), (.double (0 : UInt64))] (.double (0 : UInt64)) := (Arv.new A36 (by decide)).pad (pad_rep [] (.double (0 : UInt64)) 3)
  refine Dn.st st36 ?_
  show Dn p e below s _ _ _ (T36.setTop (mkF m 38 #[.val (.int (3 : Int32)), .val (.double y0), .second, .val (.double y1), .second, .val (.double y2), .second, .val (.double y3), .second] [(.ref b36)]))
  refine Dn.st (fun _ kk => XS.dup X36.here hx rfl (hb hby d1_38) rfl rfl (XS.iconst X36.here hx rfl (hb hby d1_39) (XS.dloadN X36.here hx rfl (hb hby d1_40) rfl  (kk)))) ?_
  show Dn p e below s _ _ _ (T36.setTop (mkF m 41 #[.val (.int (3 : Int32)), .val (.double y0), .second, .val (.double y1), .second, .val (.double y2), .second, .val (.double y3), .second] [(.double y0), (.int (0 : Int32)), (.ref b36), (.ref b36)]))
  have Vc_b36_41 := V_b36
  obtain ⟨cl_b36_41, Ar_b36_41, q_b36_41, S_b36_41, N_b36_41, H_b36_41, G_b36_41⟩ := Vc_b36_41
  have hin41 : ¬ ((0 : Int32) < 0 ∨ cl_b36_41.slots.size ≤ ((0 : Int32)).toNatClampNeg) := inb_of S_b36_41 ⟨by decide, by decide⟩
  obtain ⟨T41, h41, X41, e41, W41, st41⟩ := stD X36 hx hZ e36 Ar_b36_41 (j := (0 : Int32)) hin41 (g := (mkF m 41 #[.val (.int (3 : Int32)), .val (.double y0), .second, .val (.double y1), .second, .val (.double y2), .second, .val (.double y3), .second] [(.double y0), (.int (0 : Int32)), (.ref b36), (.ref b36)])) rfl rfl (hb hby d1_41)
  have V_b36_41 := Arv.set Ar_b36_41 q_b36_41 S_b36_41 N_b36_41 H_b36_41 G_b36_41 rfl W41 0 rfl (Nat.le_of_ble_eq_true rfl)
  have K41 := K36.wr W41 (Or.inr gz_b36)
  have N41 := Fr.snoc X41 N0 gn_b36
  have Z41 : n0 ≤ h41.size := Nat.le_trans Z36 (Keep.of_wr W41).1
  refine Dn.st st41 ?_
  show Dn p e below s _ _ _ (T41.setTop (mkF m 42 #[.val (.int (3 : Int32)), .val (.double y0), .second, .val (.double y1), .second, .val (.double y2), .second, .val (.double y3), .second] [(.ref b36)]))
  refine Dn.st (fun _ kk => XS.dup X41.here hx rfl (hb hby d1_42) rfl rfl (XS.iconst X41.here hx rfl (hb hby d1_43) (XS.dloadN X41.here hx rfl (hb hby d1_44) rfl  (kk)))) ?_
  show Dn p e below s _ _ _ (T41.setTop (mkF m 45 #[.val (.int (3 : Int32)), .val (.double y0), .second, .val (.double y1), .second, .val (.double y2), .second, .val (.double y3), .second] [(.double y1), (.int (1 : Int32)), (.ref b36), (.ref b36)]))
  have Vc_b36_45 := V_b36_41
  obtain ⟨cl_b36_45, Ar_b36_45, q_b36_45, S_b36_45, N_b36_45, H_b36_45, G_b36_45⟩ := Vc_b36_45
  have hin45 : ¬ ((1 : Int32) < 0 ∨ cl_b36_45.slots.size ≤ ((1 : Int32)).toNatClampNeg) := inb_of S_b36_45 ⟨by decide, by decide⟩
  obtain ⟨T45, h45, X45, e45, W45, st45⟩ := stD X41 hx hZ e41 Ar_b36_45 (j := (1 : Int32)) hin45 (g := (mkF m 45 #[.val (.int (3 : Int32)), .val (.double y0), .second, .val (.double y1), .second, .val (.double y2), .second, .val (.double y3), .second] [(.double y1), (.int (1 : Int32)), (.ref b36), (.ref b36)])) rfl rfl (hb hby d1_45)
  have V_b36_45 := Arv.set Ar_b36_45 q_b36_45 S_b36_45 N_b36_45 H_b36_45 G_b36_45 rfl W45 1 rfl (Nat.le_of_ble_eq_true rfl)
  have K45 := K41.wr W45 (Or.inr gz_b36)
  have N45 := Fr.snoc X45 N41 gn_b36
  have Z45 : n0 ≤ h45.size := Nat.le_trans Z41 (Keep.of_wr W45).1
  refine Dn.st st45 ?_
  show Dn p e below s _ _ _ (T45.setTop (mkF m 46 #[.val (.int (3 : Int32)), .val (.double y0), .second, .val (.double y1), .second, .val (.double y2), .second, .val (.double y3), .second] [(.ref b36)]))
  refine Dn.st (fun _ kk => XS.dup X45.here hx rfl (hb hby d1_46) rfl rfl (XS.iconst X45.here hx rfl (hb hby d1_47) (XS.dload X45.here hx rfl (hb hby d1_48) rfl  (kk)))) ?_
  show Dn p e below s _ _ _ (T45.setTop (mkF m 50 #[.val (.int (3 : Int32)), .val (.double y0), .second, .val (.double y1), .second, .val (.double y2), .second, .val (.double y3), .second] [(.double y2), (.int (2 : Int32)), (.ref b36), (.ref b36)]))
  have Vc_b36_50 := V_b36_45
  obtain ⟨cl_b36_50, Ar_b36_50, q_b36_50, S_b36_50, N_b36_50, H_b36_50, G_b36_50⟩ := Vc_b36_50
  have hin50 : ¬ ((2 : Int32) < 0 ∨ cl_b36_50.slots.size ≤ ((2 : Int32)).toNatClampNeg) := inb_of S_b36_50 ⟨by decide, by decide⟩
  obtain ⟨T50, h50, X50, e50, W50, st50⟩ := stD X45 hx hZ e45 Ar_b36_50 (j := (2 : Int32)) hin50 (g := (mkF m 50 #[.val (.int (3 : Int32)), .val (.double y0), .second, .val (.double y1), .second, .val (.double y2), .second, .val (.double y3), .second] [(.double y2), (.int (2 : Int32)), (.ref b36), (.ref b36)])) rfl rfl (hb hby d1_50)
  have V_b36_50 := Arv.set Ar_b36_50 q_b36_50 S_b36_50 N_b36_50 H_b36_50 G_b36_50 rfl W50 2 rfl (Nat.le_of_ble_eq_true rfl)
  have K50 := K45.wr W50 (Or.inr gz_b36)
  have N50 := Fr.snoc X50 N45 gn_b36
  have Z50 : n0 ≤ h50.size := Nat.le_trans Z45 (Keep.of_wr W50).1
  refine Dn.st st50 ?_
  show Dn p e below s _ _ _ (T50.setTop (mkF m 51 #[.val (.int (3 : Int32)), .val (.double y0), .second, .val (.double y1), .second, .val (.double y2), .second, .val (.double y3), .second] [(.ref b36)]))
  exact Dn.ret X50 hlk hx hret rfl (Or.inr (Or.inr (Or.inr (Or.inr ⟨rfl, rfl, rfl⟩)))) (hb hby d1_51) (by rw [e50]; exact ⟨b36, k36, rfl, gz_b36, N50, K50, V_b36_50⟩) (by decide) (by decide)

theorem d1_52 : decode method_2_code 52 = .ok (.iconst 4, 1) := by decide +kernel
theorem d1_53 : decode method_2_code 53 = .ok (.newarray .double, 2) := by decide +kernel
theorem d1_55 : decode method_2_code 55 = .ok (.dup, 1) := by decide +kernel
theorem d1_56 : decode method_2_code 56 = .ok (.iconst 0, 1) := by decide +kernel
theorem d1_57 : decode method_2_code 57 = .ok (.dload_n 1, 1) := by decide +kernel
theorem d1_58 : decode method_2_code 58 = .ok (.dastore, 1) := by decide +kernel
theorem d1_59 : decode method_2_code 59 = .ok (.dup, 1) := by decide +kernel
theorem d1_60 : decode method_2_code 60 = .ok (.iconst 1, 1) := by decide +kernel
theorem d1_61 : decode method_2_code 61 = .ok (.dload_n 3, 1) := by decide +kernel
theorem d1_62 : decode method_2_code 62 = .ok (.dastore, 1) := by decide +kernel
theorem d1_63 : decode method_2_code 63 = .ok (.dup, 1) := by decide +kernel
theorem d1_64 : decode method_2_code 64 = .ok (.iconst 2, 1) := by decide +kernel
theorem d1_65 : decode method_2_code 65 = .ok (.dload 5, 2) := by decide +kernel
theorem d1_67 : decode method_2_code 67 = .ok (.dastore, 1) := by decide +kernel
theorem d1_68 : decode method_2_code 68 = .ok (.dup, 1) := by decide +kernel
theorem d1_69 : decode method_2_code 69 = .ok (.iconst 3, 1) := by decide +kernel
theorem d1_70 : decode method_2_code 70 = .ok (.dload 7, 2) := by decide +kernel
theorem d1_72 : decode method_2_code 72 = .ok (.dastore, 1) := by decide +kernel
theorem d1_73 : decode method_2_code 73 = .ok (.areturn, 1) := by decide +kernel
theorem ef1_rm1_4 (m : MethodId) (x0 : Int32) (x1 : UInt64) (x2 : UInt64) (x3 : UInt64) (x4 : UInt64) : entryFrame m #[(.int x0), (.double x1), (.double x2), (.double x3), (.double x4)] 9 = mkF m 0 #[.val (.int x0), .val (.double x1), .second, .val (.double x2), .second, .val (.double x3), .second, .val (.double x4), .second] [] := by first | (simp [entryFrame, mkF, argsToLocals, Value.category]; done) | rfl
def Q1_4 (Z : State) (y0 : UInt64) (y1 : UInt64) (y2 : UInt64) (y3 : UInt64) (h0 : Heap) (n0 : Nat) (v : Option Value) (h : Heap) (L : List Loc) : Prop := ∃ (b : Addr) (kb : ClassId), v = some (.ref b) ∧ h0.size ≤ b ∧ Fr n0 L ∧ Keep h0 h [] ∧ Arv Z h b kb .double 4 [(.double y0), (.double y1), (.double y2), (.double y3)] (.double 0)
set_option maxRecDepth 65536 in
set_option maxHeartbeats 40000000 in
theorem rm1_4 (l : Launch) (Z : State) (a0 : Array Value) (hw : ∀ d ∈ tables_1, d.before a0 Z = true) (ws : List Jvm.Cond) (y0 : UInt64) (y1 : UInt64) (y2 : UInt64) (y3 : UInt64) (h0 : Heap) (n0 : Nat) (Z0 : n0 ≤ h0.size) :
    MetFree l (⟨"com/example/listino/listino/stats/MomentsMeanPinLaw", "build", "(IDDDD)[D"⟩ : MethodName) (head1 (Jvm.Cond.code (⟨"com/example/listino/listino/stats/MomentsMeanPinLaw", "build", "(IDDDD)[D"⟩ : MethodName) method_2_code 9 (some (.array .double)) :: ws) ({ frames := 0, cells := 1, slots := 4, locals := 0 } : Room)) (fun aa UU => aa = #[(.int (4 : Int32)), (.double y0), (.double y1), (.double y2), (.double y3)] ∧ Z.Warmed39 UU.vm ∧ UU.heap = h0) (fun _ _ _ _ _ => True) (fun _ UU oo UU' => ∃ vv LL, oo = .returned vv ∧ Q1_4 Z y0 y1 y2 y3 h0 n0 vv UU'.heap LL ∧ FrameEnd UU oo UU' LL ({ frames := 0, cells := 1, slots := 4, locals := 0 } : Room).cells ({ frames := 0, cells := 1, slots := 4, locals := 0 } : Room).slots) := by
  refine MetFree.of_bodySF (plainFor_of_name pn0) hisR ?_
  intro p e s m args below meth c s₁ Bd hml0 hP hK
  obtain ⟨rfl, hZ, hh⟩ := hP
  have hx := Bd.exec
  have hby := Bd.bytes
  have hlk : meth.locks = false := BodyLoose.notSynchronized Bd
  have hret := Bd.returns
  have hml : c.maxLocals = 9 := hml0
  have hown : s.vm.findClass "com/example/listino/listino/stats/MomentsMeanPinLaw" = some m.cls := findClass_of_methodNamed Bd.named
  have hnm := (name_of_methodNamed Bd.named Bd.method).1
  have X0 : Stand p l e ({ frames := 0, cells := 1, slots := 4, locals := 0 } : Room) s m #[(.int (4 : Int32)), (.double y0), (.double y1), (.double y2), (.double y3)] below meth c s₁ [] 0 0 := Stand.of_body Bd
  have e0 : s₁.heap = h0 := by rw [← hh, Bd.state]; rfl
  have N0 := Fr.nil n0
  show Dn p e below s (Q1_4 Z y0 y1 y2 y3 h0 n0) ({ frames := 0, cells := 1, slots := 4, locals := 0 } : Room).cells ({ frames := 0, cells := 1, slots := 4, locals := 0 } : Room).slots (s₁.setTop (entryFrame m #[(.int (4 : Int32)), (.double y0), (.double y1), (.double y2), (.double y3)] 9))
  refine Dn.st (fun _ kk => castTop (ef1_rm1_4 m (4 : Int32) y0 y1 y2 y3) kk) ?_
  show Dn p e below s _ _ _ (s₁.setTop (mkF m 0 #[.val (.int (4 : Int32)), .val (.double y0), .second, .val (.double y1), .second, .val (.double y2), .second, .val (.double y3), .second] []))
  refine Dn.st (fun _ kk => XS.iloadN X0.here hx rfl (hb hby d1_0) rfl  (XS.iconst X0.here hx rfl (hb hby d1_1) (kk))) ?_
  show Dn p e below s _ _ _ (s₁.setTop (mkF m 2 #[.val (.int (4 : Int32)), .val (.double y0), .second, .val (.double y1), .second, .val (.double y2), .second, .val (.double y3), .second] [(.int (1 : Int32)), (.int (4 : Int32))]))
  have hc2 : ¬ ((4 : Int32) = (1 : Int32)) := by decide
  refine Dn.st (fun _ kk => XS.icmpYes X0.here hx rfl (pc0 := 2) (pc' := 13) rfl (hb hby d1_2) rfl (feq hc2).2 (by decide) (by decide) (XS.iloadN X0.here hx rfl (hb hby d1_13) rfl  (XS.iconst X0.here hx rfl (hb hby d1_14) (kk)))) ?_
  show Dn p e below s _ _ _ (s₁.setTop (mkF m 15 #[.val (.int (4 : Int32)), .val (.double y0), .second, .val (.double y1), .second, .val (.double y2), .second, .val (.double y3), .second] [(.int (2 : Int32)), (.int (4 : Int32))]))
  have hc15 : ¬ ((4 : Int32) = (2 : Int32)) := by decide
  refine Dn.st (fun _ kk => XS.icmpYes X0.here hx rfl (pc0 := 15) (pc' := 30) rfl (hb hby d1_15) rfl (feq hc15).2 (by decide) (by decide) (XS.iloadN X0.here hx rfl (hb hby d1_30) rfl  (XS.iconst X0.here hx rfl (hb hby d1_31) (kk)))) ?_
  show Dn p e below s _ _ _ (s₁.setTop (mkF m 32 #[.val (.int (4 : Int32)), .val (.double y0), .second, .val (.double y1), .second, .val (.double y2), .second, .val (.double y3), .second] [(.int (3 : Int32)), (.int (4 : Int32))]))
  have hc32 : ¬ ((4 : Int32) = (3 : Int32)) := by decide
  refine Dn.st (fun _ kk => XS.icmpYes X0.here hx rfl (pc0 := 32) (pc' := 52) rfl (hb hby d1_32) rfl (feq hc32).2 (by decide) (by decide) (XS.iconst X0.here hx rfl (hb hby d1_52) (kk))) ?_
  show Dn p e below s _ _ _ (s₁.setTop (mkF m 53 #[.val (.int (4 : Int32)), .val (.double y0), .second, .val (.double y1), .second, .val (.double y2), .second, .val (.double y3), .second] [(.int (4 : Int32))]))
  obtain ⟨T53, h53, k53, X53, e53, E53, A53, st53⟩ := newP X0 hx hZ (hw _ (List.mem_of_getElem? (i := 4) rfl)) e0 (g := (mkF m 53 #[.val (.int (4 : Int32)), .val (.double y0), .second, .val (.double y1), .second, .val (.double y2), .second, .val (.double y3), .second] [(.int (4 : Int32))])) rfl (hb hby d1_53) rfl (by decide) (cap := 4) (by decide) (by decide) (by decide) (by decide)
  obtain ⟨b53, g53⟩ : ∃ z, z = h0.size := ⟨_, rfl⟩
  rw [← g53] at A53 st53
  have gz_b53 : h0.size ≤ b53 := Nat.le_trans (Keep.refl h0 []).1 (Nat.le_of_eq g53.symm)
  have K53 := (Keep.refl h0 []).ext E53
  have gn_b53 : n0 ≤ b53 := Nat.le_trans Z0 (Nat.le_of_eq g53.symm)
  have Z53 : n0 ≤ h53.size := Nat.le_trans Z0 E53.1
  have V_b53 : Arv Z h53 b53 k53 .double (4 : Int32) [(.double (0 : UInt64)), (.double (0 : UInt64)), (.double (0 : UInt64)), (.double (0 : UInt64))] (.double (0 : UInt64)) := (Arv.new A53 (by decide)).pad (pad_rep [] (.double (0 : UInt64)) 4)
  refine Dn.st st53 ?_
  show Dn p e below s _ _ _ (T53.setTop (mkF m 55 #[.val (.int (4 : Int32)), .val (.double y0), .second, .val (.double y1), .second, .val (.double y2), .second, .val (.double y3), .second] [(.ref b53)]))
  refine Dn.st (fun _ kk => XS.dup X53.here hx rfl (hb hby d1_55) rfl rfl (XS.iconst X53.here hx rfl (hb hby d1_56) (XS.dloadN X53.here hx rfl (hb hby d1_57) rfl  (kk)))) ?_
  show Dn p e below s _ _ _ (T53.setTop (mkF m 58 #[.val (.int (4 : Int32)), .val (.double y0), .second, .val (.double y1), .second, .val (.double y2), .second, .val (.double y3), .second] [(.double y0), (.int (0 : Int32)), (.ref b53), (.ref b53)]))
  have Vc_b53_58 := V_b53
  obtain ⟨cl_b53_58, Ar_b53_58, q_b53_58, S_b53_58, N_b53_58, H_b53_58, G_b53_58⟩ := Vc_b53_58
  have hin58 : ¬ ((0 : Int32) < 0 ∨ cl_b53_58.slots.size ≤ ((0 : Int32)).toNatClampNeg) := inb_of S_b53_58 ⟨by decide, by decide⟩
  obtain ⟨T58, h58, X58, e58, W58, st58⟩ := stD X53 hx hZ e53 Ar_b53_58 (j := (0 : Int32)) hin58 (g := (mkF m 58 #[.val (.int (4 : Int32)), .val (.double y0), .second, .val (.double y1), .second, .val (.double y2), .second, .val (.double y3), .second] [(.double y0), (.int (0 : Int32)), (.ref b53), (.ref b53)])) rfl rfl (hb hby d1_58)
  have V_b53_58 := Arv.set Ar_b53_58 q_b53_58 S_b53_58 N_b53_58 H_b53_58 G_b53_58 rfl W58 0 rfl (Nat.le_of_ble_eq_true rfl)
  have K58 := K53.wr W58 (Or.inr gz_b53)
  have N58 := Fr.snoc X58 N0 gn_b53
  have Z58 : n0 ≤ h58.size := Nat.le_trans Z53 (Keep.of_wr W58).1
  refine Dn.st st58 ?_
  show Dn p e below s _ _ _ (T58.setTop (mkF m 59 #[.val (.int (4 : Int32)), .val (.double y0), .second, .val (.double y1), .second, .val (.double y2), .second, .val (.double y3), .second] [(.ref b53)]))
  refine Dn.st (fun _ kk => XS.dup X58.here hx rfl (hb hby d1_59) rfl rfl (XS.iconst X58.here hx rfl (hb hby d1_60) (XS.dloadN X58.here hx rfl (hb hby d1_61) rfl  (kk)))) ?_
  show Dn p e below s _ _ _ (T58.setTop (mkF m 62 #[.val (.int (4 : Int32)), .val (.double y0), .second, .val (.double y1), .second, .val (.double y2), .second, .val (.double y3), .second] [(.double y1), (.int (1 : Int32)), (.ref b53), (.ref b53)]))
  have Vc_b53_62 := V_b53_58
  obtain ⟨cl_b53_62, Ar_b53_62, q_b53_62, S_b53_62, N_b53_62, H_b53_62, G_b53_62⟩ := Vc_b53_62
  have hin62 : ¬ ((1 : Int32) < 0 ∨ cl_b53_62.slots.size ≤ ((1 : Int32)).toNatClampNeg) := inb_of S_b53_62 ⟨by decide, by decide⟩
  obtain ⟨T62, h62, X62, e62, W62, st62⟩ := stD X58 hx hZ e58 Ar_b53_62 (j := (1 : Int32)) hin62 (g := (mkF m 62 #[.val (.int (4 : Int32)), .val (.double y0), .second, .val (.double y1), .second, .val (.double y2), .second, .val (.double y3), .second] [(.double y1), (.int (1 : Int32)), (.ref b53), (.ref b53)])) rfl rfl (hb hby d1_62)
  have V_b53_62 := Arv.set Ar_b53_62 q_b53_62 S_b53_62 N_b53_62 H_b53_62 G_b53_62 rfl W62 1 rfl (Nat.le_of_ble_eq_true rfl)
  have K62 := K58.wr W62 (Or.inr gz_b53)
  have N62 := Fr.snoc X62 N58 gn_b53
  have Z62 : n0 ≤ h62.size := Nat.le_trans Z58 (Keep.of_wr W62).1
  refine Dn.st st62 ?_
  show Dn p e below s _ _ _ (T62.setTop (mkF m 63 #[.val (.int (4 : Int32)), .val (.double y0), .second, .val (.double y1), .second, .val (.double y2), .second, .val (.double y3), .second] [(.ref b53)]))
  refine Dn.st (fun _ kk => XS.dup X62.here hx rfl (hb hby d1_63) rfl rfl (XS.iconst X62.here hx rfl (hb hby d1_64) (XS.dload X62.here hx rfl (hb hby d1_65) rfl  (kk)))) ?_
  show Dn p e below s _ _ _ (T62.setTop (mkF m 67 #[.val (.int (4 : Int32)), .val (.double y0), .second, .val (.double y1), .second, .val (.double y2), .second, .val (.double y3), .second] [(.double y2), (.int (2 : Int32)), (.ref b53), (.ref b53)]))
  have Vc_b53_67 := V_b53_62
  obtain ⟨cl_b53_67, Ar_b53_67, q_b53_67, S_b53_67, N_b53_67, H_b53_67, G_b53_67⟩ := Vc_b53_67
  have hin67 : ¬ ((2 : Int32) < 0 ∨ cl_b53_67.slots.size ≤ ((2 : Int32)).toNatClampNeg) := inb_of S_b53_67 ⟨by decide, by decide⟩
  obtain ⟨T67, h67, X67, e67, W67, st67⟩ := stD X62 hx hZ e62 Ar_b53_67 (j := (2 : Int32)) hin67 (g := (mkF m 67 #[.val (.int (4 : Int32)), .val (.double y0), .second, .val (.double y1), .second, .val (.double y2), .second, .val (.double y3), .second] [(.double y2), (.int (2 : Int32)), (.ref b53), (.ref b53)])) rfl rfl (hb hby d1_67)
  have V_b53_67 := Arv.set Ar_b53_67 q_b53_67 S_b53_67 N_b53_67 H_b53_67 G_b53_67 rfl W67 2 rfl (Nat.le_of_ble_eq_true rfl)
  have K67 := K62.wr W67 (Or.inr gz_b53)
  have N67 := Fr.snoc X67 N62 gn_b53
  have Z67 : n0 ≤ h67.size := Nat.le_trans Z62 (Keep.of_wr W67).1
  refine Dn.st st67 ?_
  show Dn p e below s _ _ _ (T67.setTop (mkF m 68 #[.val (.int (4 : Int32)), .val (.double y0), .second, .val (.double y1), .second, .val (.double y2), .second, .val (.double y3), .second] [(.ref b53)]))
  refine Dn.st (fun _ kk => XS.dup X67.here hx rfl (hb hby d1_68) rfl rfl (XS.iconst X67.here hx rfl (hb hby d1_69) (XS.dload X67.here hx rfl (hb hby d1_70) rfl  (kk)))) ?_
  show Dn p e below s _ _ _ (T67.setTop (mkF m 72 #[.val (.int (4 : Int32)), .val (.double y0), .second, .val (.double y1), .second, .val (.double y2), .second, .val (.double y3), .second] [(.double y3), (.int (3 : Int32)), (.ref b53), (.ref b53)]))
  have Vc_b53_72 := V_b53_67
  obtain ⟨cl_b53_72, Ar_b53_72, q_b53_72, S_b53_72, N_b53_72, H_b53_72, G_b53_72⟩ := Vc_b53_72
  have hin72 : ¬ ((3 : Int32) < 0 ∨ cl_b53_72.slots.size ≤ ((3 : Int32)).toNatClampNeg) := inb_of S_b53_72 ⟨by decide, by decide⟩
  obtain ⟨T72, h72, X72, e72, W72, st72⟩ := stD X67 hx hZ e67 Ar_b53_72 (j := (3 : Int32)) hin72 (g := (mkF m 72 #[.val (.int (4 : Int32)), .val (.double y0), .second, .val (.double y1), .second, .val (.double y2), .second, .val (.double y3), .second] [(.double y3), (.int (3 : Int32)), (.ref b53), (.ref b53)])) rfl rfl (hb hby d1_72)
  have V_b53_72 := Arv.set Ar_b53_72 q_b53_72 S_b53_72 N_b53_72 H_b53_72 G_b53_72 rfl W72 3 rfl (Nat.le_of_ble_eq_true rfl)
  have K72 := K67.wr W72 (Or.inr gz_b53)
  have N72 := Fr.snoc X72 N67 gn_b53
  have Z72 : n0 ≤ h72.size := Nat.le_trans Z67 (Keep.of_wr W72).1
  refine Dn.st st72 ?_
  show Dn p e below s _ _ _ (T72.setTop (mkF m 73 #[.val (.int (4 : Int32)), .val (.double y0), .second, .val (.double y1), .second, .val (.double y2), .second, .val (.double y3), .second] [(.ref b53)]))
  exact Dn.ret X72 hlk hx hret rfl (Or.inr (Or.inr (Or.inr (Or.inr ⟨rfl, rfl, rfl⟩)))) (hb hby d1_73) (by rw [e72]; exact ⟨b53, k53, rfl, gz_b53, N72, K72, V_b53_72⟩) (by decide) (by decide)

theorem d2_0 : decode prog_51_method_2_code 0 = .ok (.dconst 0, 1) := by decide +kernel
theorem d2_1 : decode prog_51_method_2_code 1 = .ok (.dstore_n 1, 1) := by decide +kernel
theorem d2_2 : decode prog_51_method_2_code 2 = .ok (.aload_n 0, 1) := by decide +kernel
theorem d2_3 : decode prog_51_method_2_code 3 = .ok (.astore_n 3, 1) := by decide +kernel
theorem d2_4 : decode prog_51_method_2_code 4 = .ok (.aload_n 3, 1) := by decide +kernel
theorem d2_5 : decode prog_51_method_2_code 5 = .ok (.arraylength, 1) := by decide +kernel
theorem d2_6 : decode prog_51_method_2_code 6 = .ok (.istore 4, 2) := by decide +kernel
theorem d2_8 : decode prog_51_method_2_code 8 = .ok (.iconst 0, 1) := by decide +kernel
theorem d2_9 : decode prog_51_method_2_code 9 = .ok (.istore 5, 2) := by decide +kernel
theorem d2_11 : decode prog_51_method_2_code 11 = .ok (.iload 5, 2) := by decide +kernel
theorem d2_13 : decode prog_51_method_2_code 13 = .ok (.iload 4, 2) := by decide +kernel
theorem d2_15 : decode prog_51_method_2_code 15 = .ok (.if_icmp .ge 20, 3) := by decide +kernel
theorem d2_18 : decode prog_51_method_2_code 18 = .ok (.aload_n 3, 1) := by decide +kernel
theorem d2_19 : decode prog_51_method_2_code 19 = .ok (.iload 5, 2) := by decide +kernel
theorem d2_21 : decode prog_51_method_2_code 21 = .ok (.daload, 1) := by decide +kernel
theorem d2_22 : decode prog_51_method_2_code 22 = .ok (.dstore 6, 2) := by decide +kernel
theorem d2_24 : decode prog_51_method_2_code 24 = .ok (.dload_n 1, 1) := by decide +kernel
theorem d2_25 : decode prog_51_method_2_code 25 = .ok (.dload 6, 2) := by decide +kernel
theorem d2_27 : decode prog_51_method_2_code 27 = .ok (.dadd, 1) := by decide +kernel
theorem d2_28 : decode prog_51_method_2_code 28 = .ok (.dstore_n 1, 1) := by decide +kernel
theorem d2_29 : decode prog_51_method_2_code 29 = .ok (.iinc 5 1, 3) := by decide +kernel
theorem d2_32 : decode prog_51_method_2_code 32 = .ok (.goto (-21), 3) := by decide +kernel
theorem d2_35 : decode prog_51_method_2_code 35 = .ok (.dload_n 1, 1) := by decide +kernel
theorem d2_36 : decode prog_51_method_2_code 36 = .ok (.aload_n 0, 1) := by decide +kernel
theorem d2_37 : decode prog_51_method_2_code 37 = .ok (.arraylength, 1) := by decide +kernel
theorem d2_38 : decode prog_51_method_2_code 38 = .ok (.i2d, 1) := by decide +kernel
theorem d2_39 : decode prog_51_method_2_code 39 = .ok (.ddiv, 1) := by decide +kernel
theorem d2_40 : decode prog_51_method_2_code 40 = .ok (.dstore_n 3, 1) := by decide +kernel
theorem d2_41 : decode prog_51_method_2_code 41 = .ok (.dconst 0, 1) := by decide +kernel
theorem d2_42 : decode prog_51_method_2_code 42 = .ok (.dstore 5, 2) := by decide +kernel
theorem d2_44 : decode prog_51_method_2_code 44 = .ok (.aload_n 0, 1) := by decide +kernel
theorem d2_45 : decode prog_51_method_2_code 45 = .ok (.astore 7, 2) := by decide +kernel
theorem d2_47 : decode prog_51_method_2_code 47 = .ok (.aload 7, 2) := by decide +kernel
theorem d2_49 : decode prog_51_method_2_code 49 = .ok (.arraylength, 1) := by decide +kernel
theorem d2_50 : decode prog_51_method_2_code 50 = .ok (.istore 8, 2) := by decide +kernel
theorem d2_52 : decode prog_51_method_2_code 52 = .ok (.iconst 0, 1) := by decide +kernel
theorem d2_53 : decode prog_51_method_2_code 53 = .ok (.istore 9, 2) := by decide +kernel
theorem d2_55 : decode prog_51_method_2_code 55 = .ok (.iload 9, 2) := by decide +kernel
theorem d2_57 : decode prog_51_method_2_code 57 = .ok (.iload 8, 2) := by decide +kernel
theorem d2_59 : decode prog_51_method_2_code 59 = .ok (.if_icmp .ge 25, 3) := by decide +kernel
theorem d2_62 : decode prog_51_method_2_code 62 = .ok (.aload 7, 2) := by decide +kernel
theorem d2_64 : decode prog_51_method_2_code 64 = .ok (.iload 9, 2) := by decide +kernel
theorem d2_66 : decode prog_51_method_2_code 66 = .ok (.daload, 1) := by decide +kernel
theorem d2_67 : decode prog_51_method_2_code 67 = .ok (.dstore 10, 2) := by decide +kernel
theorem d2_69 : decode prog_51_method_2_code 69 = .ok (.dload 5, 2) := by decide +kernel
theorem d2_71 : decode prog_51_method_2_code 71 = .ok (.dload 10, 2) := by decide +kernel
theorem d2_73 : decode prog_51_method_2_code 73 = .ok (.dload_n 3, 1) := by decide +kernel
theorem d2_74 : decode prog_51_method_2_code 74 = .ok (.dsub, 1) := by decide +kernel
theorem d2_75 : decode prog_51_method_2_code 75 = .ok (.dadd, 1) := by decide +kernel
theorem d2_76 : decode prog_51_method_2_code 76 = .ok (.dstore 5, 2) := by decide +kernel
theorem d2_78 : decode prog_51_method_2_code 78 = .ok (.iinc 9 1, 3) := by decide +kernel
theorem d2_81 : decode prog_51_method_2_code 81 = .ok (.goto (-26), 3) := by decide +kernel
theorem d2_84 : decode prog_51_method_2_code 84 = .ok (.dload_n 3, 1) := by decide +kernel
theorem d2_85 : decode prog_51_method_2_code 85 = .ok (.dload 5, 2) := by decide +kernel
theorem d2_87 : decode prog_51_method_2_code 87 = .ok (.aload_n 0, 1) := by decide +kernel
theorem d2_88 : decode prog_51_method_2_code 88 = .ok (.arraylength, 1) := by decide +kernel
theorem d2_89 : decode prog_51_method_2_code 89 = .ok (.i2d, 1) := by decide +kernel
theorem d2_90 : decode prog_51_method_2_code 90 = .ok (.ddiv, 1) := by decide +kernel
theorem d2_91 : decode prog_51_method_2_code 91 = .ok (.dadd, 1) := by decide +kernel
theorem d2_92 : decode prog_51_method_2_code 92 = .ok (.dreturn, 1) := by decide +kernel
theorem dc_0 : DS 0 0 (0 : UInt64) := DS.lit (s := false) (c := 0) (q := -1074) (by decide +kernel) (by decide +kernel)
theorem pn1 : plainName "com/example/listino/listino/stats/Moments" = true := by first | (simp [plainName, overriddenIn]; done) | decide +kernel
theorem ef2_rm2E_1 (m : MethodId) (x0 : Addr) : entryFrame m #[(.ref x0)] 12 = mkF m 0 #[.val (.ref x0), .unset, .unset, .unset, .unset, .unset, .unset, .unset, .unset, .unset, .unset, .unset] [] := by first | (simp [entryFrame, mkF, argsToLocals, Value.category]; done) | rfl
def Q2E_1 (Z : State) (a : Addr) (ka : ClassId) (z0 : UInt64) (w0 mq : Int) (h0 : Heap) (n0 : Nat) (v : Option Value) (h : Heap) (L : List Loc) : Prop := ∃ z, v = some (.double z) ∧ DS 2 mq z ∧ Fr n0 L ∧ h = h0
set_option maxRecDepth 65536 in
set_option maxHeartbeats 40000000 in
theorem rm2E_1 (l : Launch) (Z : State) (a0 : Array Value) (hw : ∀ d ∈ tables_1, d.before a0 Z = true) (ws : List Jvm.Cond) (a : Addr) (ka : ClassId) (z0 : UInt64) (w0 mq : Int) (h0 : Heap) (n0 : Nat) (Z0 : n0 ≤ h0.size) (Va : Arv Z h0 a ka .double 1 [(.double z0)] (.double 0)) (d_z0 : DS 0 w0 z0) (hb0 : -1048576 ≤ w0 ∧ w0 ≤ 1048576) (hM : (w0) * 4 = mq * 1) :
    MetFree l (⟨"com/example/listino/listino/stats/Moments", "mean", "([D)D"⟩ : MethodName) (head1 (Jvm.Cond.code (⟨"com/example/listino/listino/stats/Moments", "mean", "([D)D"⟩ : MethodName) prog_51_method_2_code 12 (some .double) :: ws) ({ frames := 0, cells := 0, slots := 0, locals := 0 } : Room)) (fun aa UU => aa = #[(.ref a)] ∧ Z.Warmed39 UU.vm ∧ UU.heap = h0) (fun _ _ _ _ _ => True) (fun _ UU oo UU' => ∃ vv LL, oo = .returned vv ∧ Q2E_1 Z a ka z0 w0 mq h0 n0 vv UU'.heap LL ∧ FrameEnd UU oo UU' LL ({ frames := 0, cells := 0, slots := 0, locals := 0 } : Room).cells ({ frames := 0, cells := 0, slots := 0, locals := 0 } : Room).slots) := by
  refine MetFree.of_bodySF (plainFor_of_name pn1) hisR ?_
  intro p e s m args below meth c s₁ Bd hml0 hP hK
  obtain ⟨rfl, hZ, hh⟩ := hP
  have hx := Bd.exec
  have hby := Bd.bytes
  have hlk : meth.locks = false := BodyLoose.notSynchronized Bd
  have hret := Bd.returns
  have hml : c.maxLocals = 12 := hml0
  have hown : s.vm.findClass "com/example/listino/listino/stats/Moments" = some m.cls := findClass_of_methodNamed Bd.named
  have hnm := (name_of_methodNamed Bd.named Bd.method).1
  have X0 : Stand p l e ({ frames := 0, cells := 0, slots := 0, locals := 0 } : Room) s m #[(.ref a)] below meth c s₁ [] 0 0 := Stand.of_body Bd
  have e0 : s₁.heap = h0 := by rw [← hh, Bd.state]; rfl
  have N0 := Fr.nil n0
  show Dn p e below s (Q2E_1 Z a ka z0 w0 mq h0 n0) ({ frames := 0, cells := 0, slots := 0, locals := 0 } : Room).cells ({ frames := 0, cells := 0, slots := 0, locals := 0 } : Room).slots (s₁.setTop (entryFrame m #[(.ref a)] 12))
  refine Dn.st (fun _ kk => castTop (ef2_rm2E_1 m a) kk) ?_
  show Dn p e below s _ _ _ (s₁.setTop (mkF m 0 #[.val (.ref a), .unset, .unset, .unset, .unset, .unset, .unset, .unset, .unset, .unset, .unset, .unset] []))
  refine Dn.st (fun _ kk => XS.dconst0 X0.here hx rfl (hb hby d2_0) rfl (XS.dstoreN X0.here hx rfl (hb hby d2_1) rfl (l' := #[.val (.ref a), .val (.double FP.dconst0), .second, .unset, .unset, .unset, .unset, .unset, .unset, .unset, .unset, .unset]) rfl (XS.aloadN X0.here hx rfl (hb hby d2_2) rfl rfl (XS.astoreN X0.here hx rfl (hb hby d2_3) rfl rfl (l' := #[.val (.ref a), .val (.double FP.dconst0), .second, .val (.ref a), .unset, .unset, .unset, .unset, .unset, .unset, .unset, .unset]) rfl (XS.aloadN X0.here hx rfl (hb hby d2_4) rfl rfl (kk)))))) ?_
  show Dn p e below s _ _ _ (s₁.setTop (mkF m 5 #[.val (.ref a), .val (.double FP.dconst0), .second, .val (.ref a), .unset, .unset, .unset, .unset, .unset, .unset, .unset, .unset] [(.ref a)]))
  have Vc_a_5 := Va
  obtain ⟨cl_a_5, Ar_a_5, q_a_5, S_a_5, N_a_5, H_a_5, G_a_5⟩ := Vc_a_5
  refine Dn.st (fun _ kk => X0.arraylength hx (by rw [e0]; exact Ar_a_5.1) (State.isArrayOf_alike hZ.alike Ar_a_5.2.1) (g := (mkF m 5 #[.val (.ref a), .val (.double FP.dconst0), .second, .val (.ref a), .unset, .unset, .unset, .unset, .unset, .unset, .unset, .unset] [(.ref a)])) rfl rfl (hb hby d2_5) _ (kk)) ?_
  show Dn p e below s _ _ _ (s₁.setTop (mkF m 6 #[.val (.ref a), .val (.double FP.dconst0), .second, .val (.ref a), .unset, .unset, .unset, .unset, .unset, .unset, .unset, .unset] [(.int cl_a_5.slots.size.toInt32)]))
  rw [len_of S_a_5 N_a_5]
  show Dn p e below s _ _ _ (s₁.setTop (mkF m 6 #[.val (.ref a), .val (.double FP.dconst0), .second, .val (.ref a), .unset, .unset, .unset, .unset, .unset, .unset, .unset, .unset] [(.int (1 : Int32))]))
  refine Dn.st (fun _ kk => XS.istore X0.here hx rfl (hb hby d2_6) rfl (l' := #[.val (.ref a), .val (.double FP.dconst0), .second, .val (.ref a), .val (.int (1 : Int32)), .unset, .unset, .unset, .unset, .unset, .unset, .unset]) rfl (XS.iconst X0.here hx rfl (hb hby d2_8) (XS.istore X0.here hx rfl (hb hby d2_9) rfl (l' := #[.val (.ref a), .val (.double FP.dconst0), .second, .val (.ref a), .val (.int (1 : Int32)), .val (.int (0 : Int32)), .unset, .unset, .unset, .unset, .unset, .unset]) rfl (XS.iload X0.here hx rfl (hb hby d2_11) rfl  (XS.iload X0.here hx rfl (hb hby d2_13) rfl  (kk)))))) ?_
  show Dn p e below s _ _ _ (s₁.setTop (mkF m 15 #[.val (.ref a), .val (.double FP.dconst0), .second, .val (.ref a), .val (.int (1 : Int32)), .val (.int (0 : Int32)), .unset, .unset, .unset, .unset, .unset, .unset] [(.int (1 : Int32)), (.int (0 : Int32))]))
  have hc15 : (0 : Int32) < (1 : Int32) := by decide
  refine Dn.st (fun _ kk => XS.icmpNo X0.here hx rfl (hb hby d2_15) rfl (tlt hc15).2.1 (XS.aloadN X0.here hx rfl (hb hby d2_18) rfl rfl (XS.iload X0.here hx rfl (hb hby d2_19) rfl  (kk)))) ?_
  show Dn p e below s _ _ _ (s₁.setTop (mkF m 21 #[.val (.ref a), .val (.double FP.dconst0), .second, .val (.ref a), .val (.int (1 : Int32)), .val (.int (0 : Int32)), .unset, .unset, .unset, .unset, .unset, .unset] [(.int (0 : Int32)), (.ref a)]))
  have Vc_a_21 := Va
  obtain ⟨cl_a_21, Ar_a_21, q_a_21, S_a_21, N_a_21, H_a_21, G_a_21⟩ := Vc_a_21
  have hin21 : ¬ ((0 : Int32) < 0 ∨ cl_a_21.slots.size ≤ ((0 : Int32)).toNatClampNeg) := inb_of S_a_21 ⟨by decide, by decide⟩
  have hat21 : cl_a_21.slots[((0 : Int32)).toNatClampNeg]? = some (.double z0) := H_a_21.at hin21 rfl
  refine Dn.st (fun _ kk => X0.daload hx (j := (0 : Int32)) (v := (.double z0)) (by rw [e0]; exact Ar_a_21.1) (State.isArrayOf_alike hZ.alike Ar_a_21.2.1) Ar_a_21.2.2 hin21 hat21 (g := (mkF m 21 #[.val (.ref a), .val (.double FP.dconst0), .second, .val (.ref a), .val (.int (1 : Int32)), .val (.int (0 : Int32)), .unset, .unset, .unset, .unset, .unset, .unset] [(.int (0 : Int32)), (.ref a)])) rfl rfl (hb hby d2_21) _ (XS.dstore X0.here hx rfl (hb hby d2_22) rfl (l' := #[.val (.ref a), .val (.double FP.dconst0), .second, .val (.ref a), .val (.int (1 : Int32)), .val (.int (0 : Int32)), .val (.double z0), .second, .unset, .unset, .unset, .unset]) rfl (XS.dloadN X0.here hx rfl (hb hby d2_24) rfl  (XS.dload X0.here hx rfl (hb hby d2_25) rfl  (kk))))) ?_
  show Dn p e below s _ _ _ (s₁.setTop (mkF m 27 #[.val (.ref a), .val (.double FP.dconst0), .second, .val (.ref a), .val (.int (1 : Int32)), .val (.int (0 : Int32)), .val (.double z0), .second, .unset, .unset, .unset, .unset] [(.double z0), (.double FP.dconst0)]))
  have d27 : DS 0 (0 + w0) (FP.dadd FP.dconst0 z0) := DS.add dc_0 d_z0 (by omega) (by decide)
  refine Dn.st (fun _ kk => XS.daddS X0.here hx rfl (hb hby d2_27) rfl d27.nn rfl (kk)) ?_
  show Dn p e below s _ _ _ (s₁.setTop (mkF m 28 #[.val (.ref a), .val (.double FP.dconst0), .second, .val (.ref a), .val (.int (1 : Int32)), .val (.int (0 : Int32)), .val (.double z0), .second, .unset, .unset, .unset, .unset] [(.double (FP.dadd FP.dconst0 z0))]))
  generalize hv27 : ((FP.dadd FP.dconst0 z0) : UInt64) = v27 at d27 ⊢
  show Dn p e below s _ _ _ (s₁.setTop (mkF m 28 #[.val (.ref a), .val (.double FP.dconst0), .second, .val (.ref a), .val (.int (1 : Int32)), .val (.int (0 : Int32)), .val (.double z0), .second, .unset, .unset, .unset, .unset] [(.double v27)]))
  refine Dn.st (fun _ kk => XS.dstoreN X0.here hx rfl (hb hby d2_28) rfl (l' := #[.val (.ref a), .val (.double v27), .second, .val (.ref a), .val (.int (1 : Int32)), .val (.int (0 : Int32)), .val (.double z0), .second, .unset, .unset, .unset, .unset]) rfl (XS.iinc X0.here hx rfl (hb hby d2_29) rfl (l' := #[.val (.ref a), .val (.double v27), .second, .val (.ref a), .val (.int (1 : Int32)), .val (.int (1 : Int32)), .val (.double z0), .second, .unset, .unset, .unset, .unset]) rfl (XS.goto X0.here hx rfl (pc0 := 32) (pc' := 11) rfl (hb hby d2_32) (by decide) (by decide) (XS.iload X0.here hx rfl (hb hby d2_11) rfl  (XS.iload X0.here hx rfl (hb hby d2_13) rfl  (kk)))))) ?_
  show Dn p e below s _ _ _ (s₁.setTop (mkF m 15 #[.val (.ref a), .val (.double v27), .second, .val (.ref a), .val (.int (1 : Int32)), .val (.int (1 : Int32)), .val (.double z0), .second, .unset, .unset, .unset, .unset] [(.int (1 : Int32)), (.int (1 : Int32))]))
  have hc15_2 : ¬ ((1 : Int32) < (1 : Int32)) := by decide
  refine Dn.st (fun _ kk => XS.icmpYes X0.here hx rfl (pc0 := 15) (pc' := 35) rfl (hb hby d2_15) rfl (flt hc15_2).2.1 (by decide) (by decide) (XS.dloadN X0.here hx rfl (hb hby d2_35) rfl  (XS.aloadN X0.here hx rfl (hb hby d2_36) rfl rfl (kk)))) ?_
  show Dn p e below s _ _ _ (s₁.setTop (mkF m 37 #[.val (.ref a), .val (.double v27), .second, .val (.ref a), .val (.int (1 : Int32)), .val (.int (1 : Int32)), .val (.double z0), .second, .unset, .unset, .unset, .unset] [(.ref a), (.double v27)]))
  have Vc_a_37 := Va
  obtain ⟨cl_a_37, Ar_a_37, q_a_37, S_a_37, N_a_37, H_a_37, G_a_37⟩ := Vc_a_37
  refine Dn.st (fun _ kk => X0.arraylength hx (by rw [e0]; exact Ar_a_37.1) (State.isArrayOf_alike hZ.alike Ar_a_37.2.1) (g := (mkF m 37 #[.val (.ref a), .val (.double v27), .second, .val (.ref a), .val (.int (1 : Int32)), .val (.int (1 : Int32)), .val (.double z0), .second, .unset, .unset, .unset, .unset] [(.ref a), (.double v27)])) rfl rfl (hb hby d2_37) _ (kk)) ?_
  show Dn p e below s _ _ _ (s₁.setTop (mkF m 38 #[.val (.ref a), .val (.double v27), .second, .val (.ref a), .val (.int (1 : Int32)), .val (.int (1 : Int32)), .val (.double z0), .second, .unset, .unset, .unset, .unset] [(.int cl_a_37.slots.size.toInt32), (.double v27)]))
  rw [len_of S_a_37 N_a_37]
  show Dn p e below s _ _ _ (s₁.setTop (mkF m 38 #[.val (.ref a), .val (.double v27), .second, .val (.ref a), .val (.int (1 : Int32)), .val (.int (1 : Int32)), .val (.double z0), .second, .unset, .unset, .unset, .unset] [(.int (1 : Int32)), (.double v27)]))
  have d38 := DS.i2d (1 : Int32)
  refine Dn.st (fun _ kk => XS.i2dS X0.here hx rfl (hb hby d2_38) rfl rfl (kk)) ?_
  show Dn p e below s _ _ _ (s₁.setTop (mkF m 39 #[.val (.ref a), .val (.double v27), .second, .val (.ref a), .val (.int (1 : Int32)), .val (.int (1 : Int32)), .val (.double z0), .second, .unset, .unset, .unset, .unset] [(.double (FP.i2d (1 : Int32))), (.double v27)]))
  generalize hv38 : ((FP.i2d (1 : Int32)) : UInt64) = v38 at d38 ⊢
  show Dn p e below s _ _ _ (s₁.setTop (mkF m 39 #[.val (.ref a), .val (.double v27), .second, .val (.ref a), .val (.int (1 : Int32)), .val (.int (1 : Int32)), .val (.double z0), .second, .unset, .unset, .unset, .unset] [(.double v38), (.double v27)]))
  have d39 : DS 2 mq (FP.ddiv v27 v38) := DS.div (n := 2) (Q := mq) d27 (DS.cast (i' := 1) d38 rfl (by decide)) (by decide) (by show _ * 4 = _ * 1; omega) (by omega) (by decide)
  refine Dn.st (fun _ kk => XS.ddivS X0.here hx rfl (hb hby d2_39) rfl d39.nn rfl (kk)) ?_
  show Dn p e below s _ _ _ (s₁.setTop (mkF m 40 #[.val (.ref a), .val (.double v27), .second, .val (.ref a), .val (.int (1 : Int32)), .val (.int (1 : Int32)), .val (.double z0), .second, .unset, .unset, .unset, .unset] [(.double (FP.ddiv v27 v38))]))
  generalize hv39 : ((FP.ddiv v27 v38) : UInt64) = v39 at d39 ⊢
  show Dn p e below s _ _ _ (s₁.setTop (mkF m 40 #[.val (.ref a), .val (.double v27), .second, .val (.ref a), .val (.int (1 : Int32)), .val (.int (1 : Int32)), .val (.double z0), .second, .unset, .unset, .unset, .unset] [(.double v39)]))
  refine Dn.st (fun _ kk => XS.dstoreN X0.here hx rfl (hb hby d2_40) rfl (l' := #[.val (.ref a), .val (.double v27), .second, .val (.double v39), .second, .val (.int (1 : Int32)), .val (.double z0), .second, .unset, .unset, .unset, .unset]) rfl (XS.dconst0 X0.here hx rfl (hb hby d2_41) rfl (XS.dstore X0.here hx rfl (hb hby d2_42) rfl (l' := #[.val (.ref a), .val (.double v27), .second, .val (.double v39), .second, .val (.double FP.dconst0), .second, .unset, .unset, .unset, .unset, .unset]) rfl (XS.aloadN X0.here hx rfl (hb hby d2_44) rfl rfl (XS.astore X0.here hx rfl (hb hby d2_45) rfl rfl (l' := #[.val (.ref a), .val (.double v27), .second, .val (.double v39), .second, .val (.double FP.dconst0), .second, .val (.ref a), .unset, .unset, .unset, .unset]) rfl (XS.aload X0.here hx rfl (hb hby d2_47) rfl rfl (kk))))))) ?_
  show Dn p e below s _ _ _ (s₁.setTop (mkF m 49 #[.val (.ref a), .val (.double v27), .second, .val (.double v39), .second, .val (.double FP.dconst0), .second, .val (.ref a), .unset, .unset, .unset, .unset] [(.ref a)]))
  have Vc_a_49 := Va
  obtain ⟨cl_a_49, Ar_a_49, q_a_49, S_a_49, N_a_49, H_a_49, G_a_49⟩ := Vc_a_49
  refine Dn.st (fun _ kk => X0.arraylength hx (by rw [e0]; exact Ar_a_49.1) (State.isArrayOf_alike hZ.alike Ar_a_49.2.1) (g := (mkF m 49 #[.val (.ref a), .val (.double v27), .second, .val (.double v39), .second, .val (.double FP.dconst0), .second, .val (.ref a), .unset, .unset, .unset, .unset] [(.ref a)])) rfl rfl (hb hby d2_49) _ (kk)) ?_
  show Dn p e below s _ _ _ (s₁.setTop (mkF m 50 #[.val (.ref a), .val (.double v27), .second, .val (.double v39), .second, .val (.double FP.dconst0), .second, .val (.ref a), .unset, .unset, .unset, .unset] [(.int cl_a_49.slots.size.toInt32)]))
  rw [len_of S_a_49 N_a_49]
  show Dn p e below s _ _ _ (s₁.setTop (mkF m 50 #[.val (.ref a), .val (.double v27), .second, .val (.double v39), .second, .val (.double FP.dconst0), .second, .val (.ref a), .unset, .unset, .unset, .unset] [(.int (1 : Int32))]))
  refine Dn.st (fun _ kk => XS.istore X0.here hx rfl (hb hby d2_50) rfl (l' := #[.val (.ref a), .val (.double v27), .second, .val (.double v39), .second, .val (.double FP.dconst0), .second, .val (.ref a), .val (.int (1 : Int32)), .unset, .unset, .unset]) rfl (XS.iconst X0.here hx rfl (hb hby d2_52) (XS.istore X0.here hx rfl (hb hby d2_53) rfl (l' := #[.val (.ref a), .val (.double v27), .second, .val (.double v39), .second, .val (.double FP.dconst0), .second, .val (.ref a), .val (.int (1 : Int32)), .val (.int (0 : Int32)), .unset, .unset]) rfl (XS.iload X0.here hx rfl (hb hby d2_55) rfl  (XS.iload X0.here hx rfl (hb hby d2_57) rfl  (kk)))))) ?_
  show Dn p e below s _ _ _ (s₁.setTop (mkF m 59 #[.val (.ref a), .val (.double v27), .second, .val (.double v39), .second, .val (.double FP.dconst0), .second, .val (.ref a), .val (.int (1 : Int32)), .val (.int (0 : Int32)), .unset, .unset] [(.int (1 : Int32)), (.int (0 : Int32))]))
  have hc59 : (0 : Int32) < (1 : Int32) := by decide
  refine Dn.st (fun _ kk => XS.icmpNo X0.here hx rfl (hb hby d2_59) rfl (tlt hc59).2.1 (XS.aload X0.here hx rfl (hb hby d2_62) rfl rfl (XS.iload X0.here hx rfl (hb hby d2_64) rfl  (kk)))) ?_
  show Dn p e below s _ _ _ (s₁.setTop (mkF m 66 #[.val (.ref a), .val (.double v27), .second, .val (.double v39), .second, .val (.double FP.dconst0), .second, .val (.ref a), .val (.int (1 : Int32)), .val (.int (0 : Int32)), .unset, .unset] [(.int (0 : Int32)), (.ref a)]))
  have Vc_a_66 := Va
  obtain ⟨cl_a_66, Ar_a_66, q_a_66, S_a_66, N_a_66, H_a_66, G_a_66⟩ := Vc_a_66
  have hin66 : ¬ ((0 : Int32) < 0 ∨ cl_a_66.slots.size ≤ ((0 : Int32)).toNatClampNeg) := inb_of S_a_66 ⟨by decide, by decide⟩
  have hat66 : cl_a_66.slots[((0 : Int32)).toNatClampNeg]? = some (.double z0) := H_a_66.at hin66 rfl
  refine Dn.st (fun _ kk => X0.daload hx (j := (0 : Int32)) (v := (.double z0)) (by rw [e0]; exact Ar_a_66.1) (State.isArrayOf_alike hZ.alike Ar_a_66.2.1) Ar_a_66.2.2 hin66 hat66 (g := (mkF m 66 #[.val (.ref a), .val (.double v27), .second, .val (.double v39), .second, .val (.double FP.dconst0), .second, .val (.ref a), .val (.int (1 : Int32)), .val (.int (0 : Int32)), .unset, .unset] [(.int (0 : Int32)), (.ref a)])) rfl rfl (hb hby d2_66) _ (XS.dstore X0.here hx rfl (hb hby d2_67) rfl (l' := #[.val (.ref a), .val (.double v27), .second, .val (.double v39), .second, .val (.double FP.dconst0), .second, .val (.ref a), .val (.int (1 : Int32)), .val (.int (0 : Int32)), .val (.double z0), .second]) rfl (XS.dload X0.here hx rfl (hb hby d2_69) rfl  (XS.dload X0.here hx rfl (hb hby d2_71) rfl  (XS.dloadN X0.here hx rfl (hb hby d2_73) rfl  (kk)))))) ?_
  show Dn p e below s _ _ _ (s₁.setTop (mkF m 74 #[.val (.ref a), .val (.double v27), .second, .val (.double v39), .second, .val (.double FP.dconst0), .second, .val (.ref a), .val (.int (1 : Int32)), .val (.int (0 : Int32)), .val (.double z0), .second] [(.double v39), (.double z0), (.double FP.dconst0)]))
  have d74 : DS 2 ((w0 * 4) - mq) (FP.dsub z0 v39) := DS.sub ((d_z0).up 2) d39 (by omega) (by decide)
  refine Dn.st (fun _ kk => XS.dsubS X0.here hx rfl (hb hby d2_74) rfl d74.nn rfl (kk)) ?_
  show Dn p e below s _ _ _ (s₁.setTop (mkF m 75 #[.val (.ref a), .val (.double v27), .second, .val (.double v39), .second, .val (.double FP.dconst0), .second, .val (.ref a), .val (.int (1 : Int32)), .val (.int (0 : Int32)), .val (.double z0), .second] [(.double (FP.dsub z0 v39)), (.double FP.dconst0)]))
  generalize hv74 : ((FP.dsub z0 v39) : UInt64) = v74 at d74 ⊢
  show Dn p e below s _ _ _ (s₁.setTop (mkF m 75 #[.val (.ref a), .val (.double v27), .second, .val (.double v39), .second, .val (.double FP.dconst0), .second, .val (.ref a), .val (.int (1 : Int32)), .val (.int (0 : Int32)), .val (.double z0), .second] [(.double v74), (.double FP.dconst0)]))
  have d75 : DS 2 (0 + ((w0 * 4) - mq)) (FP.dadd FP.dconst0 v74) := DS.add (DS.cast (k' := 2) (i' := 0) ((dc_0).up 2) rfl (by decide)) d74 (by omega) (by decide)
  refine Dn.st (fun _ kk => XS.daddS X0.here hx rfl (hb hby d2_75) rfl d75.nn rfl (kk)) ?_
  show Dn p e below s _ _ _ (s₁.setTop (mkF m 76 #[.val (.ref a), .val (.double v27), .second, .val (.double v39), .second, .val (.double FP.dconst0), .second, .val (.ref a), .val (.int (1 : Int32)), .val (.int (0 : Int32)), .val (.double z0), .second] [(.double (FP.dadd FP.dconst0 v74))]))
  generalize hv75 : ((FP.dadd FP.dconst0 v74) : UInt64) = v75 at d75 ⊢
  show Dn p e below s _ _ _ (s₁.setTop (mkF m 76 #[.val (.ref a), .val (.double v27), .second, .val (.double v39), .second, .val (.double FP.dconst0), .second, .val (.ref a), .val (.int (1 : Int32)), .val (.int (0 : Int32)), .val (.double z0), .second] [(.double v75)]))
  refine Dn.st (fun _ kk => XS.dstore X0.here hx rfl (hb hby d2_76) rfl (l' := #[.val (.ref a), .val (.double v27), .second, .val (.double v39), .second, .val (.double v75), .second, .val (.ref a), .val (.int (1 : Int32)), .val (.int (0 : Int32)), .val (.double z0), .second]) rfl (XS.iinc X0.here hx rfl (hb hby d2_78) rfl (l' := #[.val (.ref a), .val (.double v27), .second, .val (.double v39), .second, .val (.double v75), .second, .val (.ref a), .val (.int (1 : Int32)), .val (.int (1 : Int32)), .val (.double z0), .second]) rfl (XS.goto X0.here hx rfl (pc0 := 81) (pc' := 55) rfl (hb hby d2_81) (by decide) (by decide) (XS.iload X0.here hx rfl (hb hby d2_55) rfl  (XS.iload X0.here hx rfl (hb hby d2_57) rfl  (kk)))))) ?_
  show Dn p e below s _ _ _ (s₁.setTop (mkF m 59 #[.val (.ref a), .val (.double v27), .second, .val (.double v39), .second, .val (.double v75), .second, .val (.ref a), .val (.int (1 : Int32)), .val (.int (1 : Int32)), .val (.double z0), .second] [(.int (1 : Int32)), (.int (1 : Int32))]))
  have hc59_2 : ¬ ((1 : Int32) < (1 : Int32)) := by decide
  refine Dn.st (fun _ kk => XS.icmpYes X0.here hx rfl (pc0 := 59) (pc' := 84) rfl (hb hby d2_59) rfl (flt hc59_2).2.1 (by decide) (by decide) (XS.dloadN X0.here hx rfl (hb hby d2_84) rfl  (XS.dload X0.here hx rfl (hb hby d2_85) rfl  (XS.aloadN X0.here hx rfl (hb hby d2_87) rfl rfl (kk))))) ?_
  show Dn p e below s _ _ _ (s₁.setTop (mkF m 88 #[.val (.ref a), .val (.double v27), .second, .val (.double v39), .second, .val (.double v75), .second, .val (.ref a), .val (.int (1 : Int32)), .val (.int (1 : Int32)), .val (.double z0), .second] [(.ref a), (.double v75), (.double v39)]))
  have Vc_a_88 := Va
  obtain ⟨cl_a_88, Ar_a_88, q_a_88, S_a_88, N_a_88, H_a_88, G_a_88⟩ := Vc_a_88
  refine Dn.st (fun _ kk => X0.arraylength hx (by rw [e0]; exact Ar_a_88.1) (State.isArrayOf_alike hZ.alike Ar_a_88.2.1) (g := (mkF m 88 #[.val (.ref a), .val (.double v27), .second, .val (.double v39), .second, .val (.double v75), .second, .val (.ref a), .val (.int (1 : Int32)), .val (.int (1 : Int32)), .val (.double z0), .second] [(.ref a), (.double v75), (.double v39)])) rfl rfl (hb hby d2_88) _ (kk)) ?_
  show Dn p e below s _ _ _ (s₁.setTop (mkF m 89 #[.val (.ref a), .val (.double v27), .second, .val (.double v39), .second, .val (.double v75), .second, .val (.ref a), .val (.int (1 : Int32)), .val (.int (1 : Int32)), .val (.double z0), .second] [(.int cl_a_88.slots.size.toInt32), (.double v75), (.double v39)]))
  rw [len_of S_a_88 N_a_88]
  show Dn p e below s _ _ _ (s₁.setTop (mkF m 89 #[.val (.ref a), .val (.double v27), .second, .val (.double v39), .second, .val (.double v75), .second, .val (.ref a), .val (.int (1 : Int32)), .val (.int (1 : Int32)), .val (.double z0), .second] [(.int (1 : Int32)), (.double v75), (.double v39)]))
  have d89 := DS.i2d (1 : Int32)
  refine Dn.st (fun _ kk => XS.i2dS X0.here hx rfl (hb hby d2_89) rfl rfl (kk)) ?_
  show Dn p e below s _ _ _ (s₁.setTop (mkF m 90 #[.val (.ref a), .val (.double v27), .second, .val (.double v39), .second, .val (.double v75), .second, .val (.ref a), .val (.int (1 : Int32)), .val (.int (1 : Int32)), .val (.double z0), .second] [(.double (FP.i2d (1 : Int32))), (.double v75), (.double v39)]))
  generalize hv89 : ((FP.i2d (1 : Int32)) : UInt64) = v89 at d89 ⊢
  show Dn p e below s _ _ _ (s₁.setTop (mkF m 90 #[.val (.ref a), .val (.double v27), .second, .val (.double v39), .second, .val (.double v75), .second, .val (.ref a), .val (.int (1 : Int32)), .val (.int (1 : Int32)), .val (.double z0), .second] [(.double v89), (.double v75), (.double v39)]))
  have d90 : DS 2 0 (FP.ddiv v75 v89) := DS.div (n := 2) (Q := 0) (DS.cast (i' := 0) d75 rfl (by omega)) (DS.cast (i' := 1) d89 rfl (by decide)) (by decide) (by decide) (by decide) (by decide)
  refine Dn.st (fun _ kk => XS.ddivS X0.here hx rfl (hb hby d2_90) rfl d90.nn rfl (kk)) ?_
  show Dn p e below s _ _ _ (s₁.setTop (mkF m 91 #[.val (.ref a), .val (.double v27), .second, .val (.double v39), .second, .val (.double v75), .second, .val (.ref a), .val (.int (1 : Int32)), .val (.int (1 : Int32)), .val (.double z0), .second] [(.double (FP.ddiv v75 v89)), (.double v39)]))
  generalize hv90 : ((FP.ddiv v75 v89) : UInt64) = v90 at d90 ⊢
  show Dn p e below s _ _ _ (s₁.setTop (mkF m 91 #[.val (.ref a), .val (.double v27), .second, .val (.double v39), .second, .val (.double v75), .second, .val (.ref a), .val (.int (1 : Int32)), .val (.int (1 : Int32)), .val (.double z0), .second] [(.double v90), (.double v39)]))
  have d91 : DS 2 mq (FP.dadd v39 v90) := DS.addc d39 d90 (by omega) (by omega) (by decide)
  refine Dn.st (fun _ kk => XS.daddS X0.here hx rfl (hb hby d2_91) rfl d91.nn rfl (kk)) ?_
  show Dn p e below s _ _ _ (s₁.setTop (mkF m 92 #[.val (.ref a), .val (.double v27), .second, .val (.double v39), .second, .val (.double v75), .second, .val (.ref a), .val (.int (1 : Int32)), .val (.int (1 : Int32)), .val (.double z0), .second] [(.double (FP.dadd v39 v90))]))
  generalize hv91 : ((FP.dadd v39 v90) : UInt64) = v91 at d91 ⊢
  show Dn p e below s _ _ _ (s₁.setTop (mkF m 92 #[.val (.ref a), .val (.double v27), .second, .val (.double v39), .second, .val (.double v75), .second, .val (.ref a), .val (.int (1 : Int32)), .val (.int (1 : Int32)), .val (.double z0), .second] [(.double v91)]))
  exact Dn.ret X0 hlk hx hret rfl (Or.inr (Or.inr (Or.inl ⟨rfl, rfl, _, rfl⟩))) (hb hby d2_92) (by rw [e0]; exact ⟨_, rfl, d91, N0, rfl⟩) (by decide) (by decide)

theorem ef2_rm2E_2 (m : MethodId) (x0 : Addr) : entryFrame m #[(.ref x0)] 12 = mkF m 0 #[.val (.ref x0), .unset, .unset, .unset, .unset, .unset, .unset, .unset, .unset, .unset, .unset, .unset] [] := by first | (simp [entryFrame, mkF, argsToLocals, Value.category]; done) | rfl
def Q2E_2 (Z : State) (a : Addr) (ka : ClassId) (z0 z1 : UInt64) (w0 w1 mq : Int) (h0 : Heap) (n0 : Nat) (v : Option Value) (h : Heap) (L : List Loc) : Prop := ∃ z, v = some (.double z) ∧ DS 2 mq z ∧ Fr n0 L ∧ h = h0
set_option maxRecDepth 65536 in
set_option maxHeartbeats 40000000 in
theorem rm2E_2 (l : Launch) (Z : State) (a0 : Array Value) (hw : ∀ d ∈ tables_1, d.before a0 Z = true) (ws : List Jvm.Cond) (a : Addr) (ka : ClassId) (z0 z1 : UInt64) (w0 w1 mq : Int) (h0 : Heap) (n0 : Nat) (Z0 : n0 ≤ h0.size) (Va : Arv Z h0 a ka .double 2 [(.double z0), (.double z1)] (.double 0)) (d_z0 : DS 0 w0 z0) (d_z1 : DS 0 w1 z1) (hb0 : -1048576 ≤ w0 ∧ w0 ≤ 1048576) (hb1 : -1048576 ≤ w1 ∧ w1 ≤ 1048576) (hM : (w0 + w1) * 4 = mq * 2) :
    MetFree l (⟨"com/example/listino/listino/stats/Moments", "mean", "([D)D"⟩ : MethodName) (head1 (Jvm.Cond.code (⟨"com/example/listino/listino/stats/Moments", "mean", "([D)D"⟩ : MethodName) prog_51_method_2_code 12 (some .double) :: ws) ({ frames := 0, cells := 0, slots := 0, locals := 0 } : Room)) (fun aa UU => aa = #[(.ref a)] ∧ Z.Warmed39 UU.vm ∧ UU.heap = h0) (fun _ _ _ _ _ => True) (fun _ UU oo UU' => ∃ vv LL, oo = .returned vv ∧ Q2E_2 Z a ka z0 z1 w0 w1 mq h0 n0 vv UU'.heap LL ∧ FrameEnd UU oo UU' LL ({ frames := 0, cells := 0, slots := 0, locals := 0 } : Room).cells ({ frames := 0, cells := 0, slots := 0, locals := 0 } : Room).slots) := by
  refine MetFree.of_bodySF (plainFor_of_name pn1) hisR ?_
  intro p e s m args below meth c s₁ Bd hml0 hP hK
  obtain ⟨rfl, hZ, hh⟩ := hP
  have hx := Bd.exec
  have hby := Bd.bytes
  have hlk : meth.locks = false := BodyLoose.notSynchronized Bd
  have hret := Bd.returns
  have hml : c.maxLocals = 12 := hml0
  have hown : s.vm.findClass "com/example/listino/listino/stats/Moments" = some m.cls := findClass_of_methodNamed Bd.named
  have hnm := (name_of_methodNamed Bd.named Bd.method).1
  have X0 : Stand p l e ({ frames := 0, cells := 0, slots := 0, locals := 0 } : Room) s m #[(.ref a)] below meth c s₁ [] 0 0 := Stand.of_body Bd
  have e0 : s₁.heap = h0 := by rw [← hh, Bd.state]; rfl
  have N0 := Fr.nil n0
  show Dn p e below s (Q2E_2 Z a ka z0 z1 w0 w1 mq h0 n0) ({ frames := 0, cells := 0, slots := 0, locals := 0 } : Room).cells ({ frames := 0, cells := 0, slots := 0, locals := 0 } : Room).slots (s₁.setTop (entryFrame m #[(.ref a)] 12))
  refine Dn.st (fun _ kk => castTop (ef2_rm2E_2 m a) kk) ?_
  show Dn p e below s _ _ _ (s₁.setTop (mkF m 0 #[.val (.ref a), .unset, .unset, .unset, .unset, .unset, .unset, .unset, .unset, .unset, .unset, .unset] []))
  refine Dn.st (fun _ kk => XS.dconst0 X0.here hx rfl (hb hby d2_0) rfl (XS.dstoreN X0.here hx rfl (hb hby d2_1) rfl (l' := #[.val (.ref a), .val (.double FP.dconst0), .second, .unset, .unset, .unset, .unset, .unset, .unset, .unset, .unset, .unset]) rfl (XS.aloadN X0.here hx rfl (hb hby d2_2) rfl rfl (XS.astoreN X0.here hx rfl (hb hby d2_3) rfl rfl (l' := #[.val (.ref a), .val (.double FP.dconst0), .second, .val (.ref a), .unset, .unset, .unset, .unset, .unset, .unset, .unset, .unset]) rfl (XS.aloadN X0.here hx rfl (hb hby d2_4) rfl rfl (kk)))))) ?_
  show Dn p e below s _ _ _ (s₁.setTop (mkF m 5 #[.val (.ref a), .val (.double FP.dconst0), .second, .val (.ref a), .unset, .unset, .unset, .unset, .unset, .unset, .unset, .unset] [(.ref a)]))
  have Vc_a_5 := Va
  obtain ⟨cl_a_5, Ar_a_5, q_a_5, S_a_5, N_a_5, H_a_5, G_a_5⟩ := Vc_a_5
  refine Dn.st (fun _ kk => X0.arraylength hx (by rw [e0]; exact Ar_a_5.1) (State.isArrayOf_alike hZ.alike Ar_a_5.2.1) (g := (mkF m 5 #[.val (.ref a), .val (.double FP.dconst0), .second, .val (.ref a), .unset, .unset, .unset, .unset, .unset, .unset, .unset, .unset] [(.ref a)])) rfl rfl (hb hby d2_5) _ (kk)) ?_
  show Dn p e below s _ _ _ (s₁.setTop (mkF m 6 #[.val (.ref a), .val (.double FP.dconst0), .second, .val (.ref a), .unset, .unset, .unset, .unset, .unset, .unset, .unset, .unset] [(.int cl_a_5.slots.size.toInt32)]))
  rw [len_of S_a_5 N_a_5]
  show Dn p e below s _ _ _ (s₁.setTop (mkF m 6 #[.val (.ref a), .val (.double FP.dconst0), .second, .val (.ref a), .unset, .unset, .unset, .unset, .unset, .unset, .unset, .unset] [(.int (2 : Int32))]))
  refine Dn.st (fun _ kk => XS.istore X0.here hx rfl (hb hby d2_6) rfl (l' := #[.val (.ref a), .val (.double FP.dconst0), .second, .val (.ref a), .val (.int (2 : Int32)), .unset, .unset, .unset, .unset, .unset, .unset, .unset]) rfl (XS.iconst X0.here hx rfl (hb hby d2_8) (XS.istore X0.here hx rfl (hb hby d2_9) rfl (l' := #[.val (.ref a), .val (.double FP.dconst0), .second, .val (.ref a), .val (.int (2 : Int32)), .val (.int (0 : Int32)), .unset, .unset, .unset, .unset, .unset, .unset]) rfl (XS.iload X0.here hx rfl (hb hby d2_11) rfl  (XS.iload X0.here hx rfl (hb hby d2_13) rfl  (kk)))))) ?_
  show Dn p e below s _ _ _ (s₁.setTop (mkF m 15 #[.val (.ref a), .val (.double FP.dconst0), .second, .val (.ref a), .val (.int (2 : Int32)), .val (.int (0 : Int32)), .unset, .unset, .unset, .unset, .unset, .unset] [(.int (2 : Int32)), (.int (0 : Int32))]))
  have hc15 : (0 : Int32) < (2 : Int32) := by decide
  refine Dn.st (fun _ kk => XS.icmpNo X0.here hx rfl (hb hby d2_15) rfl (tlt hc15).2.1 (XS.aloadN X0.here hx rfl (hb hby d2_18) rfl rfl (XS.iload X0.here hx rfl (hb hby d2_19) rfl  (kk)))) ?_
  show Dn p e below s _ _ _ (s₁.setTop (mkF m 21 #[.val (.ref a), .val (.double FP.dconst0), .second, .val (.ref a), .val (.int (2 : Int32)), .val (.int (0 : Int32)), .unset, .unset, .unset, .unset, .unset, .unset] [(.int (0 : Int32)), (.ref a)]))
  have Vc_a_21 := Va
  obtain ⟨cl_a_21, Ar_a_21, q_a_21, S_a_21, N_a_21, H_a_21, G_a_21⟩ := Vc_a_21
  have hin21 : ¬ ((0 : Int32) < 0 ∨ cl_a_21.slots.size ≤ ((0 : Int32)).toNatClampNeg) := inb_of S_a_21 ⟨by decide, by decide⟩
  have hat21 : cl_a_21.slots[((0 : Int32)).toNatClampNeg]? = some (.double z0) := H_a_21.at hin21 rfl
  refine Dn.st (fun _ kk => X0.daload hx (j := (0 : Int32)) (v := (.double z0)) (by rw [e0]; exact Ar_a_21.1) (State.isArrayOf_alike hZ.alike Ar_a_21.2.1) Ar_a_21.2.2 hin21 hat21 (g := (mkF m 21 #[.val (.ref a), .val (.double FP.dconst0), .second, .val (.ref a), .val (.int (2 : Int32)), .val (.int (0 : Int32)), .unset, .unset, .unset, .unset, .unset, .unset] [(.int (0 : Int32)), (.ref a)])) rfl rfl (hb hby d2_21) _ (XS.dstore X0.here hx rfl (hb hby d2_22) rfl (l' := #[.val (.ref a), .val (.double FP.dconst0), .second, .val (.ref a), .val (.int (2 : Int32)), .val (.int (0 : Int32)), .val (.double z0), .second, .unset, .unset, .unset, .unset]) rfl (XS.dloadN X0.here hx rfl (hb hby d2_24) rfl  (XS.dload X0.here hx rfl (hb hby d2_25) rfl  (kk))))) ?_
  show Dn p e below s _ _ _ (s₁.setTop (mkF m 27 #[.val (.ref a), .val (.double FP.dconst0), .second, .val (.ref a), .val (.int (2 : Int32)), .val (.int (0 : Int32)), .val (.double z0), .second, .unset, .unset, .unset, .unset] [(.double z0), (.double FP.dconst0)]))
  have d27 : DS 0 (0 + w0) (FP.dadd FP.dconst0 z0) := DS.add dc_0 d_z0 (by omega) (by decide)
  refine Dn.st (fun _ kk => XS.daddS X0.here hx rfl (hb hby d2_27) rfl d27.nn rfl (kk)) ?_
  show Dn p e below s _ _ _ (s₁.setTop (mkF m 28 #[.val (.ref a), .val (.double FP.dconst0), .second, .val (.ref a), .val (.int (2 : Int32)), .val (.int (0 : Int32)), .val (.double z0), .second, .unset, .unset, .unset, .unset] [(.double (FP.dadd FP.dconst0 z0))]))
  generalize hv27 : ((FP.dadd FP.dconst0 z0) : UInt64) = v27 at d27 ⊢
  show Dn p e below s _ _ _ (s₁.setTop (mkF m 28 #[.val (.ref a), .val (.double FP.dconst0), .second, .val (.ref a), .val (.int (2 : Int32)), .val (.int (0 : Int32)), .val (.double z0), .second, .unset, .unset, .unset, .unset] [(.double v27)]))
  refine Dn.st (fun _ kk => XS.dstoreN X0.here hx rfl (hb hby d2_28) rfl (l' := #[.val (.ref a), .val (.double v27), .second, .val (.ref a), .val (.int (2 : Int32)), .val (.int (0 : Int32)), .val (.double z0), .second, .unset, .unset, .unset, .unset]) rfl (XS.iinc X0.here hx rfl (hb hby d2_29) rfl (l' := #[.val (.ref a), .val (.double v27), .second, .val (.ref a), .val (.int (2 : Int32)), .val (.int (1 : Int32)), .val (.double z0), .second, .unset, .unset, .unset, .unset]) rfl (XS.goto X0.here hx rfl (pc0 := 32) (pc' := 11) rfl (hb hby d2_32) (by decide) (by decide) (XS.iload X0.here hx rfl (hb hby d2_11) rfl  (XS.iload X0.here hx rfl (hb hby d2_13) rfl  (kk)))))) ?_
  show Dn p e below s _ _ _ (s₁.setTop (mkF m 15 #[.val (.ref a), .val (.double v27), .second, .val (.ref a), .val (.int (2 : Int32)), .val (.int (1 : Int32)), .val (.double z0), .second, .unset, .unset, .unset, .unset] [(.int (2 : Int32)), (.int (1 : Int32))]))
  have hc15_2 : (1 : Int32) < (2 : Int32) := by decide
  refine Dn.st (fun _ kk => XS.icmpNo X0.here hx rfl (hb hby d2_15) rfl (tlt hc15_2).2.1 (XS.aloadN X0.here hx rfl (hb hby d2_18) rfl rfl (XS.iload X0.here hx rfl (hb hby d2_19) rfl  (kk)))) ?_
  show Dn p e below s _ _ _ (s₁.setTop (mkF m 21 #[.val (.ref a), .val (.double v27), .second, .val (.ref a), .val (.int (2 : Int32)), .val (.int (1 : Int32)), .val (.double z0), .second, .unset, .unset, .unset, .unset] [(.int (1 : Int32)), (.ref a)]))
  have Vc_a_21_2 := Va
  obtain ⟨cl_a_21_2, Ar_a_21_2, q_a_21_2, S_a_21_2, N_a_21_2, H_a_21_2, G_a_21_2⟩ := Vc_a_21_2
  have hin21_2 : ¬ ((1 : Int32) < 0 ∨ cl_a_21_2.slots.size ≤ ((1 : Int32)).toNatClampNeg) := inb_of S_a_21_2 ⟨by decide, by decide⟩
  have hat21_2 : cl_a_21_2.slots[((1 : Int32)).toNatClampNeg]? = some (.double z1) := H_a_21_2.at hin21_2 rfl
  refine Dn.st (fun _ kk => X0.daload hx (j := (1 : Int32)) (v := (.double z1)) (by rw [e0]; exact Ar_a_21_2.1) (State.isArrayOf_alike hZ.alike Ar_a_21_2.2.1) Ar_a_21_2.2.2 hin21_2 hat21_2 (g := (mkF m 21 #[.val (.ref a), .val (.double v27), .second, .val (.ref a), .val (.int (2 : Int32)), .val (.int (1 : Int32)), .val (.double z0), .second, .unset, .unset, .unset, .unset] [(.int (1 : Int32)), (.ref a)])) rfl rfl (hb hby d2_21) _ (XS.dstore X0.here hx rfl (hb hby d2_22) rfl (l' := #[.val (.ref a), .val (.double v27), .second, .val (.ref a), .val (.int (2 : Int32)), .val (.int (1 : Int32)), .val (.double z1), .second, .unset, .unset, .unset, .unset]) rfl (XS.dloadN X0.here hx rfl (hb hby d2_24) rfl  (XS.dload X0.here hx rfl (hb hby d2_25) rfl  (kk))))) ?_
  show Dn p e below s _ _ _ (s₁.setTop (mkF m 27 #[.val (.ref a), .val (.double v27), .second, .val (.ref a), .val (.int (2 : Int32)), .val (.int (1 : Int32)), .val (.double z1), .second, .unset, .unset, .unset, .unset] [(.double z1), (.double v27)]))
  have d27_2 : DS 0 ((0 + w0) + w1) (FP.dadd v27 z1) := DS.add d27 d_z1 (by omega) (by decide)
  refine Dn.st (fun _ kk => XS.daddS X0.here hx rfl (hb hby d2_27) rfl d27_2.nn rfl (kk)) ?_
  show Dn p e below s _ _ _ (s₁.setTop (mkF m 28 #[.val (.ref a), .val (.double v27), .second, .val (.ref a), .val (.int (2 : Int32)), .val (.int (1 : Int32)), .val (.double z1), .second, .unset, .unset, .unset, .unset] [(.double (FP.dadd v27 z1))]))
  generalize hv27_2 : ((FP.dadd v27 z1) : UInt64) = v27_2 at d27_2 ⊢
  show Dn p e below s _ _ _ (s₁.setTop (mkF m 28 #[.val (.ref a), .val (.double v27), .second, .val (.ref a), .val (.int (2 : Int32)), .val (.int (1 : Int32)), .val (.double z1), .second, .unset, .unset, .unset, .unset] [(.double v27_2)]))
  refine Dn.st (fun _ kk => XS.dstoreN X0.here hx rfl (hb hby d2_28) rfl (l' := #[.val (.ref a), .val (.double v27_2), .second, .val (.ref a), .val (.int (2 : Int32)), .val (.int (1 : Int32)), .val (.double z1), .second, .unset, .unset, .unset, .unset]) rfl (XS.iinc X0.here hx rfl (hb hby d2_29) rfl (l' := #[.val (.ref a), .val (.double v27_2), .second, .val (.ref a), .val (.int (2 : Int32)), .val (.int (2 : Int32)), .val (.double z1), .second, .unset, .unset, .unset, .unset]) rfl (XS.goto X0.here hx rfl (pc0 := 32) (pc' := 11) rfl (hb hby d2_32) (by decide) (by decide) (XS.iload X0.here hx rfl (hb hby d2_11) rfl  (XS.iload X0.here hx rfl (hb hby d2_13) rfl  (kk)))))) ?_
  show Dn p e below s _ _ _ (s₁.setTop (mkF m 15 #[.val (.ref a), .val (.double v27_2), .second, .val (.ref a), .val (.int (2 : Int32)), .val (.int (2 : Int32)), .val (.double z1), .second, .unset, .unset, .unset, .unset] [(.int (2 : Int32)), (.int (2 : Int32))]))
  have hc15_3 : ¬ ((2 : Int32) < (2 : Int32)) := by decide
  refine Dn.st (fun _ kk => XS.icmpYes X0.here hx rfl (pc0 := 15) (pc' := 35) rfl (hb hby d2_15) rfl (flt hc15_3).2.1 (by decide) (by decide) (XS.dloadN X0.here hx rfl (hb hby d2_35) rfl  (XS.aloadN X0.here hx rfl (hb hby d2_36) rfl rfl (kk)))) ?_
  show Dn p e below s _ _ _ (s₁.setTop (mkF m 37 #[.val (.ref a), .val (.double v27_2), .second, .val (.ref a), .val (.int (2 : Int32)), .val (.int (2 : Int32)), .val (.double z1), .second, .unset, .unset, .unset, .unset] [(.ref a), (.double v27_2)]))
  have Vc_a_37 := Va
  obtain ⟨cl_a_37, Ar_a_37, q_a_37, S_a_37, N_a_37, H_a_37, G_a_37⟩ := Vc_a_37
  refine Dn.st (fun _ kk => X0.arraylength hx (by rw [e0]; exact Ar_a_37.1) (State.isArrayOf_alike hZ.alike Ar_a_37.2.1) (g := (mkF m 37 #[.val (.ref a), .val (.double v27_2), .second, .val (.ref a), .val (.int (2 : Int32)), .val (.int (2 : Int32)), .val (.double z1), .second, .unset, .unset, .unset, .unset] [(.ref a), (.double v27_2)])) rfl rfl (hb hby d2_37) _ (kk)) ?_
  show Dn p e below s _ _ _ (s₁.setTop (mkF m 38 #[.val (.ref a), .val (.double v27_2), .second, .val (.ref a), .val (.int (2 : Int32)), .val (.int (2 : Int32)), .val (.double z1), .second, .unset, .unset, .unset, .unset] [(.int cl_a_37.slots.size.toInt32), (.double v27_2)]))
  rw [len_of S_a_37 N_a_37]
  show Dn p e below s _ _ _ (s₁.setTop (mkF m 38 #[.val (.ref a), .val (.double v27_2), .second, .val (.ref a), .val (.int (2 : Int32)), .val (.int (2 : Int32)), .val (.double z1), .second, .unset, .unset, .unset, .unset] [(.int (2 : Int32)), (.double v27_2)]))
  have d38 := DS.i2d (2 : Int32)
  refine Dn.st (fun _ kk => XS.i2dS X0.here hx rfl (hb hby d2_38) rfl rfl (kk)) ?_
  show Dn p e below s _ _ _ (s₁.setTop (mkF m 39 #[.val (.ref a), .val (.double v27_2), .second, .val (.ref a), .val (.int (2 : Int32)), .val (.int (2 : Int32)), .val (.double z1), .second, .unset, .unset, .unset, .unset] [(.double (FP.i2d (2 : Int32))), (.double v27_2)]))
  generalize hv38 : ((FP.i2d (2 : Int32)) : UInt64) = v38 at d38 ⊢
  show Dn p e below s _ _ _ (s₁.setTop (mkF m 39 #[.val (.ref a), .val (.double v27_2), .second, .val (.ref a), .val (.int (2 : Int32)), .val (.int (2 : Int32)), .val (.double z1), .second, .unset, .unset, .unset, .unset] [(.double v38), (.double v27_2)]))
  have d39 : DS 2 mq (FP.ddiv v27_2 v38) := DS.div (n := 2) (Q := mq) d27_2 (DS.cast (i' := 2) d38 rfl (by decide)) (by decide) (by show _ * 4 = _ * 1; omega) (by omega) (by decide)
  refine Dn.st (fun _ kk => XS.ddivS X0.here hx rfl (hb hby d2_39) rfl d39.nn rfl (kk)) ?_
  show Dn p e below s _ _ _ (s₁.setTop (mkF m 40 #[.val (.ref a), .val (.double v27_2), .second, .val (.ref a), .val (.int (2 : Int32)), .val (.int (2 : Int32)), .val (.double z1), .second, .unset, .unset, .unset, .unset] [(.double (FP.ddiv v27_2 v38))]))
  generalize hv39 : ((FP.ddiv v27_2 v38) : UInt64) = v39 at d39 ⊢
  show Dn p e below s _ _ _ (s₁.setTop (mkF m 40 #[.val (.ref a), .val (.double v27_2), .second, .val (.ref a), .val (.int (2 : Int32)), .val (.int (2 : Int32)), .val (.double z1), .second, .unset, .unset, .unset, .unset] [(.double v39)]))
  refine Dn.st (fun _ kk => XS.dstoreN X0.here hx rfl (hb hby d2_40) rfl (l' := #[.val (.ref a), .val (.double v27_2), .second, .val (.double v39), .second, .val (.int (2 : Int32)), .val (.double z1), .second, .unset, .unset, .unset, .unset]) rfl (XS.dconst0 X0.here hx rfl (hb hby d2_41) rfl (XS.dstore X0.here hx rfl (hb hby d2_42) rfl (l' := #[.val (.ref a), .val (.double v27_2), .second, .val (.double v39), .second, .val (.double FP.dconst0), .second, .unset, .unset, .unset, .unset, .unset]) rfl (XS.aloadN X0.here hx rfl (hb hby d2_44) rfl rfl (XS.astore X0.here hx rfl (hb hby d2_45) rfl rfl (l' := #[.val (.ref a), .val (.double v27_2), .second, .val (.double v39), .second, .val (.double FP.dconst0), .second, .val (.ref a), .unset, .unset, .unset, .unset]) rfl (XS.aload X0.here hx rfl (hb hby d2_47) rfl rfl (kk))))))) ?_
  show Dn p e below s _ _ _ (s₁.setTop (mkF m 49 #[.val (.ref a), .val (.double v27_2), .second, .val (.double v39), .second, .val (.double FP.dconst0), .second, .val (.ref a), .unset, .unset, .unset, .unset] [(.ref a)]))
  have Vc_a_49 := Va
  obtain ⟨cl_a_49, Ar_a_49, q_a_49, S_a_49, N_a_49, H_a_49, G_a_49⟩ := Vc_a_49
  refine Dn.st (fun _ kk => X0.arraylength hx (by rw [e0]; exact Ar_a_49.1) (State.isArrayOf_alike hZ.alike Ar_a_49.2.1) (g := (mkF m 49 #[.val (.ref a), .val (.double v27_2), .second, .val (.double v39), .second, .val (.double FP.dconst0), .second, .val (.ref a), .unset, .unset, .unset, .unset] [(.ref a)])) rfl rfl (hb hby d2_49) _ (kk)) ?_
  show Dn p e below s _ _ _ (s₁.setTop (mkF m 50 #[.val (.ref a), .val (.double v27_2), .second, .val (.double v39), .second, .val (.double FP.dconst0), .second, .val (.ref a), .unset, .unset, .unset, .unset] [(.int cl_a_49.slots.size.toInt32)]))
  rw [len_of S_a_49 N_a_49]
  show Dn p e below s _ _ _ (s₁.setTop (mkF m 50 #[.val (.ref a), .val (.double v27_2), .second, .val (.double v39), .second, .val (.double FP.dconst0), .second, .val (.ref a), .unset, .unset, .unset, .unset] [(.int (2 : Int32))]))
  refine Dn.st (fun _ kk => XS.istore X0.here hx rfl (hb hby d2_50) rfl (l' := #[.val (.ref a), .val (.double v27_2), .second, .val (.double v39), .second, .val (.double FP.dconst0), .second, .val (.ref a), .val (.int (2 : Int32)), .unset, .unset, .unset]) rfl (XS.iconst X0.here hx rfl (hb hby d2_52) (XS.istore X0.here hx rfl (hb hby d2_53) rfl (l' := #[.val (.ref a), .val (.double v27_2), .second, .val (.double v39), .second, .val (.double FP.dconst0), .second, .val (.ref a), .val (.int (2 : Int32)), .val (.int (0 : Int32)), .unset, .unset]) rfl (XS.iload X0.here hx rfl (hb hby d2_55) rfl  (XS.iload X0.here hx rfl (hb hby d2_57) rfl  (kk)))))) ?_
  show Dn p e below s _ _ _ (s₁.setTop (mkF m 59 #[.val (.ref a), .val (.double v27_2), .second, .val (.double v39), .second, .val (.double FP.dconst0), .second, .val (.ref a), .val (.int (2 : Int32)), .val (.int (0 : Int32)), .unset, .unset] [(.int (2 : Int32)), (.int (0 : Int32))]))
  have hc59 : (0 : Int32) < (2 : Int32) := by decide
  refine Dn.st (fun _ kk => XS.icmpNo X0.here hx rfl (hb hby d2_59) rfl (tlt hc59).2.1 (XS.aload X0.here hx rfl (hb hby d2_62) rfl rfl (XS.iload X0.here hx rfl (hb hby d2_64) rfl  (kk)))) ?_
  show Dn p e below s _ _ _ (s₁.setTop (mkF m 66 #[.val (.ref a), .val (.double v27_2), .second, .val (.double v39), .second, .val (.double FP.dconst0), .second, .val (.ref a), .val (.int (2 : Int32)), .val (.int (0 : Int32)), .unset, .unset] [(.int (0 : Int32)), (.ref a)]))
  have Vc_a_66 := Va
  obtain ⟨cl_a_66, Ar_a_66, q_a_66, S_a_66, N_a_66, H_a_66, G_a_66⟩ := Vc_a_66
  have hin66 : ¬ ((0 : Int32) < 0 ∨ cl_a_66.slots.size ≤ ((0 : Int32)).toNatClampNeg) := inb_of S_a_66 ⟨by decide, by decide⟩
  have hat66 : cl_a_66.slots[((0 : Int32)).toNatClampNeg]? = some (.double z0) := H_a_66.at hin66 rfl
  refine Dn.st (fun _ kk => X0.daload hx (j := (0 : Int32)) (v := (.double z0)) (by rw [e0]; exact Ar_a_66.1) (State.isArrayOf_alike hZ.alike Ar_a_66.2.1) Ar_a_66.2.2 hin66 hat66 (g := (mkF m 66 #[.val (.ref a), .val (.double v27_2), .second, .val (.double v39), .second, .val (.double FP.dconst0), .second, .val (.ref a), .val (.int (2 : Int32)), .val (.int (0 : Int32)), .unset, .unset] [(.int (0 : Int32)), (.ref a)])) rfl rfl (hb hby d2_66) _ (XS.dstore X0.here hx rfl (hb hby d2_67) rfl (l' := #[.val (.ref a), .val (.double v27_2), .second, .val (.double v39), .second, .val (.double FP.dconst0), .second, .val (.ref a), .val (.int (2 : Int32)), .val (.int (0 : Int32)), .val (.double z0), .second]) rfl (XS.dload X0.here hx rfl (hb hby d2_69) rfl  (XS.dload X0.here hx rfl (hb hby d2_71) rfl  (XS.dloadN X0.here hx rfl (hb hby d2_73) rfl  (kk)))))) ?_
  show Dn p e below s _ _ _ (s₁.setTop (mkF m 74 #[.val (.ref a), .val (.double v27_2), .second, .val (.double v39), .second, .val (.double FP.dconst0), .second, .val (.ref a), .val (.int (2 : Int32)), .val (.int (0 : Int32)), .val (.double z0), .second] [(.double v39), (.double z0), (.double FP.dconst0)]))
  have d74 : DS 2 ((w0 * 4) - mq) (FP.dsub z0 v39) := DS.sub ((d_z0).up 2) d39 (by omega) (by decide)
  refine Dn.st (fun _ kk => XS.dsubS X0.here hx rfl (hb hby d2_74) rfl d74.nn rfl (kk)) ?_
  show Dn p e below s _ _ _ (s₁.setTop (mkF m 75 #[.val (.ref a), .val (.double v27_2), .second, .val (.double v39), .second, .val (.double FP.dconst0), .second, .val (.ref a), .val (.int (2 : Int32)), .val (.int (0 : Int32)), .val (.double z0), .second] [(.double (FP.dsub z0 v39)), (.double FP.dconst0)]))
  generalize hv74 : ((FP.dsub z0 v39) : UInt64) = v74 at d74 ⊢
  show Dn p e below s _ _ _ (s₁.setTop (mkF m 75 #[.val (.ref a), .val (.double v27_2), .second, .val (.double v39), .second, .val (.double FP.dconst0), .second, .val (.ref a), .val (.int (2 : Int32)), .val (.int (0 : Int32)), .val (.double z0), .second] [(.double v74), (.double FP.dconst0)]))
  have d75 : DS 2 (0 + ((w0 * 4) - mq)) (FP.dadd FP.dconst0 v74) := DS.add (DS.cast (k' := 2) (i' := 0) ((dc_0).up 2) rfl (by decide)) d74 (by omega) (by decide)
  refine Dn.st (fun _ kk => XS.daddS X0.here hx rfl (hb hby d2_75) rfl d75.nn rfl (kk)) ?_
  show Dn p e below s _ _ _ (s₁.setTop (mkF m 76 #[.val (.ref a), .val (.double v27_2), .second, .val (.double v39), .second, .val (.double FP.dconst0), .second, .val (.ref a), .val (.int (2 : Int32)), .val (.int (0 : Int32)), .val (.double z0), .second] [(.double (FP.dadd FP.dconst0 v74))]))
  generalize hv75 : ((FP.dadd FP.dconst0 v74) : UInt64) = v75 at d75 ⊢
  show Dn p e below s _ _ _ (s₁.setTop (mkF m 76 #[.val (.ref a), .val (.double v27_2), .second, .val (.double v39), .second, .val (.double FP.dconst0), .second, .val (.ref a), .val (.int (2 : Int32)), .val (.int (0 : Int32)), .val (.double z0), .second] [(.double v75)]))
  refine Dn.st (fun _ kk => XS.dstore X0.here hx rfl (hb hby d2_76) rfl (l' := #[.val (.ref a), .val (.double v27_2), .second, .val (.double v39), .second, .val (.double v75), .second, .val (.ref a), .val (.int (2 : Int32)), .val (.int (0 : Int32)), .val (.double z0), .second]) rfl (XS.iinc X0.here hx rfl (hb hby d2_78) rfl (l' := #[.val (.ref a), .val (.double v27_2), .second, .val (.double v39), .second, .val (.double v75), .second, .val (.ref a), .val (.int (2 : Int32)), .val (.int (1 : Int32)), .val (.double z0), .second]) rfl (XS.goto X0.here hx rfl (pc0 := 81) (pc' := 55) rfl (hb hby d2_81) (by decide) (by decide) (XS.iload X0.here hx rfl (hb hby d2_55) rfl  (XS.iload X0.here hx rfl (hb hby d2_57) rfl  (kk)))))) ?_
  show Dn p e below s _ _ _ (s₁.setTop (mkF m 59 #[.val (.ref a), .val (.double v27_2), .second, .val (.double v39), .second, .val (.double v75), .second, .val (.ref a), .val (.int (2 : Int32)), .val (.int (1 : Int32)), .val (.double z0), .second] [(.int (2 : Int32)), (.int (1 : Int32))]))
  have hc59_2 : (1 : Int32) < (2 : Int32) := by decide
  refine Dn.st (fun _ kk => XS.icmpNo X0.here hx rfl (hb hby d2_59) rfl (tlt hc59_2).2.1 (XS.aload X0.here hx rfl (hb hby d2_62) rfl rfl (XS.iload X0.here hx rfl (hb hby d2_64) rfl  (kk)))) ?_
  show Dn p e below s _ _ _ (s₁.setTop (mkF m 66 #[.val (.ref a), .val (.double v27_2), .second, .val (.double v39), .second, .val (.double v75), .second, .val (.ref a), .val (.int (2 : Int32)), .val (.int (1 : Int32)), .val (.double z0), .second] [(.int (1 : Int32)), (.ref a)]))
  have Vc_a_66_2 := Va
  obtain ⟨cl_a_66_2, Ar_a_66_2, q_a_66_2, S_a_66_2, N_a_66_2, H_a_66_2, G_a_66_2⟩ := Vc_a_66_2
  have hin66_2 : ¬ ((1 : Int32) < 0 ∨ cl_a_66_2.slots.size ≤ ((1 : Int32)).toNatClampNeg) := inb_of S_a_66_2 ⟨by decide, by decide⟩
  have hat66_2 : cl_a_66_2.slots[((1 : Int32)).toNatClampNeg]? = some (.double z1) := H_a_66_2.at hin66_2 rfl
  refine Dn.st (fun _ kk => X0.daload hx (j := (1 : Int32)) (v := (.double z1)) (by rw [e0]; exact Ar_a_66_2.1) (State.isArrayOf_alike hZ.alike Ar_a_66_2.2.1) Ar_a_66_2.2.2 hin66_2 hat66_2 (g := (mkF m 66 #[.val (.ref a), .val (.double v27_2), .second, .val (.double v39), .second, .val (.double v75), .second, .val (.ref a), .val (.int (2 : Int32)), .val (.int (1 : Int32)), .val (.double z0), .second] [(.int (1 : Int32)), (.ref a)])) rfl rfl (hb hby d2_66) _ (XS.dstore X0.here hx rfl (hb hby d2_67) rfl (l' := #[.val (.ref a), .val (.double v27_2), .second, .val (.double v39), .second, .val (.double v75), .second, .val (.ref a), .val (.int (2 : Int32)), .val (.int (1 : Int32)), .val (.double z1), .second]) rfl (XS.dload X0.here hx rfl (hb hby d2_69) rfl  (XS.dload X0.here hx rfl (hb hby d2_71) rfl  (XS.dloadN X0.here hx rfl (hb hby d2_73) rfl  (kk)))))) ?_
  show Dn p e below s _ _ _ (s₁.setTop (mkF m 74 #[.val (.ref a), .val (.double v27_2), .second, .val (.double v39), .second, .val (.double v75), .second, .val (.ref a), .val (.int (2 : Int32)), .val (.int (1 : Int32)), .val (.double z1), .second] [(.double v39), (.double z1), (.double v75)]))
  have d74_2 : DS 2 ((w1 * 4) - mq) (FP.dsub z1 v39) := DS.sub ((d_z1).up 2) d39 (by omega) (by decide)
  refine Dn.st (fun _ kk => XS.dsubS X0.here hx rfl (hb hby d2_74) rfl d74_2.nn rfl (kk)) ?_
  show Dn p e below s _ _ _ (s₁.setTop (mkF m 75 #[.val (.ref a), .val (.double v27_2), .second, .val (.double v39), .second, .val (.double v75), .second, .val (.ref a), .val (.int (2 : Int32)), .val (.int (1 : Int32)), .val (.double z1), .second] [(.double (FP.dsub z1 v39)), (.double v75)]))
  generalize hv74_2 : ((FP.dsub z1 v39) : UInt64) = v74_2 at d74_2 ⊢
  show Dn p e below s _ _ _ (s₁.setTop (mkF m 75 #[.val (.ref a), .val (.double v27_2), .second, .val (.double v39), .second, .val (.double v75), .second, .val (.ref a), .val (.int (2 : Int32)), .val (.int (1 : Int32)), .val (.double z1), .second] [(.double v74_2), (.double v75)]))
  have d75_2 : DS 2 ((0 + ((w0 * 4) - mq)) + ((w1 * 4) - mq)) (FP.dadd v75 v74_2) := DS.add d75 d74_2 (by omega) (by decide)
  refine Dn.st (fun _ kk => XS.daddS X0.here hx rfl (hb hby d2_75) rfl d75_2.nn rfl (kk)) ?_
  show Dn p e below s _ _ _ (s₁.setTop (mkF m 76 #[.val (.ref a), .val (.double v27_2), .second, .val (.double v39), .second, .val (.double v75), .second, .val (.ref a), .val (.int (2 : Int32)), .val (.int (1 : Int32)), .val (.double z1), .second] [(.double (FP.dadd v75 v74_2))]))
  generalize hv75_2 : ((FP.dadd v75 v74_2) : UInt64) = v75_2 at d75_2 ⊢
  show Dn p e below s _ _ _ (s₁.setTop (mkF m 76 #[.val (.ref a), .val (.double v27_2), .second, .val (.double v39), .second, .val (.double v75), .second, .val (.ref a), .val (.int (2 : Int32)), .val (.int (1 : Int32)), .val (.double z1), .second] [(.double v75_2)]))
  refine Dn.st (fun _ kk => XS.dstore X0.here hx rfl (hb hby d2_76) rfl (l' := #[.val (.ref a), .val (.double v27_2), .second, .val (.double v39), .second, .val (.double v75_2), .second, .val (.ref a), .val (.int (2 : Int32)), .val (.int (1 : Int32)), .val (.double z1), .second]) rfl (XS.iinc X0.here hx rfl (hb hby d2_78) rfl (l' := #[.val (.ref a), .val (.double v27_2), .second, .val (.double v39), .second, .val (.double v75_2), .second, .val (.ref a), .val (.int (2 : Int32)), .val (.int (2 : Int32)), .val (.double z1), .second]) rfl (XS.goto X0.here hx rfl (pc0 := 81) (pc' := 55) rfl (hb hby d2_81) (by decide) (by decide) (XS.iload X0.here hx rfl (hb hby d2_55) rfl  (XS.iload X0.here hx rfl (hb hby d2_57) rfl  (kk)))))) ?_
  show Dn p e below s _ _ _ (s₁.setTop (mkF m 59 #[.val (.ref a), .val (.double v27_2), .second, .val (.double v39), .second, .val (.double v75_2), .second, .val (.ref a), .val (.int (2 : Int32)), .val (.int (2 : Int32)), .val (.double z1), .second] [(.int (2 : Int32)), (.int (2 : Int32))]))
  have hc59_3 : ¬ ((2 : Int32) < (2 : Int32)) := by decide
  refine Dn.st (fun _ kk => XS.icmpYes X0.here hx rfl (pc0 := 59) (pc' := 84) rfl (hb hby d2_59) rfl (flt hc59_3).2.1 (by decide) (by decide) (XS.dloadN X0.here hx rfl (hb hby d2_84) rfl  (XS.dload X0.here hx rfl (hb hby d2_85) rfl  (XS.aloadN X0.here hx rfl (hb hby d2_87) rfl rfl (kk))))) ?_
  show Dn p e below s _ _ _ (s₁.setTop (mkF m 88 #[.val (.ref a), .val (.double v27_2), .second, .val (.double v39), .second, .val (.double v75_2), .second, .val (.ref a), .val (.int (2 : Int32)), .val (.int (2 : Int32)), .val (.double z1), .second] [(.ref a), (.double v75_2), (.double v39)]))
  have Vc_a_88 := Va
  obtain ⟨cl_a_88, Ar_a_88, q_a_88, S_a_88, N_a_88, H_a_88, G_a_88⟩ := Vc_a_88
  refine Dn.st (fun _ kk => X0.arraylength hx (by rw [e0]; exact Ar_a_88.1) (State.isArrayOf_alike hZ.alike Ar_a_88.2.1) (g := (mkF m 88 #[.val (.ref a), .val (.double v27_2), .second, .val (.double v39), .second, .val (.double v75_2), .second, .val (.ref a), .val (.int (2 : Int32)), .val (.int (2 : Int32)), .val (.double z1), .second] [(.ref a), (.double v75_2), (.double v39)])) rfl rfl (hb hby d2_88) _ (kk)) ?_
  show Dn p e below s _ _ _ (s₁.setTop (mkF m 89 #[.val (.ref a), .val (.double v27_2), .second, .val (.double v39), .second, .val (.double v75_2), .second, .val (.ref a), .val (.int (2 : Int32)), .val (.int (2 : Int32)), .val (.double z1), .second] [(.int cl_a_88.slots.size.toInt32), (.double v75_2), (.double v39)]))
  rw [len_of S_a_88 N_a_88]
  show Dn p e below s _ _ _ (s₁.setTop (mkF m 89 #[.val (.ref a), .val (.double v27_2), .second, .val (.double v39), .second, .val (.double v75_2), .second, .val (.ref a), .val (.int (2 : Int32)), .val (.int (2 : Int32)), .val (.double z1), .second] [(.int (2 : Int32)), (.double v75_2), (.double v39)]))
  have d89 := DS.i2d (2 : Int32)
  refine Dn.st (fun _ kk => XS.i2dS X0.here hx rfl (hb hby d2_89) rfl rfl (kk)) ?_
  show Dn p e below s _ _ _ (s₁.setTop (mkF m 90 #[.val (.ref a), .val (.double v27_2), .second, .val (.double v39), .second, .val (.double v75_2), .second, .val (.ref a), .val (.int (2 : Int32)), .val (.int (2 : Int32)), .val (.double z1), .second] [(.double (FP.i2d (2 : Int32))), (.double v75_2), (.double v39)]))
  generalize hv89 : ((FP.i2d (2 : Int32)) : UInt64) = v89 at d89 ⊢
  show Dn p e below s _ _ _ (s₁.setTop (mkF m 90 #[.val (.ref a), .val (.double v27_2), .second, .val (.double v39), .second, .val (.double v75_2), .second, .val (.ref a), .val (.int (2 : Int32)), .val (.int (2 : Int32)), .val (.double z1), .second] [(.double v89), (.double v75_2), (.double v39)]))
  have d90 : DS 2 0 (FP.ddiv v75_2 v89) := DS.div (n := 2) (Q := 0) (DS.cast (i' := 0) d75_2 rfl (by omega)) (DS.cast (i' := 2) d89 rfl (by decide)) (by decide) (by decide) (by decide) (by decide)
  refine Dn.st (fun _ kk => XS.ddivS X0.here hx rfl (hb hby d2_90) rfl d90.nn rfl (kk)) ?_
  show Dn p e below s _ _ _ (s₁.setTop (mkF m 91 #[.val (.ref a), .val (.double v27_2), .second, .val (.double v39), .second, .val (.double v75_2), .second, .val (.ref a), .val (.int (2 : Int32)), .val (.int (2 : Int32)), .val (.double z1), .second] [(.double (FP.ddiv v75_2 v89)), (.double v39)]))
  generalize hv90 : ((FP.ddiv v75_2 v89) : UInt64) = v90 at d90 ⊢
  show Dn p e below s _ _ _ (s₁.setTop (mkF m 91 #[.val (.ref a), .val (.double v27_2), .second, .val (.double v39), .second, .val (.double v75_2), .second, .val (.ref a), .val (.int (2 : Int32)), .val (.int (2 : Int32)), .val (.double z1), .second] [(.double v90), (.double v39)]))
  have d91 : DS 2 mq (FP.dadd v39 v90) := DS.addc d39 d90 (by omega) (by omega) (by decide)
  refine Dn.st (fun _ kk => XS.daddS X0.here hx rfl (hb hby d2_91) rfl d91.nn rfl (kk)) ?_
  show Dn p e below s _ _ _ (s₁.setTop (mkF m 92 #[.val (.ref a), .val (.double v27_2), .second, .val (.double v39), .second, .val (.double v75_2), .second, .val (.ref a), .val (.int (2 : Int32)), .val (.int (2 : Int32)), .val (.double z1), .second] [(.double (FP.dadd v39 v90))]))
  generalize hv91 : ((FP.dadd v39 v90) : UInt64) = v91 at d91 ⊢
  show Dn p e below s _ _ _ (s₁.setTop (mkF m 92 #[.val (.ref a), .val (.double v27_2), .second, .val (.double v39), .second, .val (.double v75_2), .second, .val (.ref a), .val (.int (2 : Int32)), .val (.int (2 : Int32)), .val (.double z1), .second] [(.double v91)]))
  exact Dn.ret X0 hlk hx hret rfl (Or.inr (Or.inr (Or.inl ⟨rfl, rfl, _, rfl⟩))) (hb hby d2_92) (by rw [e0]; exact ⟨_, rfl, d91, N0, rfl⟩) (by decide) (by decide)

theorem ef2_rm2E_3 (m : MethodId) (x0 : Addr) : entryFrame m #[(.ref x0)] 12 = mkF m 0 #[.val (.ref x0), .unset, .unset, .unset, .unset, .unset, .unset, .unset, .unset, .unset, .unset, .unset] [] := by first | (simp [entryFrame, mkF, argsToLocals, Value.category]; done) | rfl
def Q2E_3 (Z : State) (a : Addr) (ka : ClassId) (z0 z1 z2 : UInt64) (w0 w1 w2 mq : Int) (h0 : Heap) (n0 : Nat) (v : Option Value) (h : Heap) (L : List Loc) : Prop := ∃ z, v = some (.double z) ∧ DS 2 mq z ∧ Fr n0 L ∧ h = h0
set_option maxRecDepth 65536 in
set_option maxHeartbeats 40000000 in
theorem rm2E_3 (l : Launch) (Z : State) (a0 : Array Value) (hw : ∀ d ∈ tables_1, d.before a0 Z = true) (ws : List Jvm.Cond) (a : Addr) (ka : ClassId) (z0 z1 z2 : UInt64) (w0 w1 w2 mq : Int) (h0 : Heap) (n0 : Nat) (Z0 : n0 ≤ h0.size) (Va : Arv Z h0 a ka .double 3 [(.double z0), (.double z1), (.double z2)] (.double 0)) (d_z0 : DS 0 w0 z0) (d_z1 : DS 0 w1 z1) (d_z2 : DS 0 w2 z2) (hb0 : -1048576 ≤ w0 ∧ w0 ≤ 1048576) (hb1 : -1048576 ≤ w1 ∧ w1 ≤ 1048576) (hb2 : -1048576 ≤ w2 ∧ w2 ≤ 1048576) (hM : (w0 + w1 + w2) * 4 = mq * 3) :
    MetFree l (⟨"com/example/listino/listino/stats/Moments", "mean", "([D)D"⟩ : MethodName) (head1 (Jvm.Cond.code (⟨"com/example/listino/listino/stats/Moments", "mean", "([D)D"⟩ : MethodName) prog_51_method_2_code 12 (some .double) :: ws) ({ frames := 0, cells := 0, slots := 0, locals := 0 } : Room)) (fun aa UU => aa = #[(.ref a)] ∧ Z.Warmed39 UU.vm ∧ UU.heap = h0) (fun _ _ _ _ _ => True) (fun _ UU oo UU' => ∃ vv LL, oo = .returned vv ∧ Q2E_3 Z a ka z0 z1 z2 w0 w1 w2 mq h0 n0 vv UU'.heap LL ∧ FrameEnd UU oo UU' LL ({ frames := 0, cells := 0, slots := 0, locals := 0 } : Room).cells ({ frames := 0, cells := 0, slots := 0, locals := 0 } : Room).slots) := by
  refine MetFree.of_bodySF (plainFor_of_name pn1) hisR ?_
  intro p e s m args below meth c s₁ Bd hml0 hP hK
  obtain ⟨rfl, hZ, hh⟩ := hP
  have hx := Bd.exec
  have hby := Bd.bytes
  have hlk : meth.locks = false := BodyLoose.notSynchronized Bd
  have hret := Bd.returns
  have hml : c.maxLocals = 12 := hml0
  have hown : s.vm.findClass "com/example/listino/listino/stats/Moments" = some m.cls := findClass_of_methodNamed Bd.named
  have hnm := (name_of_methodNamed Bd.named Bd.method).1
  have X0 : Stand p l e ({ frames := 0, cells := 0, slots := 0, locals := 0 } : Room) s m #[(.ref a)] below meth c s₁ [] 0 0 := Stand.of_body Bd
  have e0 : s₁.heap = h0 := by rw [← hh, Bd.state]; rfl
  have N0 := Fr.nil n0
  show Dn p e below s (Q2E_3 Z a ka z0 z1 z2 w0 w1 w2 mq h0 n0) ({ frames := 0, cells := 0, slots := 0, locals := 0 } : Room).cells ({ frames := 0, cells := 0, slots := 0, locals := 0 } : Room).slots (s₁.setTop (entryFrame m #[(.ref a)] 12))
  refine Dn.st (fun _ kk => castTop (ef2_rm2E_3 m a) kk) ?_
  show Dn p e below s _ _ _ (s₁.setTop (mkF m 0 #[.val (.ref a), .unset, .unset, .unset, .unset, .unset, .unset, .unset, .unset, .unset, .unset, .unset] []))
  refine Dn.st (fun _ kk => XS.dconst0 X0.here hx rfl (hb hby d2_0) rfl (XS.dstoreN X0.here hx rfl (hb hby d2_1) rfl (l' := #[.val (.ref a), .val (.double FP.dconst0), .second, .unset, .unset, .unset, .unset, .unset, .unset, .unset, .unset, .unset]) rfl (XS.aloadN X0.here hx rfl (hb hby d2_2) rfl rfl (XS.astoreN X0.here hx rfl (hb hby d2_3) rfl rfl (l' := #[.val (.ref a), .val (.double FP.dconst0), .second, .val (.ref a), .unset, .unset, .unset, .unset, .unset, .unset, .unset, .unset]) rfl (XS.aloadN X0.here hx rfl (hb hby d2_4) rfl rfl (kk)))))) ?_
  show Dn p e below s _ _ _ (s₁.setTop (mkF m 5 #[.val (.ref a), .val (.double FP.dconst0), .second, .val (.ref a), .unset, .unset, .unset, .unset, .unset, .unset, .unset, .unset] [(.ref a)]))
  have Vc_a_5 := Va
  obtain ⟨cl_a_5, Ar_a_5, q_a_5, S_a_5, N_a_5, H_a_5, G_a_5⟩ := Vc_a_5
  refine Dn.st (fun _ kk => X0.arraylength hx (by rw [e0]; exact Ar_a_5.1) (State.isArrayOf_alike hZ.alike Ar_a_5.2.1) (g := (mkF m 5 #[.val (.ref a), .val (.double FP.dconst0), .second, .val (.ref a), .unset, .unset, .unset, .unset, .unset, .unset, .unset, .unset] [(.ref a)])) rfl rfl (hb hby d2_5) _ (kk)) ?_
  show Dn p e below s _ _ _ (s₁.setTop (mkF m 6 #[.val (.ref a), .val (.double FP.dconst0), .second, .val (.ref a), .unset, .unset, .unset, .unset, .unset, .unset, .unset, .unset] [(.int cl_a_5.slots.size.toInt32)]))
  rw [len_of S_a_5 N_a_5]
  show Dn p e below s _ _ _ (s₁.setTop (mkF m 6 #[.val (.ref a), .val (.double FP.dconst0), .second, .val (.ref a), .unset, .unset, .unset, .unset, .unset, .unset, .unset, .unset] [(.int (3 : Int32))]))
  refine Dn.st (fun _ kk => XS.istore X0.here hx rfl (hb hby d2_6) rfl (l' := #[.val (.ref a), .val (.double FP.dconst0), .second, .val (.ref a), .val (.int (3 : Int32)), .unset, .unset, .unset, .unset, .unset, .unset, .unset]) rfl (XS.iconst X0.here hx rfl (hb hby d2_8) (XS.istore X0.here hx rfl (hb hby d2_9) rfl (l' := #[.val (.ref a), .val (.double FP.dconst0), .second, .val (.ref a), .val (.int (3 : Int32)), .val (.int (0 : Int32)), .unset, .unset, .unset, .unset, .unset, .unset]) rfl (XS.iload X0.here hx rfl (hb hby d2_11) rfl  (XS.iload X0.here hx rfl (hb hby d2_13) rfl  (kk)))))) ?_
  show Dn p e below s _ _ _ (s₁.setTop (mkF m 15 #[.val (.ref a), .val (.double FP.dconst0), .second, .val (.ref a), .val (.int (3 : Int32)), .val (.int (0 : Int32)), .unset, .unset, .unset, .unset, .unset, .unset] [(.int (3 : Int32)), (.int (0 : Int32))]))
  have hc15 : (0 : Int32) < (3 : Int32) := by decide
  refine Dn.st (fun _ kk => XS.icmpNo X0.here hx rfl (hb hby d2_15) rfl (tlt hc15).2.1 (XS.aloadN X0.here hx rfl (hb hby d2_18) rfl rfl (XS.iload X0.here hx rfl (hb hby d2_19) rfl  (kk)))) ?_
  show Dn p e below s _ _ _ (s₁.setTop (mkF m 21 #[.val (.ref a), .val (.double FP.dconst0), .second, .val (.ref a), .val (.int (3 : Int32)), .val (.int (0 : Int32)), .unset, .unset, .unset, .unset, .unset, .unset] [(.int (0 : Int32)), (.ref a)]))
  have Vc_a_21 := Va
  obtain ⟨cl_a_21, Ar_a_21, q_a_21, S_a_21, N_a_21, H_a_21, G_a_21⟩ := Vc_a_21
  have hin21 : ¬ ((0 : Int32) < 0 ∨ cl_a_21.slots.size ≤ ((0 : Int32)).toNatClampNeg) := inb_of S_a_21 ⟨by decide, by decide⟩
  have hat21 : cl_a_21.slots[((0 : Int32)).toNatClampNeg]? = some (.double z0) := H_a_21.at hin21 rfl
  refine Dn.st (fun _ kk => X0.daload hx (j := (0 : Int32)) (v := (.double z0)) (by rw [e0]; exact Ar_a_21.1) (State.isArrayOf_alike hZ.alike Ar_a_21.2.1) Ar_a_21.2.2 hin21 hat21 (g := (mkF m 21 #[.val (.ref a), .val (.double FP.dconst0), .second, .val (.ref a), .val (.int (3 : Int32)), .val (.int (0 : Int32)), .unset, .unset, .unset, .unset, .unset, .unset] [(.int (0 : Int32)), (.ref a)])) rfl rfl (hb hby d2_21) _ (XS.dstore X0.here hx rfl (hb hby d2_22) rfl (l' := #[.val (.ref a), .val (.double FP.dconst0), .second, .val (.ref a), .val (.int (3 : Int32)), .val (.int (0 : Int32)), .val (.double z0), .second, .unset, .unset, .unset, .unset]) rfl (XS.dloadN X0.here hx rfl (hb hby d2_24) rfl  (XS.dload X0.here hx rfl (hb hby d2_25) rfl  (kk))))) ?_
  show Dn p e below s _ _ _ (s₁.setTop (mkF m 27 #[.val (.ref a), .val (.double FP.dconst0), .second, .val (.ref a), .val (.int (3 : Int32)), .val (.int (0 : Int32)), .val (.double z0), .second, .unset, .unset, .unset, .unset] [(.double z0), (.double FP.dconst0)]))
  have d27 : DS 0 (0 + w0) (FP.dadd FP.dconst0 z0) := DS.add dc_0 d_z0 (by omega) (by decide)
  refine Dn.st (fun _ kk => XS.daddS X0.here hx rfl (hb hby d2_27) rfl d27.nn rfl (kk)) ?_
  show Dn p e below s _ _ _ (s₁.setTop (mkF m 28 #[.val (.ref a), .val (.double FP.dconst0), .second, .val (.ref a), .val (.int (3 : Int32)), .val (.int (0 : Int32)), .val (.double z0), .second, .unset, .unset, .unset, .unset] [(.double (FP.dadd FP.dconst0 z0))]))
  generalize hv27 : ((FP.dadd FP.dconst0 z0) : UInt64) = v27 at d27 ⊢
  show Dn p e below s _ _ _ (s₁.setTop (mkF m 28 #[.val (.ref a), .val (.double FP.dconst0), .second, .val (.ref a), .val (.int (3 : Int32)), .val (.int (0 : Int32)), .val (.double z0), .second, .unset, .unset, .unset, .unset] [(.double v27)]))
  refine Dn.st (fun _ kk => XS.dstoreN X0.here hx rfl (hb hby d2_28) rfl (l' := #[.val (.ref a), .val (.double v27), .second, .val (.ref a), .val (.int (3 : Int32)), .val (.int (0 : Int32)), .val (.double z0), .second, .unset, .unset, .unset, .unset]) rfl (XS.iinc X0.here hx rfl (hb hby d2_29) rfl (l' := #[.val (.ref a), .val (.double v27), .second, .val (.ref a), .val (.int (3 : Int32)), .val (.int (1 : Int32)), .val (.double z0), .second, .unset, .unset, .unset, .unset]) rfl (XS.goto X0.here hx rfl (pc0 := 32) (pc' := 11) rfl (hb hby d2_32) (by decide) (by decide) (XS.iload X0.here hx rfl (hb hby d2_11) rfl  (XS.iload X0.here hx rfl (hb hby d2_13) rfl  (kk)))))) ?_
  show Dn p e below s _ _ _ (s₁.setTop (mkF m 15 #[.val (.ref a), .val (.double v27), .second, .val (.ref a), .val (.int (3 : Int32)), .val (.int (1 : Int32)), .val (.double z0), .second, .unset, .unset, .unset, .unset] [(.int (3 : Int32)), (.int (1 : Int32))]))
  have hc15_2 : (1 : Int32) < (3 : Int32) := by decide
  refine Dn.st (fun _ kk => XS.icmpNo X0.here hx rfl (hb hby d2_15) rfl (tlt hc15_2).2.1 (XS.aloadN X0.here hx rfl (hb hby d2_18) rfl rfl (XS.iload X0.here hx rfl (hb hby d2_19) rfl  (kk)))) ?_
  show Dn p e below s _ _ _ (s₁.setTop (mkF m 21 #[.val (.ref a), .val (.double v27), .second, .val (.ref a), .val (.int (3 : Int32)), .val (.int (1 : Int32)), .val (.double z0), .second, .unset, .unset, .unset, .unset] [(.int (1 : Int32)), (.ref a)]))
  have Vc_a_21_2 := Va
  obtain ⟨cl_a_21_2, Ar_a_21_2, q_a_21_2, S_a_21_2, N_a_21_2, H_a_21_2, G_a_21_2⟩ := Vc_a_21_2
  have hin21_2 : ¬ ((1 : Int32) < 0 ∨ cl_a_21_2.slots.size ≤ ((1 : Int32)).toNatClampNeg) := inb_of S_a_21_2 ⟨by decide, by decide⟩
  have hat21_2 : cl_a_21_2.slots[((1 : Int32)).toNatClampNeg]? = some (.double z1) := H_a_21_2.at hin21_2 rfl
  refine Dn.st (fun _ kk => X0.daload hx (j := (1 : Int32)) (v := (.double z1)) (by rw [e0]; exact Ar_a_21_2.1) (State.isArrayOf_alike hZ.alike Ar_a_21_2.2.1) Ar_a_21_2.2.2 hin21_2 hat21_2 (g := (mkF m 21 #[.val (.ref a), .val (.double v27), .second, .val (.ref a), .val (.int (3 : Int32)), .val (.int (1 : Int32)), .val (.double z0), .second, .unset, .unset, .unset, .unset] [(.int (1 : Int32)), (.ref a)])) rfl rfl (hb hby d2_21) _ (XS.dstore X0.here hx rfl (hb hby d2_22) rfl (l' := #[.val (.ref a), .val (.double v27), .second, .val (.ref a), .val (.int (3 : Int32)), .val (.int (1 : Int32)), .val (.double z1), .second, .unset, .unset, .unset, .unset]) rfl (XS.dloadN X0.here hx rfl (hb hby d2_24) rfl  (XS.dload X0.here hx rfl (hb hby d2_25) rfl  (kk))))) ?_
  show Dn p e below s _ _ _ (s₁.setTop (mkF m 27 #[.val (.ref a), .val (.double v27), .second, .val (.ref a), .val (.int (3 : Int32)), .val (.int (1 : Int32)), .val (.double z1), .second, .unset, .unset, .unset, .unset] [(.double z1), (.double v27)]))
  have d27_2 : DS 0 ((0 + w0) + w1) (FP.dadd v27 z1) := DS.add d27 d_z1 (by omega) (by decide)
  refine Dn.st (fun _ kk => XS.daddS X0.here hx rfl (hb hby d2_27) rfl d27_2.nn rfl (kk)) ?_
  show Dn p e below s _ _ _ (s₁.setTop (mkF m 28 #[.val (.ref a), .val (.double v27), .second, .val (.ref a), .val (.int (3 : Int32)), .val (.int (1 : Int32)), .val (.double z1), .second, .unset, .unset, .unset, .unset] [(.double (FP.dadd v27 z1))]))
  generalize hv27_2 : ((FP.dadd v27 z1) : UInt64) = v27_2 at d27_2 ⊢
  show Dn p e below s _ _ _ (s₁.setTop (mkF m 28 #[.val (.ref a), .val (.double v27), .second, .val (.ref a), .val (.int (3 : Int32)), .val (.int (1 : Int32)), .val (.double z1), .second, .unset, .unset, .unset, .unset] [(.double v27_2)]))
  refine Dn.st (fun _ kk => XS.dstoreN X0.here hx rfl (hb hby d2_28) rfl (l' := #[.val (.ref a), .val (.double v27_2), .second, .val (.ref a), .val (.int (3 : Int32)), .val (.int (1 : Int32)), .val (.double z1), .second, .unset, .unset, .unset, .unset]) rfl (XS.iinc X0.here hx rfl (hb hby d2_29) rfl (l' := #[.val (.ref a), .val (.double v27_2), .second, .val (.ref a), .val (.int (3 : Int32)), .val (.int (2 : Int32)), .val (.double z1), .second, .unset, .unset, .unset, .unset]) rfl (XS.goto X0.here hx rfl (pc0 := 32) (pc' := 11) rfl (hb hby d2_32) (by decide) (by decide) (XS.iload X0.here hx rfl (hb hby d2_11) rfl  (XS.iload X0.here hx rfl (hb hby d2_13) rfl  (kk)))))) ?_
  show Dn p e below s _ _ _ (s₁.setTop (mkF m 15 #[.val (.ref a), .val (.double v27_2), .second, .val (.ref a), .val (.int (3 : Int32)), .val (.int (2 : Int32)), .val (.double z1), .second, .unset, .unset, .unset, .unset] [(.int (3 : Int32)), (.int (2 : Int32))]))
  have hc15_3 : (2 : Int32) < (3 : Int32) := by decide
  refine Dn.st (fun _ kk => XS.icmpNo X0.here hx rfl (hb hby d2_15) rfl (tlt hc15_3).2.1 (XS.aloadN X0.here hx rfl (hb hby d2_18) rfl rfl (XS.iload X0.here hx rfl (hb hby d2_19) rfl  (kk)))) ?_
  show Dn p e below s _ _ _ (s₁.setTop (mkF m 21 #[.val (.ref a), .val (.double v27_2), .second, .val (.ref a), .val (.int (3 : Int32)), .val (.int (2 : Int32)), .val (.double z1), .second, .unset, .unset, .unset, .unset] [(.int (2 : Int32)), (.ref a)]))
  have Vc_a_21_3 := Va
  obtain ⟨cl_a_21_3, Ar_a_21_3, q_a_21_3, S_a_21_3, N_a_21_3, H_a_21_3, G_a_21_3⟩ := Vc_a_21_3
  have hin21_3 : ¬ ((2 : Int32) < 0 ∨ cl_a_21_3.slots.size ≤ ((2 : Int32)).toNatClampNeg) := inb_of S_a_21_3 ⟨by decide, by decide⟩
  have hat21_3 : cl_a_21_3.slots[((2 : Int32)).toNatClampNeg]? = some (.double z2) := H_a_21_3.at hin21_3 rfl
  refine Dn.st (fun _ kk => X0.daload hx (j := (2 : Int32)) (v := (.double z2)) (by rw [e0]; exact Ar_a_21_3.1) (State.isArrayOf_alike hZ.alike Ar_a_21_3.2.1) Ar_a_21_3.2.2 hin21_3 hat21_3 (g := (mkF m 21 #[.val (.ref a), .val (.double v27_2), .second, .val (.ref a), .val (.int (3 : Int32)), .val (.int (2 : Int32)), .val (.double z1), .second, .unset, .unset, .unset, .unset] [(.int (2 : Int32)), (.ref a)])) rfl rfl (hb hby d2_21) _ (XS.dstore X0.here hx rfl (hb hby d2_22) rfl (l' := #[.val (.ref a), .val (.double v27_2), .second, .val (.ref a), .val (.int (3 : Int32)), .val (.int (2 : Int32)), .val (.double z2), .second, .unset, .unset, .unset, .unset]) rfl (XS.dloadN X0.here hx rfl (hb hby d2_24) rfl  (XS.dload X0.here hx rfl (hb hby d2_25) rfl  (kk))))) ?_
  show Dn p e below s _ _ _ (s₁.setTop (mkF m 27 #[.val (.ref a), .val (.double v27_2), .second, .val (.ref a), .val (.int (3 : Int32)), .val (.int (2 : Int32)), .val (.double z2), .second, .unset, .unset, .unset, .unset] [(.double z2), (.double v27_2)]))
  have d27_3 : DS 0 (((0 + w0) + w1) + w2) (FP.dadd v27_2 z2) := DS.add d27_2 d_z2 (by omega) (by decide)
  refine Dn.st (fun _ kk => XS.daddS X0.here hx rfl (hb hby d2_27) rfl d27_3.nn rfl (kk)) ?_
  show Dn p e below s _ _ _ (s₁.setTop (mkF m 28 #[.val (.ref a), .val (.double v27_2), .second, .val (.ref a), .val (.int (3 : Int32)), .val (.int (2 : Int32)), .val (.double z2), .second, .unset, .unset, .unset, .unset] [(.double (FP.dadd v27_2 z2))]))
  generalize hv27_3 : ((FP.dadd v27_2 z2) : UInt64) = v27_3 at d27_3 ⊢
  show Dn p e below s _ _ _ (s₁.setTop (mkF m 28 #[.val (.ref a), .val (.double v27_2), .second, .val (.ref a), .val (.int (3 : Int32)), .val (.int (2 : Int32)), .val (.double z2), .second, .unset, .unset, .unset, .unset] [(.double v27_3)]))
  refine Dn.st (fun _ kk => XS.dstoreN X0.here hx rfl (hb hby d2_28) rfl (l' := #[.val (.ref a), .val (.double v27_3), .second, .val (.ref a), .val (.int (3 : Int32)), .val (.int (2 : Int32)), .val (.double z2), .second, .unset, .unset, .unset, .unset]) rfl (XS.iinc X0.here hx rfl (hb hby d2_29) rfl (l' := #[.val (.ref a), .val (.double v27_3), .second, .val (.ref a), .val (.int (3 : Int32)), .val (.int (3 : Int32)), .val (.double z2), .second, .unset, .unset, .unset, .unset]) rfl (XS.goto X0.here hx rfl (pc0 := 32) (pc' := 11) rfl (hb hby d2_32) (by decide) (by decide) (XS.iload X0.here hx rfl (hb hby d2_11) rfl  (XS.iload X0.here hx rfl (hb hby d2_13) rfl  (kk)))))) ?_
  show Dn p e below s _ _ _ (s₁.setTop (mkF m 15 #[.val (.ref a), .val (.double v27_3), .second, .val (.ref a), .val (.int (3 : Int32)), .val (.int (3 : Int32)), .val (.double z2), .second, .unset, .unset, .unset, .unset] [(.int (3 : Int32)), (.int (3 : Int32))]))
  have hc15_4 : ¬ ((3 : Int32) < (3 : Int32)) := by decide
  refine Dn.st (fun _ kk => XS.icmpYes X0.here hx rfl (pc0 := 15) (pc' := 35) rfl (hb hby d2_15) rfl (flt hc15_4).2.1 (by decide) (by decide) (XS.dloadN X0.here hx rfl (hb hby d2_35) rfl  (XS.aloadN X0.here hx rfl (hb hby d2_36) rfl rfl (kk)))) ?_
  show Dn p e below s _ _ _ (s₁.setTop (mkF m 37 #[.val (.ref a), .val (.double v27_3), .second, .val (.ref a), .val (.int (3 : Int32)), .val (.int (3 : Int32)), .val (.double z2), .second, .unset, .unset, .unset, .unset] [(.ref a), (.double v27_3)]))
  have Vc_a_37 := Va
  obtain ⟨cl_a_37, Ar_a_37, q_a_37, S_a_37, N_a_37, H_a_37, G_a_37⟩ := Vc_a_37
  refine Dn.st (fun _ kk => X0.arraylength hx (by rw [e0]; exact Ar_a_37.1) (State.isArrayOf_alike hZ.alike Ar_a_37.2.1) (g := (mkF m 37 #[.val (.ref a), .val (.double v27_3), .second, .val (.ref a), .val (.int (3 : Int32)), .val (.int (3 : Int32)), .val (.double z2), .second, .unset, .unset, .unset, .unset] [(.ref a), (.double v27_3)])) rfl rfl (hb hby d2_37) _ (kk)) ?_
  show Dn p e below s _ _ _ (s₁.setTop (mkF m 38 #[.val (.ref a), .val (.double v27_3), .second, .val (.ref a), .val (.int (3 : Int32)), .val (.int (3 : Int32)), .val (.double z2), .second, .unset, .unset, .unset, .unset] [(.int cl_a_37.slots.size.toInt32), (.double v27_3)]))
  rw [len_of S_a_37 N_a_37]
  show Dn p e below s _ _ _ (s₁.setTop (mkF m 38 #[.val (.ref a), .val (.double v27_3), .second, .val (.ref a), .val (.int (3 : Int32)), .val (.int (3 : Int32)), .val (.double z2), .second, .unset, .unset, .unset, .unset] [(.int (3 : Int32)), (.double v27_3)]))
  have d38 := DS.i2d (3 : Int32)
  refine Dn.st (fun _ kk => XS.i2dS X0.here hx rfl (hb hby d2_38) rfl rfl (kk)) ?_
  show Dn p e below s _ _ _ (s₁.setTop (mkF m 39 #[.val (.ref a), .val (.double v27_3), .second, .val (.ref a), .val (.int (3 : Int32)), .val (.int (3 : Int32)), .val (.double z2), .second, .unset, .unset, .unset, .unset] [(.double (FP.i2d (3 : Int32))), (.double v27_3)]))
  generalize hv38 : ((FP.i2d (3 : Int32)) : UInt64) = v38 at d38 ⊢
  show Dn p e below s _ _ _ (s₁.setTop (mkF m 39 #[.val (.ref a), .val (.double v27_3), .second, .val (.ref a), .val (.int (3 : Int32)), .val (.int (3 : Int32)), .val (.double z2), .second, .unset, .unset, .unset, .unset] [(.double v38), (.double v27_3)]))
  have d39 : DS 2 mq (FP.ddiv v27_3 v38) := DS.div (n := 2) (Q := mq) d27_3 (DS.cast (i' := 3) d38 rfl (by decide)) (by decide) (by show _ * 4 = _ * 1; omega) (by omega) (by decide)
  refine Dn.st (fun _ kk => XS.ddivS X0.here hx rfl (hb hby d2_39) rfl d39.nn rfl (kk)) ?_
  show Dn p e below s _ _ _ (s₁.setTop (mkF m 40 #[.val (.ref a), .val (.double v27_3), .second, .val (.ref a), .val (.int (3 : Int32)), .val (.int (3 : Int32)), .val (.double z2), .second, .unset, .unset, .unset, .unset] [(.double (FP.ddiv v27_3 v38))]))
  generalize hv39 : ((FP.ddiv v27_3 v38) : UInt64) = v39 at d39 ⊢
  show Dn p e below s _ _ _ (s₁.setTop (mkF m 40 #[.val (.ref a), .val (.double v27_3), .second, .val (.ref a), .val (.int (3 : Int32)), .val (.int (3 : Int32)), .val (.double z2), .second, .unset, .unset, .unset, .unset] [(.double v39)]))
  refine Dn.st (fun _ kk => XS.dstoreN X0.here hx rfl (hb hby d2_40) rfl (l' := #[.val (.ref a), .val (.double v27_3), .second, .val (.double v39), .second, .val (.int (3 : Int32)), .val (.double z2), .second, .unset, .unset, .unset, .unset]) rfl (XS.dconst0 X0.here hx rfl (hb hby d2_41) rfl (XS.dstore X0.here hx rfl (hb hby d2_42) rfl (l' := #[.val (.ref a), .val (.double v27_3), .second, .val (.double v39), .second, .val (.double FP.dconst0), .second, .unset, .unset, .unset, .unset, .unset]) rfl (XS.aloadN X0.here hx rfl (hb hby d2_44) rfl rfl (XS.astore X0.here hx rfl (hb hby d2_45) rfl rfl (l' := #[.val (.ref a), .val (.double v27_3), .second, .val (.double v39), .second, .val (.double FP.dconst0), .second, .val (.ref a), .unset, .unset, .unset, .unset]) rfl (XS.aload X0.here hx rfl (hb hby d2_47) rfl rfl (kk))))))) ?_
  show Dn p e below s _ _ _ (s₁.setTop (mkF m 49 #[.val (.ref a), .val (.double v27_3), .second, .val (.double v39), .second, .val (.double FP.dconst0), .second, .val (.ref a), .unset, .unset, .unset, .unset] [(.ref a)]))
  have Vc_a_49 := Va
  obtain ⟨cl_a_49, Ar_a_49, q_a_49, S_a_49, N_a_49, H_a_49, G_a_49⟩ := Vc_a_49
  refine Dn.st (fun _ kk => X0.arraylength hx (by rw [e0]; exact Ar_a_49.1) (State.isArrayOf_alike hZ.alike Ar_a_49.2.1) (g := (mkF m 49 #[.val (.ref a), .val (.double v27_3), .second, .val (.double v39), .second, .val (.double FP.dconst0), .second, .val (.ref a), .unset, .unset, .unset, .unset] [(.ref a)])) rfl rfl (hb hby d2_49) _ (kk)) ?_
  show Dn p e below s _ _ _ (s₁.setTop (mkF m 50 #[.val (.ref a), .val (.double v27_3), .second, .val (.double v39), .second, .val (.double FP.dconst0), .second, .val (.ref a), .unset, .unset, .unset, .unset] [(.int cl_a_49.slots.size.toInt32)]))
  rw [len_of S_a_49 N_a_49]
  show Dn p e below s _ _ _ (s₁.setTop (mkF m 50 #[.val (.ref a), .val (.double v27_3), .second, .val (.double v39), .second, .val (.double FP.dconst0), .second, .val (.ref a), .unset, .unset, .unset, .unset] [(.int (3 : Int32))]))
  refine Dn.st (fun _ kk => XS.istore X0.here hx rfl (hb hby d2_50) rfl (l' := #[.val (.ref a), .val (.double v27_3), .second, .val (.double v39), .second, .val (.double FP.dconst0), .second, .val (.ref a), .val (.int (3 : Int32)), .unset, .unset, .unset]) rfl (XS.iconst X0.here hx rfl (hb hby d2_52) (XS.istore X0.here hx rfl (hb hby d2_53) rfl (l' := #[.val (.ref a), .val (.double v27_3), .second, .val (.double v39), .second, .val (.double FP.dconst0), .second, .val (.ref a), .val (.int (3 : Int32)), .val (.int (0 : Int32)), .unset, .unset]) rfl (XS.iload X0.here hx rfl (hb hby d2_55) rfl  (XS.iload X0.here hx rfl (hb hby d2_57) rfl  (kk)))))) ?_
  show Dn p e below s _ _ _ (s₁.setTop (mkF m 59 #[.val (.ref a), .val (.double v27_3), .second, .val (.double v39), .second, .val (.double FP.dconst0), .second, .val (.ref a), .val (.int (3 : Int32)), .val (.int (0 : Int32)), .unset, .unset] [(.int (3 : Int32)), (.int (0 : Int32))]))
  have hc59 : (0 : Int32) < (3 : Int32) := by decide
  refine Dn.st (fun _ kk => XS.icmpNo X0.here hx rfl (hb hby d2_59) rfl (tlt hc59).2.1 (XS.aload X0.here hx rfl (hb hby d2_62) rfl rfl (XS.iload X0.here hx rfl (hb hby d2_64) rfl  (kk)))) ?_
  show Dn p e below s _ _ _ (s₁.setTop (mkF m 66 #[.val (.ref a), .val (.double v27_3), .second, .val (.double v39), .second, .val (.double FP.dconst0), .second, .val (.ref a), .val (.int (3 : Int32)), .val (.int (0 : Int32)), .unset, .unset] [(.int (0 : Int32)), (.ref a)]))
  have Vc_a_66 := Va
  obtain ⟨cl_a_66, Ar_a_66, q_a_66, S_a_66, N_a_66, H_a_66, G_a_66⟩ := Vc_a_66
  have hin66 : ¬ ((0 : Int32) < 0 ∨ cl_a_66.slots.size ≤ ((0 : Int32)).toNatClampNeg) := inb_of S_a_66 ⟨by decide, by decide⟩
  have hat66 : cl_a_66.slots[((0 : Int32)).toNatClampNeg]? = some (.double z0) := H_a_66.at hin66 rfl
  refine Dn.st (fun _ kk => X0.daload hx (j := (0 : Int32)) (v := (.double z0)) (by rw [e0]; exact Ar_a_66.1) (State.isArrayOf_alike hZ.alike Ar_a_66.2.1) Ar_a_66.2.2 hin66 hat66 (g := (mkF m 66 #[.val (.ref a), .val (.double v27_3), .second, .val (.double v39), .second, .val (.double FP.dconst0), .second, .val (.ref a), .val (.int (3 : Int32)), .val (.int (0 : Int32)), .unset, .unset] [(.int (0 : Int32)), (.ref a)])) rfl rfl (hb hby d2_66) _ (XS.dstore X0.here hx rfl (hb hby d2_67) rfl (l' := #[.val (.ref a), .val (.double v27_3), .second, .val (.double v39), .second, .val (.double FP.dconst0), .second, .val (.ref a), .val (.int (3 : Int32)), .val (.int (0 : Int32)), .val (.double z0), .second]) rfl (XS.dload X0.here hx rfl (hb hby d2_69) rfl  (XS.dload X0.here hx rfl (hb hby d2_71) rfl  (XS.dloadN X0.here hx rfl (hb hby d2_73) rfl  (kk)))))) ?_
  show Dn p e below s _ _ _ (s₁.setTop (mkF m 74 #[.val (.ref a), .val (.double v27_3), .second, .val (.double v39), .second, .val (.double FP.dconst0), .second, .val (.ref a), .val (.int (3 : Int32)), .val (.int (0 : Int32)), .val (.double z0), .second] [(.double v39), (.double z0), (.double FP.dconst0)]))
  have d74 : DS 2 ((w0 * 4) - mq) (FP.dsub z0 v39) := DS.sub ((d_z0).up 2) d39 (by omega) (by decide)
  refine Dn.st (fun _ kk => XS.dsubS X0.here hx rfl (hb hby d2_74) rfl d74.nn rfl (kk)) ?_
  show Dn p e below s _ _ _ (s₁.setTop (mkF m 75 #[.val (.ref a), .val (.double v27_3), .second, .val (.double v39), .second, .val (.double FP.dconst0), .second, .val (.ref a), .val (.int (3 : Int32)), .val (.int (0 : Int32)), .val (.double z0), .second] [(.double (FP.dsub z0 v39)), (.double FP.dconst0)]))
  generalize hv74 : ((FP.dsub z0 v39) : UInt64) = v74 at d74 ⊢
  show Dn p e below s _ _ _ (s₁.setTop (mkF m 75 #[.val (.ref a), .val (.double v27_3), .second, .val (.double v39), .second, .val (.double FP.dconst0), .second, .val (.ref a), .val (.int (3 : Int32)), .val (.int (0 : Int32)), .val (.double z0), .second] [(.double v74), (.double FP.dconst0)]))
  have d75 : DS 2 (0 + ((w0 * 4) - mq)) (FP.dadd FP.dconst0 v74) := DS.add (DS.cast (k' := 2) (i' := 0) ((dc_0).up 2) rfl (by decide)) d74 (by omega) (by decide)
  refine Dn.st (fun _ kk => XS.daddS X0.here hx rfl (hb hby d2_75) rfl d75.nn rfl (kk)) ?_
  show Dn p e below s _ _ _ (s₁.setTop (mkF m 76 #[.val (.ref a), .val (.double v27_3), .second, .val (.double v39), .second, .val (.double FP.dconst0), .second, .val (.ref a), .val (.int (3 : Int32)), .val (.int (0 : Int32)), .val (.double z0), .second] [(.double (FP.dadd FP.dconst0 v74))]))
  generalize hv75 : ((FP.dadd FP.dconst0 v74) : UInt64) = v75 at d75 ⊢
  show Dn p e below s _ _ _ (s₁.setTop (mkF m 76 #[.val (.ref a), .val (.double v27_3), .second, .val (.double v39), .second, .val (.double FP.dconst0), .second, .val (.ref a), .val (.int (3 : Int32)), .val (.int (0 : Int32)), .val (.double z0), .second] [(.double v75)]))
  refine Dn.st (fun _ kk => XS.dstore X0.here hx rfl (hb hby d2_76) rfl (l' := #[.val (.ref a), .val (.double v27_3), .second, .val (.double v39), .second, .val (.double v75), .second, .val (.ref a), .val (.int (3 : Int32)), .val (.int (0 : Int32)), .val (.double z0), .second]) rfl (XS.iinc X0.here hx rfl (hb hby d2_78) rfl (l' := #[.val (.ref a), .val (.double v27_3), .second, .val (.double v39), .second, .val (.double v75), .second, .val (.ref a), .val (.int (3 : Int32)), .val (.int (1 : Int32)), .val (.double z0), .second]) rfl (XS.goto X0.here hx rfl (pc0 := 81) (pc' := 55) rfl (hb hby d2_81) (by decide) (by decide) (XS.iload X0.here hx rfl (hb hby d2_55) rfl  (XS.iload X0.here hx rfl (hb hby d2_57) rfl  (kk)))))) ?_
  show Dn p e below s _ _ _ (s₁.setTop (mkF m 59 #[.val (.ref a), .val (.double v27_3), .second, .val (.double v39), .second, .val (.double v75), .second, .val (.ref a), .val (.int (3 : Int32)), .val (.int (1 : Int32)), .val (.double z0), .second] [(.int (3 : Int32)), (.int (1 : Int32))]))
  have hc59_2 : (1 : Int32) < (3 : Int32) := by decide
  refine Dn.st (fun _ kk => XS.icmpNo X0.here hx rfl (hb hby d2_59) rfl (tlt hc59_2).2.1 (XS.aload X0.here hx rfl (hb hby d2_62) rfl rfl (XS.iload X0.here hx rfl (hb hby d2_64) rfl  (kk)))) ?_
  show Dn p e below s _ _ _ (s₁.setTop (mkF m 66 #[.val (.ref a), .val (.double v27_3), .second, .val (.double v39), .second, .val (.double v75), .second, .val (.ref a), .val (.int (3 : Int32)), .val (.int (1 : Int32)), .val (.double z0), .second] [(.int (1 : Int32)), (.ref a)]))
  have Vc_a_66_2 := Va
  obtain ⟨cl_a_66_2, Ar_a_66_2, q_a_66_2, S_a_66_2, N_a_66_2, H_a_66_2, G_a_66_2⟩ := Vc_a_66_2
  have hin66_2 : ¬ ((1 : Int32) < 0 ∨ cl_a_66_2.slots.size ≤ ((1 : Int32)).toNatClampNeg) := inb_of S_a_66_2 ⟨by decide, by decide⟩
  have hat66_2 : cl_a_66_2.slots[((1 : Int32)).toNatClampNeg]? = some (.double z1) := H_a_66_2.at hin66_2 rfl
  refine Dn.st (fun _ kk => X0.daload hx (j := (1 : Int32)) (v := (.double z1)) (by rw [e0]; exact Ar_a_66_2.1) (State.isArrayOf_alike hZ.alike Ar_a_66_2.2.1) Ar_a_66_2.2.2 hin66_2 hat66_2 (g := (mkF m 66 #[.val (.ref a), .val (.double v27_3), .second, .val (.double v39), .second, .val (.double v75), .second, .val (.ref a), .val (.int (3 : Int32)), .val (.int (1 : Int32)), .val (.double z0), .second] [(.int (1 : Int32)), (.ref a)])) rfl rfl (hb hby d2_66) _ (XS.dstore X0.here hx rfl (hb hby d2_67) rfl (l' := #[.val (.ref a), .val (.double v27_3), .second, .val (.double v39), .second, .val (.double v75), .second, .val (.ref a), .val (.int (3 : Int32)), .val (.int (1 : Int32)), .val (.double z1), .second]) rfl (XS.dload X0.here hx rfl (hb hby d2_69) rfl  (XS.dload X0.here hx rfl (hb hby d2_71) rfl  (XS.dloadN X0.here hx rfl (hb hby d2_73) rfl  (kk)))))) ?_
  show Dn p e below s _ _ _ (s₁.setTop (mkF m 74 #[.val (.ref a), .val (.double v27_3), .second, .val (.double v39), .second, .val (.double v75), .second, .val (.ref a), .val (.int (3 : Int32)), .val (.int (1 : Int32)), .val (.double z1), .second] [(.double v39), (.double z1), (.double v75)]))
  have d74_2 : DS 2 ((w1 * 4) - mq) (FP.dsub z1 v39) := DS.sub ((d_z1).up 2) d39 (by omega) (by decide)
  refine Dn.st (fun _ kk => XS.dsubS X0.here hx rfl (hb hby d2_74) rfl d74_2.nn rfl (kk)) ?_
  show Dn p e below s _ _ _ (s₁.setTop (mkF m 75 #[.val (.ref a), .val (.double v27_3), .second, .val (.double v39), .second, .val (.double v75), .second, .val (.ref a), .val (.int (3 : Int32)), .val (.int (1 : Int32)), .val (.double z1), .second] [(.double (FP.dsub z1 v39)), (.double v75)]))
  generalize hv74_2 : ((FP.dsub z1 v39) : UInt64) = v74_2 at d74_2 ⊢
  show Dn p e below s _ _ _ (s₁.setTop (mkF m 75 #[.val (.ref a), .val (.double v27_3), .second, .val (.double v39), .second, .val (.double v75), .second, .val (.ref a), .val (.int (3 : Int32)), .val (.int (1 : Int32)), .val (.double z1), .second] [(.double v74_2), (.double v75)]))
  have d75_2 : DS 2 ((0 + ((w0 * 4) - mq)) + ((w1 * 4) - mq)) (FP.dadd v75 v74_2) := DS.add d75 d74_2 (by omega) (by decide)
  refine Dn.st (fun _ kk => XS.daddS X0.here hx rfl (hb hby d2_75) rfl d75_2.nn rfl (kk)) ?_
  show Dn p e below s _ _ _ (s₁.setTop (mkF m 76 #[.val (.ref a), .val (.double v27_3), .second, .val (.double v39), .second, .val (.double v75), .second, .val (.ref a), .val (.int (3 : Int32)), .val (.int (1 : Int32)), .val (.double z1), .second] [(.double (FP.dadd v75 v74_2))]))
  generalize hv75_2 : ((FP.dadd v75 v74_2) : UInt64) = v75_2 at d75_2 ⊢
  show Dn p e below s _ _ _ (s₁.setTop (mkF m 76 #[.val (.ref a), .val (.double v27_3), .second, .val (.double v39), .second, .val (.double v75), .second, .val (.ref a), .val (.int (3 : Int32)), .val (.int (1 : Int32)), .val (.double z1), .second] [(.double v75_2)]))
  refine Dn.st (fun _ kk => XS.dstore X0.here hx rfl (hb hby d2_76) rfl (l' := #[.val (.ref a), .val (.double v27_3), .second, .val (.double v39), .second, .val (.double v75_2), .second, .val (.ref a), .val (.int (3 : Int32)), .val (.int (1 : Int32)), .val (.double z1), .second]) rfl (XS.iinc X0.here hx rfl (hb hby d2_78) rfl (l' := #[.val (.ref a), .val (.double v27_3), .second, .val (.double v39), .second, .val (.double v75_2), .second, .val (.ref a), .val (.int (3 : Int32)), .val (.int (2 : Int32)), .val (.double z1), .second]) rfl (XS.goto X0.here hx rfl (pc0 := 81) (pc' := 55) rfl (hb hby d2_81) (by decide) (by decide) (XS.iload X0.here hx rfl (hb hby d2_55) rfl  (XS.iload X0.here hx rfl (hb hby d2_57) rfl  (kk)))))) ?_
  show Dn p e below s _ _ _ (s₁.setTop (mkF m 59 #[.val (.ref a), .val (.double v27_3), .second, .val (.double v39), .second, .val (.double v75_2), .second, .val (.ref a), .val (.int (3 : Int32)), .val (.int (2 : Int32)), .val (.double z1), .second] [(.int (3 : Int32)), (.int (2 : Int32))]))
  have hc59_3 : (2 : Int32) < (3 : Int32) := by decide
  refine Dn.st (fun _ kk => XS.icmpNo X0.here hx rfl (hb hby d2_59) rfl (tlt hc59_3).2.1 (XS.aload X0.here hx rfl (hb hby d2_62) rfl rfl (XS.iload X0.here hx rfl (hb hby d2_64) rfl  (kk)))) ?_
  show Dn p e below s _ _ _ (s₁.setTop (mkF m 66 #[.val (.ref a), .val (.double v27_3), .second, .val (.double v39), .second, .val (.double v75_2), .second, .val (.ref a), .val (.int (3 : Int32)), .val (.int (2 : Int32)), .val (.double z1), .second] [(.int (2 : Int32)), (.ref a)]))
  have Vc_a_66_3 := Va
  obtain ⟨cl_a_66_3, Ar_a_66_3, q_a_66_3, S_a_66_3, N_a_66_3, H_a_66_3, G_a_66_3⟩ := Vc_a_66_3
  have hin66_3 : ¬ ((2 : Int32) < 0 ∨ cl_a_66_3.slots.size ≤ ((2 : Int32)).toNatClampNeg) := inb_of S_a_66_3 ⟨by decide, by decide⟩
  have hat66_3 : cl_a_66_3.slots[((2 : Int32)).toNatClampNeg]? = some (.double z2) := H_a_66_3.at hin66_3 rfl
  refine Dn.st (fun _ kk => X0.daload hx (j := (2 : Int32)) (v := (.double z2)) (by rw [e0]; exact Ar_a_66_3.1) (State.isArrayOf_alike hZ.alike Ar_a_66_3.2.1) Ar_a_66_3.2.2 hin66_3 hat66_3 (g := (mkF m 66 #[.val (.ref a), .val (.double v27_3), .second, .val (.double v39), .second, .val (.double v75_2), .second, .val (.ref a), .val (.int (3 : Int32)), .val (.int (2 : Int32)), .val (.double z1), .second] [(.int (2 : Int32)), (.ref a)])) rfl rfl (hb hby d2_66) _ (XS.dstore X0.here hx rfl (hb hby d2_67) rfl (l' := #[.val (.ref a), .val (.double v27_3), .second, .val (.double v39), .second, .val (.double v75_2), .second, .val (.ref a), .val (.int (3 : Int32)), .val (.int (2 : Int32)), .val (.double z2), .second]) rfl (XS.dload X0.here hx rfl (hb hby d2_69) rfl  (XS.dload X0.here hx rfl (hb hby d2_71) rfl  (XS.dloadN X0.here hx rfl (hb hby d2_73) rfl  (kk)))))) ?_
  show Dn p e below s _ _ _ (s₁.setTop (mkF m 74 #[.val (.ref a), .val (.double v27_3), .second, .val (.double v39), .second, .val (.double v75_2), .second, .val (.ref a), .val (.int (3 : Int32)), .val (.int (2 : Int32)), .val (.double z2), .second] [(.double v39), (.double z2), (.double v75_2)]))
  have d74_3 : DS 2 ((w2 * 4) - mq) (FP.dsub z2 v39) := DS.sub ((d_z2).up 2) d39 (by omega) (by decide)
  refine Dn.st (fun _ kk => XS.dsubS X0.here hx rfl (hb hby d2_74) rfl d74_3.nn rfl (kk)) ?_
  show Dn p e below s _ _ _ (s₁.setTop (mkF m 75 #[.val (.ref a), .val (.double v27_3), .second, .val (.double v39), .second, .val (.double v75_2), .second, .val (.ref a), .val (.int (3 : Int32)), .val (.int (2 : Int32)), .val (.double z2), .second] [(.double (FP.dsub z2 v39)), (.double v75_2)]))
  generalize hv74_3 : ((FP.dsub z2 v39) : UInt64) = v74_3 at d74_3 ⊢
  show Dn p e below s _ _ _ (s₁.setTop (mkF m 75 #[.val (.ref a), .val (.double v27_3), .second, .val (.double v39), .second, .val (.double v75_2), .second, .val (.ref a), .val (.int (3 : Int32)), .val (.int (2 : Int32)), .val (.double z2), .second] [(.double v74_3), (.double v75_2)]))
  have d75_3 : DS 2 (((0 + ((w0 * 4) - mq)) + ((w1 * 4) - mq)) + ((w2 * 4) - mq)) (FP.dadd v75_2 v74_3) := DS.add d75_2 d74_3 (by omega) (by decide)
  refine Dn.st (fun _ kk => XS.daddS X0.here hx rfl (hb hby d2_75) rfl d75_3.nn rfl (kk)) ?_
  show Dn p e below s _ _ _ (s₁.setTop (mkF m 76 #[.val (.ref a), .val (.double v27_3), .second, .val (.double v39), .second, .val (.double v75_2), .second, .val (.ref a), .val (.int (3 : Int32)), .val (.int (2 : Int32)), .val (.double z2), .second] [(.double (FP.dadd v75_2 v74_3))]))
  generalize hv75_3 : ((FP.dadd v75_2 v74_3) : UInt64) = v75_3 at d75_3 ⊢
  show Dn p e below s _ _ _ (s₁.setTop (mkF m 76 #[.val (.ref a), .val (.double v27_3), .second, .val (.double v39), .second, .val (.double v75_2), .second, .val (.ref a), .val (.int (3 : Int32)), .val (.int (2 : Int32)), .val (.double z2), .second] [(.double v75_3)]))
  refine Dn.st (fun _ kk => XS.dstore X0.here hx rfl (hb hby d2_76) rfl (l' := #[.val (.ref a), .val (.double v27_3), .second, .val (.double v39), .second, .val (.double v75_3), .second, .val (.ref a), .val (.int (3 : Int32)), .val (.int (2 : Int32)), .val (.double z2), .second]) rfl (XS.iinc X0.here hx rfl (hb hby d2_78) rfl (l' := #[.val (.ref a), .val (.double v27_3), .second, .val (.double v39), .second, .val (.double v75_3), .second, .val (.ref a), .val (.int (3 : Int32)), .val (.int (3 : Int32)), .val (.double z2), .second]) rfl (XS.goto X0.here hx rfl (pc0 := 81) (pc' := 55) rfl (hb hby d2_81) (by decide) (by decide) (XS.iload X0.here hx rfl (hb hby d2_55) rfl  (XS.iload X0.here hx rfl (hb hby d2_57) rfl  (kk)))))) ?_
  show Dn p e below s _ _ _ (s₁.setTop (mkF m 59 #[.val (.ref a), .val (.double v27_3), .second, .val (.double v39), .second, .val (.double v75_3), .second, .val (.ref a), .val (.int (3 : Int32)), .val (.int (3 : Int32)), .val (.double z2), .second] [(.int (3 : Int32)), (.int (3 : Int32))]))
  have hc59_4 : ¬ ((3 : Int32) < (3 : Int32)) := by decide
  refine Dn.st (fun _ kk => XS.icmpYes X0.here hx rfl (pc0 := 59) (pc' := 84) rfl (hb hby d2_59) rfl (flt hc59_4).2.1 (by decide) (by decide) (XS.dloadN X0.here hx rfl (hb hby d2_84) rfl  (XS.dload X0.here hx rfl (hb hby d2_85) rfl  (XS.aloadN X0.here hx rfl (hb hby d2_87) rfl rfl (kk))))) ?_
  show Dn p e below s _ _ _ (s₁.setTop (mkF m 88 #[.val (.ref a), .val (.double v27_3), .second, .val (.double v39), .second, .val (.double v75_3), .second, .val (.ref a), .val (.int (3 : Int32)), .val (.int (3 : Int32)), .val (.double z2), .second] [(.ref a), (.double v75_3), (.double v39)]))
  have Vc_a_88 := Va
  obtain ⟨cl_a_88, Ar_a_88, q_a_88, S_a_88, N_a_88, H_a_88, G_a_88⟩ := Vc_a_88
  refine Dn.st (fun _ kk => X0.arraylength hx (by rw [e0]; exact Ar_a_88.1) (State.isArrayOf_alike hZ.alike Ar_a_88.2.1) (g := (mkF m 88 #[.val (.ref a), .val (.double v27_3), .second, .val (.double v39), .second, .val (.double v75_3), .second, .val (.ref a), .val (.int (3 : Int32)), .val (.int (3 : Int32)), .val (.double z2), .second] [(.ref a), (.double v75_3), (.double v39)])) rfl rfl (hb hby d2_88) _ (kk)) ?_
  show Dn p e below s _ _ _ (s₁.setTop (mkF m 89 #[.val (.ref a), .val (.double v27_3), .second, .val (.double v39), .second, .val (.double v75_3), .second, .val (.ref a), .val (.int (3 : Int32)), .val (.int (3 : Int32)), .val (.double z2), .second] [(.int cl_a_88.slots.size.toInt32), (.double v75_3), (.double v39)]))
  rw [len_of S_a_88 N_a_88]
  show Dn p e below s _ _ _ (s₁.setTop (mkF m 89 #[.val (.ref a), .val (.double v27_3), .second, .val (.double v39), .second, .val (.double v75_3), .second, .val (.ref a), .val (.int (3 : Int32)), .val (.int (3 : Int32)), .val (.double z2), .second] [(.int (3 : Int32)), (.double v75_3), (.double v39)]))
  have d89 := DS.i2d (3 : Int32)
  refine Dn.st (fun _ kk => XS.i2dS X0.here hx rfl (hb hby d2_89) rfl rfl (kk)) ?_
  show Dn p e below s _ _ _ (s₁.setTop (mkF m 90 #[.val (.ref a), .val (.double v27_3), .second, .val (.double v39), .second, .val (.double v75_3), .second, .val (.ref a), .val (.int (3 : Int32)), .val (.int (3 : Int32)), .val (.double z2), .second] [(.double (FP.i2d (3 : Int32))), (.double v75_3), (.double v39)]))
  generalize hv89 : ((FP.i2d (3 : Int32)) : UInt64) = v89 at d89 ⊢
  show Dn p e below s _ _ _ (s₁.setTop (mkF m 90 #[.val (.ref a), .val (.double v27_3), .second, .val (.double v39), .second, .val (.double v75_3), .second, .val (.ref a), .val (.int (3 : Int32)), .val (.int (3 : Int32)), .val (.double z2), .second] [(.double v89), (.double v75_3), (.double v39)]))
  have d90 : DS 2 0 (FP.ddiv v75_3 v89) := DS.div (n := 2) (Q := 0) (DS.cast (i' := 0) d75_3 rfl (by omega)) (DS.cast (i' := 3) d89 rfl (by decide)) (by decide) (by decide) (by decide) (by decide)
  refine Dn.st (fun _ kk => XS.ddivS X0.here hx rfl (hb hby d2_90) rfl d90.nn rfl (kk)) ?_
  show Dn p e below s _ _ _ (s₁.setTop (mkF m 91 #[.val (.ref a), .val (.double v27_3), .second, .val (.double v39), .second, .val (.double v75_3), .second, .val (.ref a), .val (.int (3 : Int32)), .val (.int (3 : Int32)), .val (.double z2), .second] [(.double (FP.ddiv v75_3 v89)), (.double v39)]))
  generalize hv90 : ((FP.ddiv v75_3 v89) : UInt64) = v90 at d90 ⊢
  show Dn p e below s _ _ _ (s₁.setTop (mkF m 91 #[.val (.ref a), .val (.double v27_3), .second, .val (.double v39), .second, .val (.double v75_3), .second, .val (.ref a), .val (.int (3 : Int32)), .val (.int (3 : Int32)), .val (.double z2), .second] [(.double v90), (.double v39)]))
  have d91 : DS 2 mq (FP.dadd v39 v90) := DS.addc d39 d90 (by omega) (by omega) (by decide)
  refine Dn.st (fun _ kk => XS.daddS X0.here hx rfl (hb hby d2_91) rfl d91.nn rfl (kk)) ?_
  show Dn p e below s _ _ _ (s₁.setTop (mkF m 92 #[.val (.ref a), .val (.double v27_3), .second, .val (.double v39), .second, .val (.double v75_3), .second, .val (.ref a), .val (.int (3 : Int32)), .val (.int (3 : Int32)), .val (.double z2), .second] [(.double (FP.dadd v39 v90))]))
  generalize hv91 : ((FP.dadd v39 v90) : UInt64) = v91 at d91 ⊢
  show Dn p e below s _ _ _ (s₁.setTop (mkF m 92 #[.val (.ref a), .val (.double v27_3), .second, .val (.double v39), .second, .val (.double v75_3), .second, .val (.ref a), .val (.int (3 : Int32)), .val (.int (3 : Int32)), .val (.double z2), .second] [(.double v91)]))
  exact Dn.ret X0 hlk hx hret rfl (Or.inr (Or.inr (Or.inl ⟨rfl, rfl, _, rfl⟩))) (hb hby d2_92) (by rw [e0]; exact ⟨_, rfl, d91, N0, rfl⟩) (by decide) (by decide)

theorem ef2_rm2E_4 (m : MethodId) (x0 : Addr) : entryFrame m #[(.ref x0)] 12 = mkF m 0 #[.val (.ref x0), .unset, .unset, .unset, .unset, .unset, .unset, .unset, .unset, .unset, .unset, .unset] [] := by first | (simp [entryFrame, mkF, argsToLocals, Value.category]; done) | rfl
def Q2E_4 (Z : State) (a : Addr) (ka : ClassId) (z0 z1 z2 z3 : UInt64) (w0 w1 w2 w3 mq : Int) (h0 : Heap) (n0 : Nat) (v : Option Value) (h : Heap) (L : List Loc) : Prop := ∃ z, v = some (.double z) ∧ DS 2 mq z ∧ Fr n0 L ∧ h = h0
set_option maxRecDepth 65536 in
set_option maxHeartbeats 40000000 in
theorem rm2E_4 (l : Launch) (Z : State) (a0 : Array Value) (hw : ∀ d ∈ tables_1, d.before a0 Z = true) (ws : List Jvm.Cond) (a : Addr) (ka : ClassId) (z0 z1 z2 z3 : UInt64) (w0 w1 w2 w3 mq : Int) (h0 : Heap) (n0 : Nat) (Z0 : n0 ≤ h0.size) (Va : Arv Z h0 a ka .double 4 [(.double z0), (.double z1), (.double z2), (.double z3)] (.double 0)) (d_z0 : DS 0 w0 z0) (d_z1 : DS 0 w1 z1) (d_z2 : DS 0 w2 z2) (d_z3 : DS 0 w3 z3) (hb0 : -1048576 ≤ w0 ∧ w0 ≤ 1048576) (hb1 : -1048576 ≤ w1 ∧ w1 ≤ 1048576) (hb2 : -1048576 ≤ w2 ∧ w2 ≤ 1048576) (hb3 : -1048576 ≤ w3 ∧ w3 ≤ 1048576) (hM : (w0 + w1 + w2 + w3) * 4 = mq * 4) :
    MetFree l (⟨"com/example/listino/listino/stats/Moments", "mean", "([D)D"⟩ : MethodName) (head1 (Jvm.Cond.code (⟨"com/example/listino/listino/stats/Moments", "mean", "([D)D"⟩ : MethodName) prog_51_method_2_code 12 (some .double) :: ws) ({ frames := 0, cells := 0, slots := 0, locals := 0 } : Room)) (fun aa UU => aa = #[(.ref a)] ∧ Z.Warmed39 UU.vm ∧ UU.heap = h0) (fun _ _ _ _ _ => True) (fun _ UU oo UU' => ∃ vv LL, oo = .returned vv ∧ Q2E_4 Z a ka z0 z1 z2 z3 w0 w1 w2 w3 mq h0 n0 vv UU'.heap LL ∧ FrameEnd UU oo UU' LL ({ frames := 0, cells := 0, slots := 0, locals := 0 } : Room).cells ({ frames := 0, cells := 0, slots := 0, locals := 0 } : Room).slots) := by
  refine MetFree.of_bodySF (plainFor_of_name pn1) hisR ?_
  intro p e s m args below meth c s₁ Bd hml0 hP hK
  obtain ⟨rfl, hZ, hh⟩ := hP
  have hx := Bd.exec
  have hby := Bd.bytes
  have hlk : meth.locks = false := BodyLoose.notSynchronized Bd
  have hret := Bd.returns
  have hml : c.maxLocals = 12 := hml0
  have hown : s.vm.findClass "com/example/listino/listino/stats/Moments" = some m.cls := findClass_of_methodNamed Bd.named
  have hnm := (name_of_methodNamed Bd.named Bd.method).1
  have X0 : Stand p l e ({ frames := 0, cells := 0, slots := 0, locals := 0 } : Room) s m #[(.ref a)] below meth c s₁ [] 0 0 := Stand.of_body Bd
  have e0 : s₁.heap = h0 := by rw [← hh, Bd.state]; rfl
  have N0 := Fr.nil n0
  show Dn p e below s (Q2E_4 Z a ka z0 z1 z2 z3 w0 w1 w2 w3 mq h0 n0) ({ frames := 0, cells := 0, slots := 0, locals := 0 } : Room).cells ({ frames := 0, cells := 0, slots := 0, locals := 0 } : Room).slots (s₁.setTop (entryFrame m #[(.ref a)] 12))
  refine Dn.st (fun _ kk => castTop (ef2_rm2E_4 m a) kk) ?_
  show Dn p e below s _ _ _ (s₁.setTop (mkF m 0 #[.val (.ref a), .unset, .unset, .unset, .unset, .unset, .unset, .unset, .unset, .unset, .unset, .unset] []))
  refine Dn.st (fun _ kk => XS.dconst0 X0.here hx rfl (hb hby d2_0) rfl (XS.dstoreN X0.here hx rfl (hb hby d2_1) rfl (l' := #[.val (.ref a), .val (.double FP.dconst0), .second, .unset, .unset, .unset, .unset, .unset, .unset, .unset, .unset, .unset]) rfl (XS.aloadN X0.here hx rfl (hb hby d2_2) rfl rfl (XS.astoreN X0.here hx rfl (hb hby d2_3) rfl rfl (l' := #[.val (.ref a), .val (.double FP.dconst0), .second, .val (.ref a), .unset, .unset, .unset, .unset, .unset, .unset, .unset, .unset]) rfl (XS.aloadN X0.here hx rfl (hb hby d2_4) rfl rfl (kk)))))) ?_
  show Dn p e below s _ _ _ (s₁.setTop (mkF m 5 #[.val (.ref a), .val (.double FP.dconst0), .second, .val (.ref a), .unset, .unset, .unset, .unset, .unset, .unset, .unset, .unset] [(.ref a)]))
  have Vc_a_5 := Va
  obtain ⟨cl_a_5, Ar_a_5, q_a_5, S_a_5, N_a_5, H_a_5, G_a_5⟩ := Vc_a_5
  refine Dn.st (fun _ kk => X0.arraylength hx (by rw [e0]; exact Ar_a_5.1) (State.isArrayOf_alike hZ.alike Ar_a_5.2.1) (g := (mkF m 5 #[.val (.ref a), .val (.double FP.dconst0), .second, .val (.ref a), .unset, .unset, .unset, .unset, .unset, .unset, .unset, .unset] [(.ref a)])) rfl rfl (hb hby d2_5) _ (kk)) ?_
  show Dn p e below s _ _ _ (s₁.setTop (mkF m 6 #[.val (.ref a), .val (.double FP.dconst0), .second, .val (.ref a), .unset, .unset, .unset, .unset, .unset, .unset, .unset, .unset] [(.int cl_a_5.slots.size.toInt32)]))
  rw [len_of S_a_5 N_a_5]
  show Dn p e below s _ _ _ (s₁.setTop (mkF m 6 #[.val (.ref a), .val (.double FP.dconst0), .second, .val (.ref a), .unset, .unset, .unset, .unset, .unset, .unset, .unset, .unset] [(.int (4 : Int32))]))
  refine Dn.st (fun _ kk => XS.istore X0.here hx rfl (hb hby d2_6) rfl (l' := #[.val (.ref a), .val (.double FP.dconst0), .second, .val (.ref a), .val (.int (4 : Int32)), .unset, .unset, .unset, .unset, .unset, .unset, .unset]) rfl (XS.iconst X0.here hx rfl (hb hby d2_8) (XS.istore X0.here hx rfl (hb hby d2_9) rfl (l' := #[.val (.ref a), .val (.double FP.dconst0), .second, .val (.ref a), .val (.int (4 : Int32)), .val (.int (0 : Int32)), .unset, .unset, .unset, .unset, .unset, .unset]) rfl (XS.iload X0.here hx rfl (hb hby d2_11) rfl  (XS.iload X0.here hx rfl (hb hby d2_13) rfl  (kk)))))) ?_
  show Dn p e below s _ _ _ (s₁.setTop (mkF m 15 #[.val (.ref a), .val (.double FP.dconst0), .second, .val (.ref a), .val (.int (4 : Int32)), .val (.int (0 : Int32)), .unset, .unset, .unset, .unset, .unset, .unset] [(.int (4 : Int32)), (.int (0 : Int32))]))
  have hc15 : (0 : Int32) < (4 : Int32) := by decide
  refine Dn.st (fun _ kk => XS.icmpNo X0.here hx rfl (hb hby d2_15) rfl (tlt hc15).2.1 (XS.aloadN X0.here hx rfl (hb hby d2_18) rfl rfl (XS.iload X0.here hx rfl (hb hby d2_19) rfl  (kk)))) ?_
  show Dn p e below s _ _ _ (s₁.setTop (mkF m 21 #[.val (.ref a), .val (.double FP.dconst0), .second, .val (.ref a), .val (.int (4 : Int32)), .val (.int (0 : Int32)), .unset, .unset, .unset, .unset, .unset, .unset] [(.int (0 : Int32)), (.ref a)]))
  have Vc_a_21 := Va
  obtain ⟨cl_a_21, Ar_a_21, q_a_21, S_a_21, N_a_21, H_a_21, G_a_21⟩ := Vc_a_21
  have hin21 : ¬ ((0 : Int32) < 0 ∨ cl_a_21.slots.size ≤ ((0 : Int32)).toNatClampNeg) := inb_of S_a_21 ⟨by decide, by decide⟩
  have hat21 : cl_a_21.slots[((0 : Int32)).toNatClampNeg]? = some (.double z0) := H_a_21.at hin21 rfl
  refine Dn.st (fun _ kk => X0.daload hx (j := (0 : Int32)) (v := (.double z0)) (by rw [e0]; exact Ar_a_21.1) (State.isArrayOf_alike hZ.alike Ar_a_21.2.1) Ar_a_21.2.2 hin21 hat21 (g := (mkF m 21 #[.val (.ref a), .val (.double FP.dconst0), .second, .val (.ref a), .val (.int (4 : Int32)), .val (.int (0 : Int32)), .unset, .unset, .unset, .unset, .unset, .unset] [(.int (0 : Int32)), (.ref a)])) rfl rfl (hb hby d2_21) _ (XS.dstore X0.here hx rfl (hb hby d2_22) rfl (l' := #[.val (.ref a), .val (.double FP.dconst0), .second, .val (.ref a), .val (.int (4 : Int32)), .val (.int (0 : Int32)), .val (.double z0), .second, .unset, .unset, .unset, .unset]) rfl (XS.dloadN X0.here hx rfl (hb hby d2_24) rfl  (XS.dload X0.here hx rfl (hb hby d2_25) rfl  (kk))))) ?_
  show Dn p e below s _ _ _ (s₁.setTop (mkF m 27 #[.val (.ref a), .val (.double FP.dconst0), .second, .val (.ref a), .val (.int (4 : Int32)), .val (.int (0 : Int32)), .val (.double z0), .second, .unset, .unset, .unset, .unset] [(.double z0), (.double FP.dconst0)]))
  have d27 : DS 0 (0 + w0) (FP.dadd FP.dconst0 z0) := DS.add dc_0 d_z0 (by omega) (by decide)
  refine Dn.st (fun _ kk => XS.daddS X0.here hx rfl (hb hby d2_27) rfl d27.nn rfl (kk)) ?_
  show Dn p e below s _ _ _ (s₁.setTop (mkF m 28 #[.val (.ref a), .val (.double FP.dconst0), .second, .val (.ref a), .val (.int (4 : Int32)), .val (.int (0 : Int32)), .val (.double z0), .second, .unset, .unset, .unset, .unset] [(.double (FP.dadd FP.dconst0 z0))]))
  generalize hv27 : ((FP.dadd FP.dconst0 z0) : UInt64) = v27 at d27 ⊢
  show Dn p e below s _ _ _ (s₁.setTop (mkF m 28 #[.val (.ref a), .val (.double FP.dconst0), .second, .val (.ref a), .val (.int (4 : Int32)), .val (.int (0 : Int32)), .val (.double z0), .second, .unset, .unset, .unset, .unset] [(.double v27)]))
  refine Dn.st (fun _ kk => XS.dstoreN X0.here hx rfl (hb hby d2_28) rfl (l' := #[.val (.ref a), .val (.double v27), .second, .val (.ref a), .val (.int (4 : Int32)), .val (.int (0 : Int32)), .val (.double z0), .second, .unset, .unset, .unset, .unset]) rfl (XS.iinc X0.here hx rfl (hb hby d2_29) rfl (l' := #[.val (.ref a), .val (.double v27), .second, .val (.ref a), .val (.int (4 : Int32)), .val (.int (1 : Int32)), .val (.double z0), .second, .unset, .unset, .unset, .unset]) rfl (XS.goto X0.here hx rfl (pc0 := 32) (pc' := 11) rfl (hb hby d2_32) (by decide) (by decide) (XS.iload X0.here hx rfl (hb hby d2_11) rfl  (XS.iload X0.here hx rfl (hb hby d2_13) rfl  (kk)))))) ?_
  show Dn p e below s _ _ _ (s₁.setTop (mkF m 15 #[.val (.ref a), .val (.double v27), .second, .val (.ref a), .val (.int (4 : Int32)), .val (.int (1 : Int32)), .val (.double z0), .second, .unset, .unset, .unset, .unset] [(.int (4 : Int32)), (.int (1 : Int32))]))
  have hc15_2 : (1 : Int32) < (4 : Int32) := by decide
  refine Dn.st (fun _ kk => XS.icmpNo X0.here hx rfl (hb hby d2_15) rfl (tlt hc15_2).2.1 (XS.aloadN X0.here hx rfl (hb hby d2_18) rfl rfl (XS.iload X0.here hx rfl (hb hby d2_19) rfl  (kk)))) ?_
  show Dn p e below s _ _ _ (s₁.setTop (mkF m 21 #[.val (.ref a), .val (.double v27), .second, .val (.ref a), .val (.int (4 : Int32)), .val (.int (1 : Int32)), .val (.double z0), .second, .unset, .unset, .unset, .unset] [(.int (1 : Int32)), (.ref a)]))
  have Vc_a_21_2 := Va
  obtain ⟨cl_a_21_2, Ar_a_21_2, q_a_21_2, S_a_21_2, N_a_21_2, H_a_21_2, G_a_21_2⟩ := Vc_a_21_2
  have hin21_2 : ¬ ((1 : Int32) < 0 ∨ cl_a_21_2.slots.size ≤ ((1 : Int32)).toNatClampNeg) := inb_of S_a_21_2 ⟨by decide, by decide⟩
  have hat21_2 : cl_a_21_2.slots[((1 : Int32)).toNatClampNeg]? = some (.double z1) := H_a_21_2.at hin21_2 rfl
  refine Dn.st (fun _ kk => X0.daload hx (j := (1 : Int32)) (v := (.double z1)) (by rw [e0]; exact Ar_a_21_2.1) (State.isArrayOf_alike hZ.alike Ar_a_21_2.2.1) Ar_a_21_2.2.2 hin21_2 hat21_2 (g := (mkF m 21 #[.val (.ref a), .val (.double v27), .second, .val (.ref a), .val (.int (4 : Int32)), .val (.int (1 : Int32)), .val (.double z0), .second, .unset, .unset, .unset, .unset] [(.int (1 : Int32)), (.ref a)])) rfl rfl (hb hby d2_21) _ (XS.dstore X0.here hx rfl (hb hby d2_22) rfl (l' := #[.val (.ref a), .val (.double v27), .second, .val (.ref a), .val (.int (4 : Int32)), .val (.int (1 : Int32)), .val (.double z1), .second, .unset, .unset, .unset, .unset]) rfl (XS.dloadN X0.here hx rfl (hb hby d2_24) rfl  (XS.dload X0.here hx rfl (hb hby d2_25) rfl  (kk))))) ?_
  show Dn p e below s _ _ _ (s₁.setTop (mkF m 27 #[.val (.ref a), .val (.double v27), .second, .val (.ref a), .val (.int (4 : Int32)), .val (.int (1 : Int32)), .val (.double z1), .second, .unset, .unset, .unset, .unset] [(.double z1), (.double v27)]))
  have d27_2 : DS 0 ((0 + w0) + w1) (FP.dadd v27 z1) := DS.add d27 d_z1 (by omega) (by decide)
  refine Dn.st (fun _ kk => XS.daddS X0.here hx rfl (hb hby d2_27) rfl d27_2.nn rfl (kk)) ?_
  show Dn p e below s _ _ _ (s₁.setTop (mkF m 28 #[.val (.ref a), .val (.double v27), .second, .val (.ref a), .val (.int (4 : Int32)), .val (.int (1 : Int32)), .val (.double z1), .second, .unset, .unset, .unset, .unset] [(.double (FP.dadd v27 z1))]))
  generalize hv27_2 : ((FP.dadd v27 z1) : UInt64) = v27_2 at d27_2 ⊢
  show Dn p e below s _ _ _ (s₁.setTop (mkF m 28 #[.val (.ref a), .val (.double v27), .second, .val (.ref a), .val (.int (4 : Int32)), .val (.int (1 : Int32)), .val (.double z1), .second, .unset, .unset, .unset, .unset] [(.double v27_2)]))
  refine Dn.st (fun _ kk => XS.dstoreN X0.here hx rfl (hb hby d2_28) rfl (l' := #[.val (.ref a), .val (.double v27_2), .second, .val (.ref a), .val (.int (4 : Int32)), .val (.int (1 : Int32)), .val (.double z1), .second, .unset, .unset, .unset, .unset]) rfl (XS.iinc X0.here hx rfl (hb hby d2_29) rfl (l' := #[.val (.ref a), .val (.double v27_2), .second, .val (.ref a), .val (.int (4 : Int32)), .val (.int (2 : Int32)), .val (.double z1), .second, .unset, .unset, .unset, .unset]) rfl (XS.goto X0.here hx rfl (pc0 := 32) (pc' := 11) rfl (hb hby d2_32) (by decide) (by decide) (XS.iload X0.here hx rfl (hb hby d2_11) rfl  (XS.iload X0.here hx rfl (hb hby d2_13) rfl  (kk)))))) ?_
  show Dn p e below s _ _ _ (s₁.setTop (mkF m 15 #[.val (.ref a), .val (.double v27_2), .second, .val (.ref a), .val (.int (4 : Int32)), .val (.int (2 : Int32)), .val (.double z1), .second, .unset, .unset, .unset, .unset] [(.int (4 : Int32)), (.int (2 : Int32))]))
  have hc15_3 : (2 : Int32) < (4 : Int32) := by decide
  refine Dn.st (fun _ kk => XS.icmpNo X0.here hx rfl (hb hby d2_15) rfl (tlt hc15_3).2.1 (XS.aloadN X0.here hx rfl (hb hby d2_18) rfl rfl (XS.iload X0.here hx rfl (hb hby d2_19) rfl  (kk)))) ?_
  show Dn p e below s _ _ _ (s₁.setTop (mkF m 21 #[.val (.ref a), .val (.double v27_2), .second, .val (.ref a), .val (.int (4 : Int32)), .val (.int (2 : Int32)), .val (.double z1), .second, .unset, .unset, .unset, .unset] [(.int (2 : Int32)), (.ref a)]))
  have Vc_a_21_3 := Va
  obtain ⟨cl_a_21_3, Ar_a_21_3, q_a_21_3, S_a_21_3, N_a_21_3, H_a_21_3, G_a_21_3⟩ := Vc_a_21_3
  have hin21_3 : ¬ ((2 : Int32) < 0 ∨ cl_a_21_3.slots.size ≤ ((2 : Int32)).toNatClampNeg) := inb_of S_a_21_3 ⟨by decide, by decide⟩
  have hat21_3 : cl_a_21_3.slots[((2 : Int32)).toNatClampNeg]? = some (.double z2) := H_a_21_3.at hin21_3 rfl
  refine Dn.st (fun _ kk => X0.daload hx (j := (2 : Int32)) (v := (.double z2)) (by rw [e0]; exact Ar_a_21_3.1) (State.isArrayOf_alike hZ.alike Ar_a_21_3.2.1) Ar_a_21_3.2.2 hin21_3 hat21_3 (g := (mkF m 21 #[.val (.ref a), .val (.double v27_2), .second, .val (.ref a), .val (.int (4 : Int32)), .val (.int (2 : Int32)), .val (.double z1), .second, .unset, .unset, .unset, .unset] [(.int (2 : Int32)), (.ref a)])) rfl rfl (hb hby d2_21) _ (XS.dstore X0.here hx rfl (hb hby d2_22) rfl (l' := #[.val (.ref a), .val (.double v27_2), .second, .val (.ref a), .val (.int (4 : Int32)), .val (.int (2 : Int32)), .val (.double z2), .second, .unset, .unset, .unset, .unset]) rfl (XS.dloadN X0.here hx rfl (hb hby d2_24) rfl  (XS.dload X0.here hx rfl (hb hby d2_25) rfl  (kk))))) ?_
  show Dn p e below s _ _ _ (s₁.setTop (mkF m 27 #[.val (.ref a), .val (.double v27_2), .second, .val (.ref a), .val (.int (4 : Int32)), .val (.int (2 : Int32)), .val (.double z2), .second, .unset, .unset, .unset, .unset] [(.double z2), (.double v27_2)]))
  have d27_3 : DS 0 (((0 + w0) + w1) + w2) (FP.dadd v27_2 z2) := DS.add d27_2 d_z2 (by omega) (by decide)
  refine Dn.st (fun _ kk => XS.daddS X0.here hx rfl (hb hby d2_27) rfl d27_3.nn rfl (kk)) ?_
  show Dn p e below s _ _ _ (s₁.setTop (mkF m 28 #[.val (.ref a), .val (.double v27_2), .second, .val (.ref a), .val (.int (4 : Int32)), .val (.int (2 : Int32)), .val (.double z2), .second, .unset, .unset, .unset, .unset] [(.double (FP.dadd v27_2 z2))]))
  generalize hv27_3 : ((FP.dadd v27_2 z2) : UInt64) = v27_3 at d27_3 ⊢
  show Dn p e below s _ _ _ (s₁.setTop (mkF m 28 #[.val (.ref a), .val (.double v27_2), .second, .val (.ref a), .val (.int (4 : Int32)), .val (.int (2 : Int32)), .val (.double z2), .second, .unset, .unset, .unset, .unset] [(.double v27_3)]))
  refine Dn.st (fun _ kk => XS.dstoreN X0.here hx rfl (hb hby d2_28) rfl (l' := #[.val (.ref a), .val (.double v27_3), .second, .val (.ref a), .val (.int (4 : Int32)), .val (.int (2 : Int32)), .val (.double z2), .second, .unset, .unset, .unset, .unset]) rfl (XS.iinc X0.here hx rfl (hb hby d2_29) rfl (l' := #[.val (.ref a), .val (.double v27_3), .second, .val (.ref a), .val (.int (4 : Int32)), .val (.int (3 : Int32)), .val (.double z2), .second, .unset, .unset, .unset, .unset]) rfl (XS.goto X0.here hx rfl (pc0 := 32) (pc' := 11) rfl (hb hby d2_32) (by decide) (by decide) (XS.iload X0.here hx rfl (hb hby d2_11) rfl  (XS.iload X0.here hx rfl (hb hby d2_13) rfl  (kk)))))) ?_
  show Dn p e below s _ _ _ (s₁.setTop (mkF m 15 #[.val (.ref a), .val (.double v27_3), .second, .val (.ref a), .val (.int (4 : Int32)), .val (.int (3 : Int32)), .val (.double z2), .second, .unset, .unset, .unset, .unset] [(.int (4 : Int32)), (.int (3 : Int32))]))
  have hc15_4 : (3 : Int32) < (4 : Int32) := by decide
  refine Dn.st (fun _ kk => XS.icmpNo X0.here hx rfl (hb hby d2_15) rfl (tlt hc15_4).2.1 (XS.aloadN X0.here hx rfl (hb hby d2_18) rfl rfl (XS.iload X0.here hx rfl (hb hby d2_19) rfl  (kk)))) ?_
  show Dn p e below s _ _ _ (s₁.setTop (mkF m 21 #[.val (.ref a), .val (.double v27_3), .second, .val (.ref a), .val (.int (4 : Int32)), .val (.int (3 : Int32)), .val (.double z2), .second, .unset, .unset, .unset, .unset] [(.int (3 : Int32)), (.ref a)]))
  have Vc_a_21_4 := Va
  obtain ⟨cl_a_21_4, Ar_a_21_4, q_a_21_4, S_a_21_4, N_a_21_4, H_a_21_4, G_a_21_4⟩ := Vc_a_21_4
  have hin21_4 : ¬ ((3 : Int32) < 0 ∨ cl_a_21_4.slots.size ≤ ((3 : Int32)).toNatClampNeg) := inb_of S_a_21_4 ⟨by decide, by decide⟩
  have hat21_4 : cl_a_21_4.slots[((3 : Int32)).toNatClampNeg]? = some (.double z3) := H_a_21_4.at hin21_4 rfl
  refine Dn.st (fun _ kk => X0.daload hx (j := (3 : Int32)) (v := (.double z3)) (by rw [e0]; exact Ar_a_21_4.1) (State.isArrayOf_alike hZ.alike Ar_a_21_4.2.1) Ar_a_21_4.2.2 hin21_4 hat21_4 (g := (mkF m 21 #[.val (.ref a), .val (.double v27_3), .second, .val (.ref a), .val (.int (4 : Int32)), .val (.int (3 : Int32)), .val (.double z2), .second, .unset, .unset, .unset, .unset] [(.int (3 : Int32)), (.ref a)])) rfl rfl (hb hby d2_21) _ (XS.dstore X0.here hx rfl (hb hby d2_22) rfl (l' := #[.val (.ref a), .val (.double v27_3), .second, .val (.ref a), .val (.int (4 : Int32)), .val (.int (3 : Int32)), .val (.double z3), .second, .unset, .unset, .unset, .unset]) rfl (XS.dloadN X0.here hx rfl (hb hby d2_24) rfl  (XS.dload X0.here hx rfl (hb hby d2_25) rfl  (kk))))) ?_
  show Dn p e below s _ _ _ (s₁.setTop (mkF m 27 #[.val (.ref a), .val (.double v27_3), .second, .val (.ref a), .val (.int (4 : Int32)), .val (.int (3 : Int32)), .val (.double z3), .second, .unset, .unset, .unset, .unset] [(.double z3), (.double v27_3)]))
  have d27_4 : DS 0 ((((0 + w0) + w1) + w2) + w3) (FP.dadd v27_3 z3) := DS.add d27_3 d_z3 (by omega) (by decide)
  refine Dn.st (fun _ kk => XS.daddS X0.here hx rfl (hb hby d2_27) rfl d27_4.nn rfl (kk)) ?_
  show Dn p e below s _ _ _ (s₁.setTop (mkF m 28 #[.val (.ref a), .val (.double v27_3), .second, .val (.ref a), .val (.int (4 : Int32)), .val (.int (3 : Int32)), .val (.double z3), .second, .unset, .unset, .unset, .unset] [(.double (FP.dadd v27_3 z3))]))
  generalize hv27_4 : ((FP.dadd v27_3 z3) : UInt64) = v27_4 at d27_4 ⊢
  show Dn p e below s _ _ _ (s₁.setTop (mkF m 28 #[.val (.ref a), .val (.double v27_3), .second, .val (.ref a), .val (.int (4 : Int32)), .val (.int (3 : Int32)), .val (.double z3), .second, .unset, .unset, .unset, .unset] [(.double v27_4)]))
  refine Dn.st (fun _ kk => XS.dstoreN X0.here hx rfl (hb hby d2_28) rfl (l' := #[.val (.ref a), .val (.double v27_4), .second, .val (.ref a), .val (.int (4 : Int32)), .val (.int (3 : Int32)), .val (.double z3), .second, .unset, .unset, .unset, .unset]) rfl (XS.iinc X0.here hx rfl (hb hby d2_29) rfl (l' := #[.val (.ref a), .val (.double v27_4), .second, .val (.ref a), .val (.int (4 : Int32)), .val (.int (4 : Int32)), .val (.double z3), .second, .unset, .unset, .unset, .unset]) rfl (XS.goto X0.here hx rfl (pc0 := 32) (pc' := 11) rfl (hb hby d2_32) (by decide) (by decide) (XS.iload X0.here hx rfl (hb hby d2_11) rfl  (XS.iload X0.here hx rfl (hb hby d2_13) rfl  (kk)))))) ?_
  show Dn p e below s _ _ _ (s₁.setTop (mkF m 15 #[.val (.ref a), .val (.double v27_4), .second, .val (.ref a), .val (.int (4 : Int32)), .val (.int (4 : Int32)), .val (.double z3), .second, .unset, .unset, .unset, .unset] [(.int (4 : Int32)), (.int (4 : Int32))]))
  have hc15_5 : ¬ ((4 : Int32) < (4 : Int32)) := by decide
  refine Dn.st (fun _ kk => XS.icmpYes X0.here hx rfl (pc0 := 15) (pc' := 35) rfl (hb hby d2_15) rfl (flt hc15_5).2.1 (by decide) (by decide) (XS.dloadN X0.here hx rfl (hb hby d2_35) rfl  (XS.aloadN X0.here hx rfl (hb hby d2_36) rfl rfl (kk)))) ?_
  show Dn p e below s _ _ _ (s₁.setTop (mkF m 37 #[.val (.ref a), .val (.double v27_4), .second, .val (.ref a), .val (.int (4 : Int32)), .val (.int (4 : Int32)), .val (.double z3), .second, .unset, .unset, .unset, .unset] [(.ref a), (.double v27_4)]))
  have Vc_a_37 := Va
  obtain ⟨cl_a_37, Ar_a_37, q_a_37, S_a_37, N_a_37, H_a_37, G_a_37⟩ := Vc_a_37
  refine Dn.st (fun _ kk => X0.arraylength hx (by rw [e0]; exact Ar_a_37.1) (State.isArrayOf_alike hZ.alike Ar_a_37.2.1) (g := (mkF m 37 #[.val (.ref a), .val (.double v27_4), .second, .val (.ref a), .val (.int (4 : Int32)), .val (.int (4 : Int32)), .val (.double z3), .second, .unset, .unset, .unset, .unset] [(.ref a), (.double v27_4)])) rfl rfl (hb hby d2_37) _ (kk)) ?_
  show Dn p e below s _ _ _ (s₁.setTop (mkF m 38 #[.val (.ref a), .val (.double v27_4), .second, .val (.ref a), .val (.int (4 : Int32)), .val (.int (4 : Int32)), .val (.double z3), .second, .unset, .unset, .unset, .unset] [(.int cl_a_37.slots.size.toInt32), (.double v27_4)]))
  rw [len_of S_a_37 N_a_37]
  show Dn p e below s _ _ _ (s₁.setTop (mkF m 38 #[.val (.ref a), .val (.double v27_4), .second, .val (.ref a), .val (.int (4 : Int32)), .val (.int (4 : Int32)), .val (.double z3), .second, .unset, .unset, .unset, .unset] [(.int (4 : Int32)), (.double v27_4)]))
  have d38 := DS.i2d (4 : Int32)
  refine Dn.st (fun _ kk => XS.i2dS X0.here hx rfl (hb hby d2_38) rfl rfl (kk)) ?_
  show Dn p e below s _ _ _ (s₁.setTop (mkF m 39 #[.val (.ref a), .val (.double v27_4), .second, .val (.ref a), .val (.int (4 : Int32)), .val (.int (4 : Int32)), .val (.double z3), .second, .unset, .unset, .unset, .unset] [(.double (FP.i2d (4 : Int32))), (.double v27_4)]))
  generalize hv38 : ((FP.i2d (4 : Int32)) : UInt64) = v38 at d38 ⊢
  show Dn p e below s _ _ _ (s₁.setTop (mkF m 39 #[.val (.ref a), .val (.double v27_4), .second, .val (.ref a), .val (.int (4 : Int32)), .val (.int (4 : Int32)), .val (.double z3), .second, .unset, .unset, .unset, .unset] [(.double v38), (.double v27_4)]))
  have d39 : DS 2 mq (FP.ddiv v27_4 v38) := DS.div (n := 2) (Q := mq) d27_4 (DS.cast (i' := 4) d38 rfl (by decide)) (by decide) (by show _ * 4 = _ * 1; omega) (by omega) (by decide)
  refine Dn.st (fun _ kk => XS.ddivS X0.here hx rfl (hb hby d2_39) rfl d39.nn rfl (kk)) ?_
  show Dn p e below s _ _ _ (s₁.setTop (mkF m 40 #[.val (.ref a), .val (.double v27_4), .second, .val (.ref a), .val (.int (4 : Int32)), .val (.int (4 : Int32)), .val (.double z3), .second, .unset, .unset, .unset, .unset] [(.double (FP.ddiv v27_4 v38))]))
  generalize hv39 : ((FP.ddiv v27_4 v38) : UInt64) = v39 at d39 ⊢
  show Dn p e below s _ _ _ (s₁.setTop (mkF m 40 #[.val (.ref a), .val (.double v27_4), .second, .val (.ref a), .val (.int (4 : Int32)), .val (.int (4 : Int32)), .val (.double z3), .second, .unset, .unset, .unset, .unset] [(.double v39)]))
  refine Dn.st (fun _ kk => XS.dstoreN X0.here hx rfl (hb hby d2_40) rfl (l' := #[.val (.ref a), .val (.double v27_4), .second, .val (.double v39), .second, .val (.int (4 : Int32)), .val (.double z3), .second, .unset, .unset, .unset, .unset]) rfl (XS.dconst0 X0.here hx rfl (hb hby d2_41) rfl (XS.dstore X0.here hx rfl (hb hby d2_42) rfl (l' := #[.val (.ref a), .val (.double v27_4), .second, .val (.double v39), .second, .val (.double FP.dconst0), .second, .unset, .unset, .unset, .unset, .unset]) rfl (XS.aloadN X0.here hx rfl (hb hby d2_44) rfl rfl (XS.astore X0.here hx rfl (hb hby d2_45) rfl rfl (l' := #[.val (.ref a), .val (.double v27_4), .second, .val (.double v39), .second, .val (.double FP.dconst0), .second, .val (.ref a), .unset, .unset, .unset, .unset]) rfl (XS.aload X0.here hx rfl (hb hby d2_47) rfl rfl (kk))))))) ?_
  show Dn p e below s _ _ _ (s₁.setTop (mkF m 49 #[.val (.ref a), .val (.double v27_4), .second, .val (.double v39), .second, .val (.double FP.dconst0), .second, .val (.ref a), .unset, .unset, .unset, .unset] [(.ref a)]))
  have Vc_a_49 := Va
  obtain ⟨cl_a_49, Ar_a_49, q_a_49, S_a_49, N_a_49, H_a_49, G_a_49⟩ := Vc_a_49
  refine Dn.st (fun _ kk => X0.arraylength hx (by rw [e0]; exact Ar_a_49.1) (State.isArrayOf_alike hZ.alike Ar_a_49.2.1) (g := (mkF m 49 #[.val (.ref a), .val (.double v27_4), .second, .val (.double v39), .second, .val (.double FP.dconst0), .second, .val (.ref a), .unset, .unset, .unset, .unset] [(.ref a)])) rfl rfl (hb hby d2_49) _ (kk)) ?_
  show Dn p e below s _ _ _ (s₁.setTop (mkF m 50 #[.val (.ref a), .val (.double v27_4), .second, .val (.double v39), .second, .val (.double FP.dconst0), .second, .val (.ref a), .unset, .unset, .unset, .unset] [(.int cl_a_49.slots.size.toInt32)]))
  rw [len_of S_a_49 N_a_49]
  show Dn p e below s _ _ _ (s₁.setTop (mkF m 50 #[.val (.ref a), .val (.double v27_4), .second, .val (.double v39), .second, .val (.double FP.dconst0), .second, .val (.ref a), .unset, .unset, .unset, .unset] [(.int (4 : Int32))]))
  refine Dn.st (fun _ kk => XS.istore X0.here hx rfl (hb hby d2_50) rfl (l' := #[.val (.ref a), .val (.double v27_4), .second, .val (.double v39), .second, .val (.double FP.dconst0), .second, .val (.ref a), .val (.int (4 : Int32)), .unset, .unset, .unset]) rfl (XS.iconst X0.here hx rfl (hb hby d2_52) (XS.istore X0.here hx rfl (hb hby d2_53) rfl (l' := #[.val (.ref a), .val (.double v27_4), .second, .val (.double v39), .second, .val (.double FP.dconst0), .second, .val (.ref a), .val (.int (4 : Int32)), .val (.int (0 : Int32)), .unset, .unset]) rfl (XS.iload X0.here hx rfl (hb hby d2_55) rfl  (XS.iload X0.here hx rfl (hb hby d2_57) rfl  (kk)))))) ?_
  show Dn p e below s _ _ _ (s₁.setTop (mkF m 59 #[.val (.ref a), .val (.double v27_4), .second, .val (.double v39), .second, .val (.double FP.dconst0), .second, .val (.ref a), .val (.int (4 : Int32)), .val (.int (0 : Int32)), .unset, .unset] [(.int (4 : Int32)), (.int (0 : Int32))]))
  have hc59 : (0 : Int32) < (4 : Int32) := by decide
  refine Dn.st (fun _ kk => XS.icmpNo X0.here hx rfl (hb hby d2_59) rfl (tlt hc59).2.1 (XS.aload X0.here hx rfl (hb hby d2_62) rfl rfl (XS.iload X0.here hx rfl (hb hby d2_64) rfl  (kk)))) ?_
  show Dn p e below s _ _ _ (s₁.setTop (mkF m 66 #[.val (.ref a), .val (.double v27_4), .second, .val (.double v39), .second, .val (.double FP.dconst0), .second, .val (.ref a), .val (.int (4 : Int32)), .val (.int (0 : Int32)), .unset, .unset] [(.int (0 : Int32)), (.ref a)]))
  have Vc_a_66 := Va
  obtain ⟨cl_a_66, Ar_a_66, q_a_66, S_a_66, N_a_66, H_a_66, G_a_66⟩ := Vc_a_66
  have hin66 : ¬ ((0 : Int32) < 0 ∨ cl_a_66.slots.size ≤ ((0 : Int32)).toNatClampNeg) := inb_of S_a_66 ⟨by decide, by decide⟩
  have hat66 : cl_a_66.slots[((0 : Int32)).toNatClampNeg]? = some (.double z0) := H_a_66.at hin66 rfl
  refine Dn.st (fun _ kk => X0.daload hx (j := (0 : Int32)) (v := (.double z0)) (by rw [e0]; exact Ar_a_66.1) (State.isArrayOf_alike hZ.alike Ar_a_66.2.1) Ar_a_66.2.2 hin66 hat66 (g := (mkF m 66 #[.val (.ref a), .val (.double v27_4), .second, .val (.double v39), .second, .val (.double FP.dconst0), .second, .val (.ref a), .val (.int (4 : Int32)), .val (.int (0 : Int32)), .unset, .unset] [(.int (0 : Int32)), (.ref a)])) rfl rfl (hb hby d2_66) _ (XS.dstore X0.here hx rfl (hb hby d2_67) rfl (l' := #[.val (.ref a), .val (.double v27_4), .second, .val (.double v39), .second, .val (.double FP.dconst0), .second, .val (.ref a), .val (.int (4 : Int32)), .val (.int (0 : Int32)), .val (.double z0), .second]) rfl (XS.dload X0.here hx rfl (hb hby d2_69) rfl  (XS.dload X0.here hx rfl (hb hby d2_71) rfl  (XS.dloadN X0.here hx rfl (hb hby d2_73) rfl  (kk)))))) ?_
  show Dn p e below s _ _ _ (s₁.setTop (mkF m 74 #[.val (.ref a), .val (.double v27_4), .second, .val (.double v39), .second, .val (.double FP.dconst0), .second, .val (.ref a), .val (.int (4 : Int32)), .val (.int (0 : Int32)), .val (.double z0), .second] [(.double v39), (.double z0), (.double FP.dconst0)]))
  have d74 : DS 2 ((w0 * 4) - mq) (FP.dsub z0 v39) := DS.sub ((d_z0).up 2) d39 (by omega) (by decide)
  refine Dn.st (fun _ kk => XS.dsubS X0.here hx rfl (hb hby d2_74) rfl d74.nn rfl (kk)) ?_
  show Dn p e below s _ _ _ (s₁.setTop (mkF m 75 #[.val (.ref a), .val (.double v27_4), .second, .val (.double v39), .second, .val (.double FP.dconst0), .second, .val (.ref a), .val (.int (4 : Int32)), .val (.int (0 : Int32)), .val (.double z0), .second] [(.double (FP.dsub z0 v39)), (.double FP.dconst0)]))
  generalize hv74 : ((FP.dsub z0 v39) : UInt64) = v74 at d74 ⊢
  show Dn p e below s _ _ _ (s₁.setTop (mkF m 75 #[.val (.ref a), .val (.double v27_4), .second, .val (.double v39), .second, .val (.double FP.dconst0), .second, .val (.ref a), .val (.int (4 : Int32)), .val (.int (0 : Int32)), .val (.double z0), .second] [(.double v74), (.double FP.dconst0)]))
  have d75 : DS 2 (0 + ((w0 * 4) - mq)) (FP.dadd FP.dconst0 v74) := DS.add (DS.cast (k' := 2) (i' := 0) ((dc_0).up 2) rfl (by decide)) d74 (by omega) (by decide)
  refine Dn.st (fun _ kk => XS.daddS X0.here hx rfl (hb hby d2_75) rfl d75.nn rfl (kk)) ?_
  show Dn p e below s _ _ _ (s₁.setTop (mkF m 76 #[.val (.ref a), .val (.double v27_4), .second, .val (.double v39), .second, .val (.double FP.dconst0), .second, .val (.ref a), .val (.int (4 : Int32)), .val (.int (0 : Int32)), .val (.double z0), .second] [(.double (FP.dadd FP.dconst0 v74))]))
  generalize hv75 : ((FP.dadd FP.dconst0 v74) : UInt64) = v75 at d75 ⊢
  show Dn p e below s _ _ _ (s₁.setTop (mkF m 76 #[.val (.ref a), .val (.double v27_4), .second, .val (.double v39), .second, .val (.double FP.dconst0), .second, .val (.ref a), .val (.int (4 : Int32)), .val (.int (0 : Int32)), .val (.double z0), .second] [(.double v75)]))
  refine Dn.st (fun _ kk => XS.dstore X0.here hx rfl (hb hby d2_76) rfl (l' := #[.val (.ref a), .val (.double v27_4), .second, .val (.double v39), .second, .val (.double v75), .second, .val (.ref a), .val (.int (4 : Int32)), .val (.int (0 : Int32)), .val (.double z0), .second]) rfl (XS.iinc X0.here hx rfl (hb hby d2_78) rfl (l' := #[.val (.ref a), .val (.double v27_4), .second, .val (.double v39), .second, .val (.double v75), .second, .val (.ref a), .val (.int (4 : Int32)), .val (.int (1 : Int32)), .val (.double z0), .second]) rfl (XS.goto X0.here hx rfl (pc0 := 81) (pc' := 55) rfl (hb hby d2_81) (by decide) (by decide) (XS.iload X0.here hx rfl (hb hby d2_55) rfl  (XS.iload X0.here hx rfl (hb hby d2_57) rfl  (kk)))))) ?_
  show Dn p e below s _ _ _ (s₁.setTop (mkF m 59 #[.val (.ref a), .val (.double v27_4), .second, .val (.double v39), .second, .val (.double v75), .second, .val (.ref a), .val (.int (4 : Int32)), .val (.int (1 : Int32)), .val (.double z0), .second] [(.int (4 : Int32)), (.int (1 : Int32))]))
  have hc59_2 : (1 : Int32) < (4 : Int32) := by decide
  refine Dn.st (fun _ kk => XS.icmpNo X0.here hx rfl (hb hby d2_59) rfl (tlt hc59_2).2.1 (XS.aload X0.here hx rfl (hb hby d2_62) rfl rfl (XS.iload X0.here hx rfl (hb hby d2_64) rfl  (kk)))) ?_
  show Dn p e below s _ _ _ (s₁.setTop (mkF m 66 #[.val (.ref a), .val (.double v27_4), .second, .val (.double v39), .second, .val (.double v75), .second, .val (.ref a), .val (.int (4 : Int32)), .val (.int (1 : Int32)), .val (.double z0), .second] [(.int (1 : Int32)), (.ref a)]))
  have Vc_a_66_2 := Va
  obtain ⟨cl_a_66_2, Ar_a_66_2, q_a_66_2, S_a_66_2, N_a_66_2, H_a_66_2, G_a_66_2⟩ := Vc_a_66_2
  have hin66_2 : ¬ ((1 : Int32) < 0 ∨ cl_a_66_2.slots.size ≤ ((1 : Int32)).toNatClampNeg) := inb_of S_a_66_2 ⟨by decide, by decide⟩
  have hat66_2 : cl_a_66_2.slots[((1 : Int32)).toNatClampNeg]? = some (.double z1) := H_a_66_2.at hin66_2 rfl
  refine Dn.st (fun _ kk => X0.daload hx (j := (1 : Int32)) (v := (.double z1)) (by rw [e0]; exact Ar_a_66_2.1) (State.isArrayOf_alike hZ.alike Ar_a_66_2.2.1) Ar_a_66_2.2.2 hin66_2 hat66_2 (g := (mkF m 66 #[.val (.ref a), .val (.double v27_4), .second, .val (.double v39), .second, .val (.double v75), .second, .val (.ref a), .val (.int (4 : Int32)), .val (.int (1 : Int32)), .val (.double z0), .second] [(.int (1 : Int32)), (.ref a)])) rfl rfl (hb hby d2_66) _ (XS.dstore X0.here hx rfl (hb hby d2_67) rfl (l' := #[.val (.ref a), .val (.double v27_4), .second, .val (.double v39), .second, .val (.double v75), .second, .val (.ref a), .val (.int (4 : Int32)), .val (.int (1 : Int32)), .val (.double z1), .second]) rfl (XS.dload X0.here hx rfl (hb hby d2_69) rfl  (XS.dload X0.here hx rfl (hb hby d2_71) rfl  (XS.dloadN X0.here hx rfl (hb hby d2_73) rfl  (kk)))))) ?_
  show Dn p e below s _ _ _ (s₁.setTop (mkF m 74 #[.val (.ref a), .val (.double v27_4), .second, .val (.double v39), .second, .val (.double v75), .second, .val (.ref a), .val (.int (4 : Int32)), .val (.int (1 : Int32)), .val (.double z1), .second] [(.double v39), (.double z1), (.double v75)]))
  have d74_2 : DS 2 ((w1 * 4) - mq) (FP.dsub z1 v39) := DS.sub ((d_z1).up 2) d39 (by omega) (by decide)
  refine Dn.st (fun _ kk => XS.dsubS X0.here hx rfl (hb hby d2_74) rfl d74_2.nn rfl (kk)) ?_
  show Dn p e below s _ _ _ (s₁.setTop (mkF m 75 #[.val (.ref a), .val (.double v27_4), .second, .val (.double v39), .second, .val (.double v75), .second, .val (.ref a), .val (.int (4 : Int32)), .val (.int (1 : Int32)), .val (.double z1), .second] [(.double (FP.dsub z1 v39)), (.double v75)]))
  generalize hv74_2 : ((FP.dsub z1 v39) : UInt64) = v74_2 at d74_2 ⊢
  show Dn p e below s _ _ _ (s₁.setTop (mkF m 75 #[.val (.ref a), .val (.double v27_4), .second, .val (.double v39), .second, .val (.double v75), .second, .val (.ref a), .val (.int (4 : Int32)), .val (.int (1 : Int32)), .val (.double z1), .second] [(.double v74_2), (.double v75)]))
  have d75_2 : DS 2 ((0 + ((w0 * 4) - mq)) + ((w1 * 4) - mq)) (FP.dadd v75 v74_2) := DS.add d75 d74_2 (by omega) (by decide)
  refine Dn.st (fun _ kk => XS.daddS X0.here hx rfl (hb hby d2_75) rfl d75_2.nn rfl (kk)) ?_
  show Dn p e below s _ _ _ (s₁.setTop (mkF m 76 #[.val (.ref a), .val (.double v27_4), .second, .val (.double v39), .second, .val (.double v75), .second, .val (.ref a), .val (.int (4 : Int32)), .val (.int (1 : Int32)), .val (.double z1), .second] [(.double (FP.dadd v75 v74_2))]))
  generalize hv75_2 : ((FP.dadd v75 v74_2) : UInt64) = v75_2 at d75_2 ⊢
  show Dn p e below s _ _ _ (s₁.setTop (mkF m 76 #[.val (.ref a), .val (.double v27_4), .second, .val (.double v39), .second, .val (.double v75), .second, .val (.ref a), .val (.int (4 : Int32)), .val (.int (1 : Int32)), .val (.double z1), .second] [(.double v75_2)]))
  refine Dn.st (fun _ kk => XS.dstore X0.here hx rfl (hb hby d2_76) rfl (l' := #[.val (.ref a), .val (.double v27_4), .second, .val (.double v39), .second, .val (.double v75_2), .second, .val (.ref a), .val (.int (4 : Int32)), .val (.int (1 : Int32)), .val (.double z1), .second]) rfl (XS.iinc X0.here hx rfl (hb hby d2_78) rfl (l' := #[.val (.ref a), .val (.double v27_4), .second, .val (.double v39), .second, .val (.double v75_2), .second, .val (.ref a), .val (.int (4 : Int32)), .val (.int (2 : Int32)), .val (.double z1), .second]) rfl (XS.goto X0.here hx rfl (pc0 := 81) (pc' := 55) rfl (hb hby d2_81) (by decide) (by decide) (XS.iload X0.here hx rfl (hb hby d2_55) rfl  (XS.iload X0.here hx rfl (hb hby d2_57) rfl  (kk)))))) ?_
  show Dn p e below s _ _ _ (s₁.setTop (mkF m 59 #[.val (.ref a), .val (.double v27_4), .second, .val (.double v39), .second, .val (.double v75_2), .second, .val (.ref a), .val (.int (4 : Int32)), .val (.int (2 : Int32)), .val (.double z1), .second] [(.int (4 : Int32)), (.int (2 : Int32))]))
  have hc59_3 : (2 : Int32) < (4 : Int32) := by decide
  refine Dn.st (fun _ kk => XS.icmpNo X0.here hx rfl (hb hby d2_59) rfl (tlt hc59_3).2.1 (XS.aload X0.here hx rfl (hb hby d2_62) rfl rfl (XS.iload X0.here hx rfl (hb hby d2_64) rfl  (kk)))) ?_
  show Dn p e below s _ _ _ (s₁.setTop (mkF m 66 #[.val (.ref a), .val (.double v27_4), .second, .val (.double v39), .second, .val (.double v75_2), .second, .val (.ref a), .val (.int (4 : Int32)), .val (.int (2 : Int32)), .val (.double z1), .second] [(.int (2 : Int32)), (.ref a)]))
  have Vc_a_66_3 := Va
  obtain ⟨cl_a_66_3, Ar_a_66_3, q_a_66_3, S_a_66_3, N_a_66_3, H_a_66_3, G_a_66_3⟩ := Vc_a_66_3
  have hin66_3 : ¬ ((2 : Int32) < 0 ∨ cl_a_66_3.slots.size ≤ ((2 : Int32)).toNatClampNeg) := inb_of S_a_66_3 ⟨by decide, by decide⟩
  have hat66_3 : cl_a_66_3.slots[((2 : Int32)).toNatClampNeg]? = some (.double z2) := H_a_66_3.at hin66_3 rfl
  refine Dn.st (fun _ kk => X0.daload hx (j := (2 : Int32)) (v := (.double z2)) (by rw [e0]; exact Ar_a_66_3.1) (State.isArrayOf_alike hZ.alike Ar_a_66_3.2.1) Ar_a_66_3.2.2 hin66_3 hat66_3 (g := (mkF m 66 #[.val (.ref a), .val (.double v27_4), .second, .val (.double v39), .second, .val (.double v75_2), .second, .val (.ref a), .val (.int (4 : Int32)), .val (.int (2 : Int32)), .val (.double z1), .second] [(.int (2 : Int32)), (.ref a)])) rfl rfl (hb hby d2_66) _ (XS.dstore X0.here hx rfl (hb hby d2_67) rfl (l' := #[.val (.ref a), .val (.double v27_4), .second, .val (.double v39), .second, .val (.double v75_2), .second, .val (.ref a), .val (.int (4 : Int32)), .val (.int (2 : Int32)), .val (.double z2), .second]) rfl (XS.dload X0.here hx rfl (hb hby d2_69) rfl  (XS.dload X0.here hx rfl (hb hby d2_71) rfl  (XS.dloadN X0.here hx rfl (hb hby d2_73) rfl  (kk)))))) ?_
  show Dn p e below s _ _ _ (s₁.setTop (mkF m 74 #[.val (.ref a), .val (.double v27_4), .second, .val (.double v39), .second, .val (.double v75_2), .second, .val (.ref a), .val (.int (4 : Int32)), .val (.int (2 : Int32)), .val (.double z2), .second] [(.double v39), (.double z2), (.double v75_2)]))
  have d74_3 : DS 2 ((w2 * 4) - mq) (FP.dsub z2 v39) := DS.sub ((d_z2).up 2) d39 (by omega) (by decide)
  refine Dn.st (fun _ kk => XS.dsubS X0.here hx rfl (hb hby d2_74) rfl d74_3.nn rfl (kk)) ?_
  show Dn p e below s _ _ _ (s₁.setTop (mkF m 75 #[.val (.ref a), .val (.double v27_4), .second, .val (.double v39), .second, .val (.double v75_2), .second, .val (.ref a), .val (.int (4 : Int32)), .val (.int (2 : Int32)), .val (.double z2), .second] [(.double (FP.dsub z2 v39)), (.double v75_2)]))
  generalize hv74_3 : ((FP.dsub z2 v39) : UInt64) = v74_3 at d74_3 ⊢
  show Dn p e below s _ _ _ (s₁.setTop (mkF m 75 #[.val (.ref a), .val (.double v27_4), .second, .val (.double v39), .second, .val (.double v75_2), .second, .val (.ref a), .val (.int (4 : Int32)), .val (.int (2 : Int32)), .val (.double z2), .second] [(.double v74_3), (.double v75_2)]))
  have d75_3 : DS 2 (((0 + ((w0 * 4) - mq)) + ((w1 * 4) - mq)) + ((w2 * 4) - mq)) (FP.dadd v75_2 v74_3) := DS.add d75_2 d74_3 (by omega) (by decide)
  refine Dn.st (fun _ kk => XS.daddS X0.here hx rfl (hb hby d2_75) rfl d75_3.nn rfl (kk)) ?_
  show Dn p e below s _ _ _ (s₁.setTop (mkF m 76 #[.val (.ref a), .val (.double v27_4), .second, .val (.double v39), .second, .val (.double v75_2), .second, .val (.ref a), .val (.int (4 : Int32)), .val (.int (2 : Int32)), .val (.double z2), .second] [(.double (FP.dadd v75_2 v74_3))]))
  generalize hv75_3 : ((FP.dadd v75_2 v74_3) : UInt64) = v75_3 at d75_3 ⊢
  show Dn p e below s _ _ _ (s₁.setTop (mkF m 76 #[.val (.ref a), .val (.double v27_4), .second, .val (.double v39), .second, .val (.double v75_2), .second, .val (.ref a), .val (.int (4 : Int32)), .val (.int (2 : Int32)), .val (.double z2), .second] [(.double v75_3)]))
  refine Dn.st (fun _ kk => XS.dstore X0.here hx rfl (hb hby d2_76) rfl (l' := #[.val (.ref a), .val (.double v27_4), .second, .val (.double v39), .second, .val (.double v75_3), .second, .val (.ref a), .val (.int (4 : Int32)), .val (.int (2 : Int32)), .val (.double z2), .second]) rfl (XS.iinc X0.here hx rfl (hb hby d2_78) rfl (l' := #[.val (.ref a), .val (.double v27_4), .second, .val (.double v39), .second, .val (.double v75_3), .second, .val (.ref a), .val (.int (4 : Int32)), .val (.int (3 : Int32)), .val (.double z2), .second]) rfl (XS.goto X0.here hx rfl (pc0 := 81) (pc' := 55) rfl (hb hby d2_81) (by decide) (by decide) (XS.iload X0.here hx rfl (hb hby d2_55) rfl  (XS.iload X0.here hx rfl (hb hby d2_57) rfl  (kk)))))) ?_
  show Dn p e below s _ _ _ (s₁.setTop (mkF m 59 #[.val (.ref a), .val (.double v27_4), .second, .val (.double v39), .second, .val (.double v75_3), .second, .val (.ref a), .val (.int (4 : Int32)), .val (.int (3 : Int32)), .val (.double z2), .second] [(.int (4 : Int32)), (.int (3 : Int32))]))
  have hc59_4 : (3 : Int32) < (4 : Int32) := by decide
  refine Dn.st (fun _ kk => XS.icmpNo X0.here hx rfl (hb hby d2_59) rfl (tlt hc59_4).2.1 (XS.aload X0.here hx rfl (hb hby d2_62) rfl rfl (XS.iload X0.here hx rfl (hb hby d2_64) rfl  (kk)))) ?_
  show Dn p e below s _ _ _ (s₁.setTop (mkF m 66 #[.val (.ref a), .val (.double v27_4), .second, .val (.double v39), .second, .val (.double v75_3), .second, .val (.ref a), .val (.int (4 : Int32)), .val (.int (3 : Int32)), .val (.double z2), .second] [(.int (3 : Int32)), (.ref a)]))
  have Vc_a_66_4 := Va
  obtain ⟨cl_a_66_4, Ar_a_66_4, q_a_66_4, S_a_66_4, N_a_66_4, H_a_66_4, G_a_66_4⟩ := Vc_a_66_4
  have hin66_4 : ¬ ((3 : Int32) < 0 ∨ cl_a_66_4.slots.size ≤ ((3 : Int32)).toNatClampNeg) := inb_of S_a_66_4 ⟨by decide, by decide⟩
  have hat66_4 : cl_a_66_4.slots[((3 : Int32)).toNatClampNeg]? = some (.double z3) := H_a_66_4.at hin66_4 rfl
  refine Dn.st (fun _ kk => X0.daload hx (j := (3 : Int32)) (v := (.double z3)) (by rw [e0]; exact Ar_a_66_4.1) (State.isArrayOf_alike hZ.alike Ar_a_66_4.2.1) Ar_a_66_4.2.2 hin66_4 hat66_4 (g := (mkF m 66 #[.val (.ref a), .val (.double v27_4), .second, .val (.double v39), .second, .val (.double v75_3), .second, .val (.ref a), .val (.int (4 : Int32)), .val (.int (3 : Int32)), .val (.double z2), .second] [(.int (3 : Int32)), (.ref a)])) rfl rfl (hb hby d2_66) _ (XS.dstore X0.here hx rfl (hb hby d2_67) rfl (l' := #[.val (.ref a), .val (.double v27_4), .second, .val (.double v39), .second, .val (.double v75_3), .second, .val (.ref a), .val (.int (4 : Int32)), .val (.int (3 : Int32)), .val (.double z3), .second]) rfl (XS.dload X0.here hx rfl (hb hby d2_69) rfl  (XS.dload X0.here hx rfl (hb hby d2_71) rfl  (XS.dloadN X0.here hx rfl (hb hby d2_73) rfl  (kk)))))) ?_
  show Dn p e below s _ _ _ (s₁.setTop (mkF m 74 #[.val (.ref a), .val (.double v27_4), .second, .val (.double v39), .second, .val (.double v75_3), .second, .val (.ref a), .val (.int (4 : Int32)), .val (.int (3 : Int32)), .val (.double z3), .second] [(.double v39), (.double z3), (.double v75_3)]))
  have d74_4 : DS 2 ((w3 * 4) - mq) (FP.dsub z3 v39) := DS.sub ((d_z3).up 2) d39 (by omega) (by decide)
  refine Dn.st (fun _ kk => XS.dsubS X0.here hx rfl (hb hby d2_74) rfl d74_4.nn rfl (kk)) ?_
  show Dn p e below s _ _ _ (s₁.setTop (mkF m 75 #[.val (.ref a), .val (.double v27_4), .second, .val (.double v39), .second, .val (.double v75_3), .second, .val (.ref a), .val (.int (4 : Int32)), .val (.int (3 : Int32)), .val (.double z3), .second] [(.double (FP.dsub z3 v39)), (.double v75_3)]))
  generalize hv74_4 : ((FP.dsub z3 v39) : UInt64) = v74_4 at d74_4 ⊢
  show Dn p e below s _ _ _ (s₁.setTop (mkF m 75 #[.val (.ref a), .val (.double v27_4), .second, .val (.double v39), .second, .val (.double v75_3), .second, .val (.ref a), .val (.int (4 : Int32)), .val (.int (3 : Int32)), .val (.double z3), .second] [(.double v74_4), (.double v75_3)]))
  have d75_4 : DS 2 ((((0 + ((w0 * 4) - mq)) + ((w1 * 4) - mq)) + ((w2 * 4) - mq)) + ((w3 * 4) - mq)) (FP.dadd v75_3 v74_4) := DS.add d75_3 d74_4 (by omega) (by decide)
  refine Dn.st (fun _ kk => XS.daddS X0.here hx rfl (hb hby d2_75) rfl d75_4.nn rfl (kk)) ?_
  show Dn p e below s _ _ _ (s₁.setTop (mkF m 76 #[.val (.ref a), .val (.double v27_4), .second, .val (.double v39), .second, .val (.double v75_3), .second, .val (.ref a), .val (.int (4 : Int32)), .val (.int (3 : Int32)), .val (.double z3), .second] [(.double (FP.dadd v75_3 v74_4))]))
  generalize hv75_4 : ((FP.dadd v75_3 v74_4) : UInt64) = v75_4 at d75_4 ⊢
  show Dn p e below s _ _ _ (s₁.setTop (mkF m 76 #[.val (.ref a), .val (.double v27_4), .second, .val (.double v39), .second, .val (.double v75_3), .second, .val (.ref a), .val (.int (4 : Int32)), .val (.int (3 : Int32)), .val (.double z3), .second] [(.double v75_4)]))
  refine Dn.st (fun _ kk => XS.dstore X0.here hx rfl (hb hby d2_76) rfl (l' := #[.val (.ref a), .val (.double v27_4), .second, .val (.double v39), .second, .val (.double v75_4), .second, .val (.ref a), .val (.int (4 : Int32)), .val (.int (3 : Int32)), .val (.double z3), .second]) rfl (XS.iinc X0.here hx rfl (hb hby d2_78) rfl (l' := #[.val (.ref a), .val (.double v27_4), .second, .val (.double v39), .second, .val (.double v75_4), .second, .val (.ref a), .val (.int (4 : Int32)), .val (.int (4 : Int32)), .val (.double z3), .second]) rfl (XS.goto X0.here hx rfl (pc0 := 81) (pc' := 55) rfl (hb hby d2_81) (by decide) (by decide) (XS.iload X0.here hx rfl (hb hby d2_55) rfl  (XS.iload X0.here hx rfl (hb hby d2_57) rfl  (kk)))))) ?_
  show Dn p e below s _ _ _ (s₁.setTop (mkF m 59 #[.val (.ref a), .val (.double v27_4), .second, .val (.double v39), .second, .val (.double v75_4), .second, .val (.ref a), .val (.int (4 : Int32)), .val (.int (4 : Int32)), .val (.double z3), .second] [(.int (4 : Int32)), (.int (4 : Int32))]))
  have hc59_5 : ¬ ((4 : Int32) < (4 : Int32)) := by decide
  refine Dn.st (fun _ kk => XS.icmpYes X0.here hx rfl (pc0 := 59) (pc' := 84) rfl (hb hby d2_59) rfl (flt hc59_5).2.1 (by decide) (by decide) (XS.dloadN X0.here hx rfl (hb hby d2_84) rfl  (XS.dload X0.here hx rfl (hb hby d2_85) rfl  (XS.aloadN X0.here hx rfl (hb hby d2_87) rfl rfl (kk))))) ?_
  show Dn p e below s _ _ _ (s₁.setTop (mkF m 88 #[.val (.ref a), .val (.double v27_4), .second, .val (.double v39), .second, .val (.double v75_4), .second, .val (.ref a), .val (.int (4 : Int32)), .val (.int (4 : Int32)), .val (.double z3), .second] [(.ref a), (.double v75_4), (.double v39)]))
  have Vc_a_88 := Va
  obtain ⟨cl_a_88, Ar_a_88, q_a_88, S_a_88, N_a_88, H_a_88, G_a_88⟩ := Vc_a_88
  refine Dn.st (fun _ kk => X0.arraylength hx (by rw [e0]; exact Ar_a_88.1) (State.isArrayOf_alike hZ.alike Ar_a_88.2.1) (g := (mkF m 88 #[.val (.ref a), .val (.double v27_4), .second, .val (.double v39), .second, .val (.double v75_4), .second, .val (.ref a), .val (.int (4 : Int32)), .val (.int (4 : Int32)), .val (.double z3), .second] [(.ref a), (.double v75_4), (.double v39)])) rfl rfl (hb hby d2_88) _ (kk)) ?_
  show Dn p e below s _ _ _ (s₁.setTop (mkF m 89 #[.val (.ref a), .val (.double v27_4), .second, .val (.double v39), .second, .val (.double v75_4), .second, .val (.ref a), .val (.int (4 : Int32)), .val (.int (4 : Int32)), .val (.double z3), .second] [(.int cl_a_88.slots.size.toInt32), (.double v75_4), (.double v39)]))
  rw [len_of S_a_88 N_a_88]
  show Dn p e below s _ _ _ (s₁.setTop (mkF m 89 #[.val (.ref a), .val (.double v27_4), .second, .val (.double v39), .second, .val (.double v75_4), .second, .val (.ref a), .val (.int (4 : Int32)), .val (.int (4 : Int32)), .val (.double z3), .second] [(.int (4 : Int32)), (.double v75_4), (.double v39)]))
  have d89 := DS.i2d (4 : Int32)
  refine Dn.st (fun _ kk => XS.i2dS X0.here hx rfl (hb hby d2_89) rfl rfl (kk)) ?_
  show Dn p e below s _ _ _ (s₁.setTop (mkF m 90 #[.val (.ref a), .val (.double v27_4), .second, .val (.double v39), .second, .val (.double v75_4), .second, .val (.ref a), .val (.int (4 : Int32)), .val (.int (4 : Int32)), .val (.double z3), .second] [(.double (FP.i2d (4 : Int32))), (.double v75_4), (.double v39)]))
  generalize hv89 : ((FP.i2d (4 : Int32)) : UInt64) = v89 at d89 ⊢
  show Dn p e below s _ _ _ (s₁.setTop (mkF m 90 #[.val (.ref a), .val (.double v27_4), .second, .val (.double v39), .second, .val (.double v75_4), .second, .val (.ref a), .val (.int (4 : Int32)), .val (.int (4 : Int32)), .val (.double z3), .second] [(.double v89), (.double v75_4), (.double v39)]))
  have d90 : DS 2 0 (FP.ddiv v75_4 v89) := DS.div (n := 2) (Q := 0) (DS.cast (i' := 0) d75_4 rfl (by omega)) (DS.cast (i' := 4) d89 rfl (by decide)) (by decide) (by decide) (by decide) (by decide)
  refine Dn.st (fun _ kk => XS.ddivS X0.here hx rfl (hb hby d2_90) rfl d90.nn rfl (kk)) ?_
  show Dn p e below s _ _ _ (s₁.setTop (mkF m 91 #[.val (.ref a), .val (.double v27_4), .second, .val (.double v39), .second, .val (.double v75_4), .second, .val (.ref a), .val (.int (4 : Int32)), .val (.int (4 : Int32)), .val (.double z3), .second] [(.double (FP.ddiv v75_4 v89)), (.double v39)]))
  generalize hv90 : ((FP.ddiv v75_4 v89) : UInt64) = v90 at d90 ⊢
  show Dn p e below s _ _ _ (s₁.setTop (mkF m 91 #[.val (.ref a), .val (.double v27_4), .second, .val (.double v39), .second, .val (.double v75_4), .second, .val (.ref a), .val (.int (4 : Int32)), .val (.int (4 : Int32)), .val (.double z3), .second] [(.double v90), (.double v39)]))
  have d91 : DS 2 mq (FP.dadd v39 v90) := DS.addc d39 d90 (by omega) (by omega) (by decide)
  refine Dn.st (fun _ kk => XS.daddS X0.here hx rfl (hb hby d2_91) rfl d91.nn rfl (kk)) ?_
  show Dn p e below s _ _ _ (s₁.setTop (mkF m 92 #[.val (.ref a), .val (.double v27_4), .second, .val (.double v39), .second, .val (.double v75_4), .second, .val (.ref a), .val (.int (4 : Int32)), .val (.int (4 : Int32)), .val (.double z3), .second] [(.double (FP.dadd v39 v90))]))
  generalize hv91 : ((FP.dadd v39 v90) : UInt64) = v91 at d91 ⊢
  show Dn p e below s _ _ _ (s₁.setTop (mkF m 92 #[.val (.ref a), .val (.double v27_4), .second, .val (.double v39), .second, .val (.double v75_4), .second, .val (.ref a), .val (.int (4 : Int32)), .val (.int (4 : Int32)), .val (.double z3), .second] [(.double v91)]))
  exact Dn.ret X0 hlk hx hret rfl (Or.inr (Or.inr (Or.inl ⟨rfl, rfl, _, rfl⟩))) (hb hby d2_92) (by rw [e0]; exact ⟨_, rfl, d91, N0, rfl⟩) (by decide) (by decide)

theorem ef2_rm2S_1 (m : MethodId) (x0 : Addr) : entryFrame m #[(.ref x0)] 12 = mkF m 0 #[.val (.ref x0), .unset, .unset, .unset, .unset, .unset, .unset, .unset, .unset, .unset, .unset, .unset] [] := by first | (simp [entryFrame, mkF, argsToLocals, Value.category]; done) | rfl
def Q2S_1 (Z : State) (a : Addr) (ka : ClassId) (zz : UInt64) (kq : Int) (h0 : Heap) (n0 : Nat) (v : Option Value) (h : Heap) (L : List Loc) : Prop := ∃ z, v = some (.double z) ∧ DS 0 kq z ∧ Fr n0 L ∧ h = h0
set_option maxRecDepth 65536 in
set_option maxHeartbeats 40000000 in
theorem rm2S_1 (l : Launch) (Z : State) (a0 : Array Value) (hw : ∀ d ∈ tables_1, d.before a0 Z = true) (ws : List Jvm.Cond) (a : Addr) (ka : ClassId) (zz : UInt64) (kq : Int) (h0 : Heap) (n0 : Nat) (Z0 : n0 ≤ h0.size) (Va : Arv Z h0 a ka .double 1 [(.double zz)] (.double 0)) (d_zz : DS 0 kq zz) (hkb : kq.natAbs ≤ 2 ^ 53) :
    MetFree l (⟨"com/example/listino/listino/stats/Moments", "mean", "([D)D"⟩ : MethodName) (head1 (Jvm.Cond.code (⟨"com/example/listino/listino/stats/Moments", "mean", "([D)D"⟩ : MethodName) prog_51_method_2_code 12 (some .double) :: ws) ({ frames := 0, cells := 0, slots := 0, locals := 0 } : Room)) (fun aa UU => aa = #[(.ref a)] ∧ Z.Warmed39 UU.vm ∧ UU.heap = h0) (fun _ _ _ _ _ => True) (fun _ UU oo UU' => ∃ vv LL, oo = .returned vv ∧ Q2S_1 Z a ka zz kq h0 n0 vv UU'.heap LL ∧ FrameEnd UU oo UU' LL ({ frames := 0, cells := 0, slots := 0, locals := 0 } : Room).cells ({ frames := 0, cells := 0, slots := 0, locals := 0 } : Room).slots) := by
  refine MetFree.of_bodySF (plainFor_of_name pn1) hisR ?_
  intro p e s m args below meth c s₁ Bd hml0 hP hK
  obtain ⟨rfl, hZ, hh⟩ := hP
  have hx := Bd.exec
  have hby := Bd.bytes
  have hlk : meth.locks = false := BodyLoose.notSynchronized Bd
  have hret := Bd.returns
  have hml : c.maxLocals = 12 := hml0
  have hown : s.vm.findClass "com/example/listino/listino/stats/Moments" = some m.cls := findClass_of_methodNamed Bd.named
  have hnm := (name_of_methodNamed Bd.named Bd.method).1
  have X0 : Stand p l e ({ frames := 0, cells := 0, slots := 0, locals := 0 } : Room) s m #[(.ref a)] below meth c s₁ [] 0 0 := Stand.of_body Bd
  have e0 : s₁.heap = h0 := by rw [← hh, Bd.state]; rfl
  have N0 := Fr.nil n0
  show Dn p e below s (Q2S_1 Z a ka zz kq h0 n0) ({ frames := 0, cells := 0, slots := 0, locals := 0 } : Room).cells ({ frames := 0, cells := 0, slots := 0, locals := 0 } : Room).slots (s₁.setTop (entryFrame m #[(.ref a)] 12))
  refine Dn.st (fun _ kk => castTop (ef2_rm2S_1 m a) kk) ?_
  show Dn p e below s _ _ _ (s₁.setTop (mkF m 0 #[.val (.ref a), .unset, .unset, .unset, .unset, .unset, .unset, .unset, .unset, .unset, .unset, .unset] []))
  refine Dn.st (fun _ kk => XS.dconst0 X0.here hx rfl (hb hby d2_0) rfl (XS.dstoreN X0.here hx rfl (hb hby d2_1) rfl (l' := #[.val (.ref a), .val (.double FP.dconst0), .second, .unset, .unset, .unset, .unset, .unset, .unset, .unset, .unset, .unset]) rfl (XS.aloadN X0.here hx rfl (hb hby d2_2) rfl rfl (XS.astoreN X0.here hx rfl (hb hby d2_3) rfl rfl (l' := #[.val (.ref a), .val (.double FP.dconst0), .second, .val (.ref a), .unset, .unset, .unset, .unset, .unset, .unset, .unset, .unset]) rfl (XS.aloadN X0.here hx rfl (hb hby d2_4) rfl rfl (kk)))))) ?_
  show Dn p e below s _ _ _ (s₁.setTop (mkF m 5 #[.val (.ref a), .val (.double FP.dconst0), .second, .val (.ref a), .unset, .unset, .unset, .unset, .unset, .unset, .unset, .unset] [(.ref a)]))
  have Vc_a_5 := Va
  obtain ⟨cl_a_5, Ar_a_5, q_a_5, S_a_5, N_a_5, H_a_5, G_a_5⟩ := Vc_a_5
  refine Dn.st (fun _ kk => X0.arraylength hx (by rw [e0]; exact Ar_a_5.1) (State.isArrayOf_alike hZ.alike Ar_a_5.2.1) (g := (mkF m 5 #[.val (.ref a), .val (.double FP.dconst0), .second, .val (.ref a), .unset, .unset, .unset, .unset, .unset, .unset, .unset, .unset] [(.ref a)])) rfl rfl (hb hby d2_5) _ (kk)) ?_
  show Dn p e below s _ _ _ (s₁.setTop (mkF m 6 #[.val (.ref a), .val (.double FP.dconst0), .second, .val (.ref a), .unset, .unset, .unset, .unset, .unset, .unset, .unset, .unset] [(.int cl_a_5.slots.size.toInt32)]))
  rw [len_of S_a_5 N_a_5]
  show Dn p e below s _ _ _ (s₁.setTop (mkF m 6 #[.val (.ref a), .val (.double FP.dconst0), .second, .val (.ref a), .unset, .unset, .unset, .unset, .unset, .unset, .unset, .unset] [(.int (1 : Int32))]))
  refine Dn.st (fun _ kk => XS.istore X0.here hx rfl (hb hby d2_6) rfl (l' := #[.val (.ref a), .val (.double FP.dconst0), .second, .val (.ref a), .val (.int (1 : Int32)), .unset, .unset, .unset, .unset, .unset, .unset, .unset]) rfl (XS.iconst X0.here hx rfl (hb hby d2_8) (XS.istore X0.here hx rfl (hb hby d2_9) rfl (l' := #[.val (.ref a), .val (.double FP.dconst0), .second, .val (.ref a), .val (.int (1 : Int32)), .val (.int (0 : Int32)), .unset, .unset, .unset, .unset, .unset, .unset]) rfl (XS.iload X0.here hx rfl (hb hby d2_11) rfl  (XS.iload X0.here hx rfl (hb hby d2_13) rfl  (kk)))))) ?_
  show Dn p e below s _ _ _ (s₁.setTop (mkF m 15 #[.val (.ref a), .val (.double FP.dconst0), .second, .val (.ref a), .val (.int (1 : Int32)), .val (.int (0 : Int32)), .unset, .unset, .unset, .unset, .unset, .unset] [(.int (1 : Int32)), (.int (0 : Int32))]))
  have hc15 : (0 : Int32) < (1 : Int32) := by decide
  refine Dn.st (fun _ kk => XS.icmpNo X0.here hx rfl (hb hby d2_15) rfl (tlt hc15).2.1 (XS.aloadN X0.here hx rfl (hb hby d2_18) rfl rfl (XS.iload X0.here hx rfl (hb hby d2_19) rfl  (kk)))) ?_
  show Dn p e below s _ _ _ (s₁.setTop (mkF m 21 #[.val (.ref a), .val (.double FP.dconst0), .second, .val (.ref a), .val (.int (1 : Int32)), .val (.int (0 : Int32)), .unset, .unset, .unset, .unset, .unset, .unset] [(.int (0 : Int32)), (.ref a)]))
  have Vc_a_21 := Va
  obtain ⟨cl_a_21, Ar_a_21, q_a_21, S_a_21, N_a_21, H_a_21, G_a_21⟩ := Vc_a_21
  have hin21 : ¬ ((0 : Int32) < 0 ∨ cl_a_21.slots.size ≤ ((0 : Int32)).toNatClampNeg) := inb_of S_a_21 ⟨by decide, by decide⟩
  have hat21 : cl_a_21.slots[((0 : Int32)).toNatClampNeg]? = some (.double zz) := H_a_21.at hin21 rfl
  refine Dn.st (fun _ kk => X0.daload hx (j := (0 : Int32)) (v := (.double zz)) (by rw [e0]; exact Ar_a_21.1) (State.isArrayOf_alike hZ.alike Ar_a_21.2.1) Ar_a_21.2.2 hin21 hat21 (g := (mkF m 21 #[.val (.ref a), .val (.double FP.dconst0), .second, .val (.ref a), .val (.int (1 : Int32)), .val (.int (0 : Int32)), .unset, .unset, .unset, .unset, .unset, .unset] [(.int (0 : Int32)), (.ref a)])) rfl rfl (hb hby d2_21) _ (XS.dstore X0.here hx rfl (hb hby d2_22) rfl (l' := #[.val (.ref a), .val (.double FP.dconst0), .second, .val (.ref a), .val (.int (1 : Int32)), .val (.int (0 : Int32)), .val (.double zz), .second, .unset, .unset, .unset, .unset]) rfl (XS.dloadN X0.here hx rfl (hb hby d2_24) rfl  (XS.dload X0.here hx rfl (hb hby d2_25) rfl  (kk))))) ?_
  show Dn p e below s _ _ _ (s₁.setTop (mkF m 27 #[.val (.ref a), .val (.double FP.dconst0), .second, .val (.ref a), .val (.int (1 : Int32)), .val (.int (0 : Int32)), .val (.double zz), .second, .unset, .unset, .unset, .unset] [(.double zz), (.double FP.dconst0)]))
  have d27 : DS 0 (0 + kq) (FP.dadd FP.dconst0 zz) := DS.add dc_0 d_zz (by omega) (by decide)
  refine Dn.st (fun _ kk => XS.daddS X0.here hx rfl (hb hby d2_27) rfl d27.nn rfl (kk)) ?_
  show Dn p e below s _ _ _ (s₁.setTop (mkF m 28 #[.val (.ref a), .val (.double FP.dconst0), .second, .val (.ref a), .val (.int (1 : Int32)), .val (.int (0 : Int32)), .val (.double zz), .second, .unset, .unset, .unset, .unset] [(.double (FP.dadd FP.dconst0 zz))]))
  generalize hv27 : ((FP.dadd FP.dconst0 zz) : UInt64) = v27 at d27 ⊢
  show Dn p e below s _ _ _ (s₁.setTop (mkF m 28 #[.val (.ref a), .val (.double FP.dconst0), .second, .val (.ref a), .val (.int (1 : Int32)), .val (.int (0 : Int32)), .val (.double zz), .second, .unset, .unset, .unset, .unset] [(.double v27)]))
  refine Dn.st (fun _ kk => XS.dstoreN X0.here hx rfl (hb hby d2_28) rfl (l' := #[.val (.ref a), .val (.double v27), .second, .val (.ref a), .val (.int (1 : Int32)), .val (.int (0 : Int32)), .val (.double zz), .second, .unset, .unset, .unset, .unset]) rfl (XS.iinc X0.here hx rfl (hb hby d2_29) rfl (l' := #[.val (.ref a), .val (.double v27), .second, .val (.ref a), .val (.int (1 : Int32)), .val (.int (1 : Int32)), .val (.double zz), .second, .unset, .unset, .unset, .unset]) rfl (XS.goto X0.here hx rfl (pc0 := 32) (pc' := 11) rfl (hb hby d2_32) (by decide) (by decide) (XS.iload X0.here hx rfl (hb hby d2_11) rfl  (XS.iload X0.here hx rfl (hb hby d2_13) rfl  (kk)))))) ?_
  show Dn p e below s _ _ _ (s₁.setTop (mkF m 15 #[.val (.ref a), .val (.double v27), .second, .val (.ref a), .val (.int (1 : Int32)), .val (.int (1 : Int32)), .val (.double zz), .second, .unset, .unset, .unset, .unset] [(.int (1 : Int32)), (.int (1 : Int32))]))
  have hc15_2 : ¬ ((1 : Int32) < (1 : Int32)) := by decide
  refine Dn.st (fun _ kk => XS.icmpYes X0.here hx rfl (pc0 := 15) (pc' := 35) rfl (hb hby d2_15) rfl (flt hc15_2).2.1 (by decide) (by decide) (XS.dloadN X0.here hx rfl (hb hby d2_35) rfl  (XS.aloadN X0.here hx rfl (hb hby d2_36) rfl rfl (kk)))) ?_
  show Dn p e below s _ _ _ (s₁.setTop (mkF m 37 #[.val (.ref a), .val (.double v27), .second, .val (.ref a), .val (.int (1 : Int32)), .val (.int (1 : Int32)), .val (.double zz), .second, .unset, .unset, .unset, .unset] [(.ref a), (.double v27)]))
  have Vc_a_37 := Va
  obtain ⟨cl_a_37, Ar_a_37, q_a_37, S_a_37, N_a_37, H_a_37, G_a_37⟩ := Vc_a_37
  refine Dn.st (fun _ kk => X0.arraylength hx (by rw [e0]; exact Ar_a_37.1) (State.isArrayOf_alike hZ.alike Ar_a_37.2.1) (g := (mkF m 37 #[.val (.ref a), .val (.double v27), .second, .val (.ref a), .val (.int (1 : Int32)), .val (.int (1 : Int32)), .val (.double zz), .second, .unset, .unset, .unset, .unset] [(.ref a), (.double v27)])) rfl rfl (hb hby d2_37) _ (kk)) ?_
  show Dn p e below s _ _ _ (s₁.setTop (mkF m 38 #[.val (.ref a), .val (.double v27), .second, .val (.ref a), .val (.int (1 : Int32)), .val (.int (1 : Int32)), .val (.double zz), .second, .unset, .unset, .unset, .unset] [(.int cl_a_37.slots.size.toInt32), (.double v27)]))
  rw [len_of S_a_37 N_a_37]
  show Dn p e below s _ _ _ (s₁.setTop (mkF m 38 #[.val (.ref a), .val (.double v27), .second, .val (.ref a), .val (.int (1 : Int32)), .val (.int (1 : Int32)), .val (.double zz), .second, .unset, .unset, .unset, .unset] [(.int (1 : Int32)), (.double v27)]))
  have d38 := DS.i2d (1 : Int32)
  refine Dn.st (fun _ kk => XS.i2dS X0.here hx rfl (hb hby d2_38) rfl rfl (kk)) ?_
  show Dn p e below s _ _ _ (s₁.setTop (mkF m 39 #[.val (.ref a), .val (.double v27), .second, .val (.ref a), .val (.int (1 : Int32)), .val (.int (1 : Int32)), .val (.double zz), .second, .unset, .unset, .unset, .unset] [(.double (FP.i2d (1 : Int32))), (.double v27)]))
  generalize hv38 : ((FP.i2d (1 : Int32)) : UInt64) = v38 at d38 ⊢
  show Dn p e below s _ _ _ (s₁.setTop (mkF m 39 #[.val (.ref a), .val (.double v27), .second, .val (.ref a), .val (.int (1 : Int32)), .val (.int (1 : Int32)), .val (.double zz), .second, .unset, .unset, .unset, .unset] [(.double v38), (.double v27)]))
  have d39 : DS 0 kq (FP.ddiv v27 v38) := DS.div (n := 0) (Q := kq) d27 (DS.cast (i' := 1) d38 rfl (by decide)) (by decide) (by show _ * 1 = _ * 1; omega) (by omega) (by decide)
  refine Dn.st (fun _ kk => XS.ddivS X0.here hx rfl (hb hby d2_39) rfl d39.nn rfl (kk)) ?_
  show Dn p e below s _ _ _ (s₁.setTop (mkF m 40 #[.val (.ref a), .val (.double v27), .second, .val (.ref a), .val (.int (1 : Int32)), .val (.int (1 : Int32)), .val (.double zz), .second, .unset, .unset, .unset, .unset] [(.double (FP.ddiv v27 v38))]))
  generalize hv39 : ((FP.ddiv v27 v38) : UInt64) = v39 at d39 ⊢
  show Dn p e below s _ _ _ (s₁.setTop (mkF m 40 #[.val (.ref a), .val (.double v27), .second, .val (.ref a), .val (.int (1 : Int32)), .val (.int (1 : Int32)), .val (.double zz), .second, .unset, .unset, .unset, .unset] [(.double v39)]))
  refine Dn.st (fun _ kk => XS.dstoreN X0.here hx rfl (hb hby d2_40) rfl (l' := #[.val (.ref a), .val (.double v27), .second, .val (.double v39), .second, .val (.int (1 : Int32)), .val (.double zz), .second, .unset, .unset, .unset, .unset]) rfl (XS.dconst0 X0.here hx rfl (hb hby d2_41) rfl (XS.dstore X0.here hx rfl (hb hby d2_42) rfl (l' := #[.val (.ref a), .val (.double v27), .second, .val (.double v39), .second, .val (.double FP.dconst0), .second, .unset, .unset, .unset, .unset, .unset]) rfl (XS.aloadN X0.here hx rfl (hb hby d2_44) rfl rfl (XS.astore X0.here hx rfl (hb hby d2_45) rfl rfl (l' := #[.val (.ref a), .val (.double v27), .second, .val (.double v39), .second, .val (.double FP.dconst0), .second, .val (.ref a), .unset, .unset, .unset, .unset]) rfl (XS.aload X0.here hx rfl (hb hby d2_47) rfl rfl (kk))))))) ?_
  show Dn p e below s _ _ _ (s₁.setTop (mkF m 49 #[.val (.ref a), .val (.double v27), .second, .val (.double v39), .second, .val (.double FP.dconst0), .second, .val (.ref a), .unset, .unset, .unset, .unset] [(.ref a)]))
  have Vc_a_49 := Va
  obtain ⟨cl_a_49, Ar_a_49, q_a_49, S_a_49, N_a_49, H_a_49, G_a_49⟩ := Vc_a_49
  refine Dn.st (fun _ kk => X0.arraylength hx (by rw [e0]; exact Ar_a_49.1) (State.isArrayOf_alike hZ.alike Ar_a_49.2.1) (g := (mkF m 49 #[.val (.ref a), .val (.double v27), .second, .val (.double v39), .second, .val (.double FP.dconst0), .second, .val (.ref a), .unset, .unset, .unset, .unset] [(.ref a)])) rfl rfl (hb hby d2_49) _ (kk)) ?_
  show Dn p e below s _ _ _ (s₁.setTop (mkF m 50 #[.val (.ref a), .val (.double v27), .second, .val (.double v39), .second, .val (.double FP.dconst0), .second, .val (.ref a), .unset, .unset, .unset, .unset] [(.int cl_a_49.slots.size.toInt32)]))
  rw [len_of S_a_49 N_a_49]
  show Dn p e below s _ _ _ (s₁.setTop (mkF m 50 #[.val (.ref a), .val (.double v27), .second, .val (.double v39), .second, .val (.double FP.dconst0), .second, .val (.ref a), .unset, .unset, .unset, .unset] [(.int (1 : Int32))]))
  refine Dn.st (fun _ kk => XS.istore X0.here hx rfl (hb hby d2_50) rfl (l' := #[.val (.ref a), .val (.double v27), .second, .val (.double v39), .second, .val (.double FP.dconst0), .second, .val (.ref a), .val (.int (1 : Int32)), .unset, .unset, .unset]) rfl (XS.iconst X0.here hx rfl (hb hby d2_52) (XS.istore X0.here hx rfl (hb hby d2_53) rfl (l' := #[.val (.ref a), .val (.double v27), .second, .val (.double v39), .second, .val (.double FP.dconst0), .second, .val (.ref a), .val (.int (1 : Int32)), .val (.int (0 : Int32)), .unset, .unset]) rfl (XS.iload X0.here hx rfl (hb hby d2_55) rfl  (XS.iload X0.here hx rfl (hb hby d2_57) rfl  (kk)))))) ?_
  show Dn p e below s _ _ _ (s₁.setTop (mkF m 59 #[.val (.ref a), .val (.double v27), .second, .val (.double v39), .second, .val (.double FP.dconst0), .second, .val (.ref a), .val (.int (1 : Int32)), .val (.int (0 : Int32)), .unset, .unset] [(.int (1 : Int32)), (.int (0 : Int32))]))
  have hc59 : (0 : Int32) < (1 : Int32) := by decide
  refine Dn.st (fun _ kk => XS.icmpNo X0.here hx rfl (hb hby d2_59) rfl (tlt hc59).2.1 (XS.aload X0.here hx rfl (hb hby d2_62) rfl rfl (XS.iload X0.here hx rfl (hb hby d2_64) rfl  (kk)))) ?_
  show Dn p e below s _ _ _ (s₁.setTop (mkF m 66 #[.val (.ref a), .val (.double v27), .second, .val (.double v39), .second, .val (.double FP.dconst0), .second, .val (.ref a), .val (.int (1 : Int32)), .val (.int (0 : Int32)), .unset, .unset] [(.int (0 : Int32)), (.ref a)]))
  have Vc_a_66 := Va
  obtain ⟨cl_a_66, Ar_a_66, q_a_66, S_a_66, N_a_66, H_a_66, G_a_66⟩ := Vc_a_66
  have hin66 : ¬ ((0 : Int32) < 0 ∨ cl_a_66.slots.size ≤ ((0 : Int32)).toNatClampNeg) := inb_of S_a_66 ⟨by decide, by decide⟩
  have hat66 : cl_a_66.slots[((0 : Int32)).toNatClampNeg]? = some (.double zz) := H_a_66.at hin66 rfl
  refine Dn.st (fun _ kk => X0.daload hx (j := (0 : Int32)) (v := (.double zz)) (by rw [e0]; exact Ar_a_66.1) (State.isArrayOf_alike hZ.alike Ar_a_66.2.1) Ar_a_66.2.2 hin66 hat66 (g := (mkF m 66 #[.val (.ref a), .val (.double v27), .second, .val (.double v39), .second, .val (.double FP.dconst0), .second, .val (.ref a), .val (.int (1 : Int32)), .val (.int (0 : Int32)), .unset, .unset] [(.int (0 : Int32)), (.ref a)])) rfl rfl (hb hby d2_66) _ (XS.dstore X0.here hx rfl (hb hby d2_67) rfl (l' := #[.val (.ref a), .val (.double v27), .second, .val (.double v39), .second, .val (.double FP.dconst0), .second, .val (.ref a), .val (.int (1 : Int32)), .val (.int (0 : Int32)), .val (.double zz), .second]) rfl (XS.dload X0.here hx rfl (hb hby d2_69) rfl  (XS.dload X0.here hx rfl (hb hby d2_71) rfl  (XS.dloadN X0.here hx rfl (hb hby d2_73) rfl  (kk)))))) ?_
  show Dn p e below s _ _ _ (s₁.setTop (mkF m 74 #[.val (.ref a), .val (.double v27), .second, .val (.double v39), .second, .val (.double FP.dconst0), .second, .val (.ref a), .val (.int (1 : Int32)), .val (.int (0 : Int32)), .val (.double zz), .second] [(.double v39), (.double zz), (.double FP.dconst0)]))
  have d74 : DS 0 0 (FP.dsub zz v39) := DS.subc d_zz d39 (by omega) (by omega) (by decide)
  refine Dn.st (fun _ kk => XS.dsubS X0.here hx rfl (hb hby d2_74) rfl d74.nn rfl (kk)) ?_
  show Dn p e below s _ _ _ (s₁.setTop (mkF m 75 #[.val (.ref a), .val (.double v27), .second, .val (.double v39), .second, .val (.double FP.dconst0), .second, .val (.ref a), .val (.int (1 : Int32)), .val (.int (0 : Int32)), .val (.double zz), .second] [(.double (FP.dsub zz v39)), (.double FP.dconst0)]))
  generalize hv74 : ((FP.dsub zz v39) : UInt64) = v74 at d74 ⊢
  show Dn p e below s _ _ _ (s₁.setTop (mkF m 75 #[.val (.ref a), .val (.double v27), .second, .val (.double v39), .second, .val (.double FP.dconst0), .second, .val (.ref a), .val (.int (1 : Int32)), .val (.int (0 : Int32)), .val (.double zz), .second] [(.double v74), (.double FP.dconst0)]))
  have d75 : DS 0 0 (FP.dadd FP.dconst0 v74) := DS.addc dc_0 d74 (by omega) (by omega) (by decide)
  refine Dn.st (fun _ kk => XS.daddS X0.here hx rfl (hb hby d2_75) rfl d75.nn rfl (kk)) ?_
  show Dn p e below s _ _ _ (s₁.setTop (mkF m 76 #[.val (.ref a), .val (.double v27), .second, .val (.double v39), .second, .val (.double FP.dconst0), .second, .val (.ref a), .val (.int (1 : Int32)), .val (.int (0 : Int32)), .val (.double zz), .second] [(.double (FP.dadd FP.dconst0 v74))]))
  generalize hv75 : ((FP.dadd FP.dconst0 v74) : UInt64) = v75 at d75 ⊢
  show Dn p e below s _ _ _ (s₁.setTop (mkF m 76 #[.val (.ref a), .val (.double v27), .second, .val (.double v39), .second, .val (.double FP.dconst0), .second, .val (.ref a), .val (.int (1 : Int32)), .val (.int (0 : Int32)), .val (.double zz), .second] [(.double v75)]))
  refine Dn.st (fun _ kk => XS.dstore X0.here hx rfl (hb hby d2_76) rfl (l' := #[.val (.ref a), .val (.double v27), .second, .val (.double v39), .second, .val (.double v75), .second, .val (.ref a), .val (.int (1 : Int32)), .val (.int (0 : Int32)), .val (.double zz), .second]) rfl (XS.iinc X0.here hx rfl (hb hby d2_78) rfl (l' := #[.val (.ref a), .val (.double v27), .second, .val (.double v39), .second, .val (.double v75), .second, .val (.ref a), .val (.int (1 : Int32)), .val (.int (1 : Int32)), .val (.double zz), .second]) rfl (XS.goto X0.here hx rfl (pc0 := 81) (pc' := 55) rfl (hb hby d2_81) (by decide) (by decide) (XS.iload X0.here hx rfl (hb hby d2_55) rfl  (XS.iload X0.here hx rfl (hb hby d2_57) rfl  (kk)))))) ?_
  show Dn p e below s _ _ _ (s₁.setTop (mkF m 59 #[.val (.ref a), .val (.double v27), .second, .val (.double v39), .second, .val (.double v75), .second, .val (.ref a), .val (.int (1 : Int32)), .val (.int (1 : Int32)), .val (.double zz), .second] [(.int (1 : Int32)), (.int (1 : Int32))]))
  have hc59_2 : ¬ ((1 : Int32) < (1 : Int32)) := by decide
  refine Dn.st (fun _ kk => XS.icmpYes X0.here hx rfl (pc0 := 59) (pc' := 84) rfl (hb hby d2_59) rfl (flt hc59_2).2.1 (by decide) (by decide) (XS.dloadN X0.here hx rfl (hb hby d2_84) rfl  (XS.dload X0.here hx rfl (hb hby d2_85) rfl  (XS.aloadN X0.here hx rfl (hb hby d2_87) rfl rfl (kk))))) ?_
  show Dn p e below s _ _ _ (s₁.setTop (mkF m 88 #[.val (.ref a), .val (.double v27), .second, .val (.double v39), .second, .val (.double v75), .second, .val (.ref a), .val (.int (1 : Int32)), .val (.int (1 : Int32)), .val (.double zz), .second] [(.ref a), (.double v75), (.double v39)]))
  have Vc_a_88 := Va
  obtain ⟨cl_a_88, Ar_a_88, q_a_88, S_a_88, N_a_88, H_a_88, G_a_88⟩ := Vc_a_88
  refine Dn.st (fun _ kk => X0.arraylength hx (by rw [e0]; exact Ar_a_88.1) (State.isArrayOf_alike hZ.alike Ar_a_88.2.1) (g := (mkF m 88 #[.val (.ref a), .val (.double v27), .second, .val (.double v39), .second, .val (.double v75), .second, .val (.ref a), .val (.int (1 : Int32)), .val (.int (1 : Int32)), .val (.double zz), .second] [(.ref a), (.double v75), (.double v39)])) rfl rfl (hb hby d2_88) _ (kk)) ?_
  show Dn p e below s _ _ _ (s₁.setTop (mkF m 89 #[.val (.ref a), .val (.double v27), .second, .val (.double v39), .second, .val (.double v75), .second, .val (.ref a), .val (.int (1 : Int32)), .val (.int (1 : Int32)), .val (.double zz), .second] [(.int cl_a_88.slots.size.toInt32), (.double v75), (.double v39)]))
  rw [len_of S_a_88 N_a_88]
  show Dn p e below s _ _ _ (s₁.setTop (mkF m 89 #[.val (.ref a), .val (.double v27), .second, .val (.double v39), .second, .val (.double v75), .second, .val (.ref a), .val (.int (1 : Int32)), .val (.int (1 : Int32)), .val (.double zz), .second] [(.int (1 : Int32)), (.double v75), (.double v39)]))
  have d89 := DS.i2d (1 : Int32)
  refine Dn.st (fun _ kk => XS.i2dS X0.here hx rfl (hb hby d2_89) rfl rfl (kk)) ?_
  show Dn p e below s _ _ _ (s₁.setTop (mkF m 90 #[.val (.ref a), .val (.double v27), .second, .val (.double v39), .second, .val (.double v75), .second, .val (.ref a), .val (.int (1 : Int32)), .val (.int (1 : Int32)), .val (.double zz), .second] [(.double (FP.i2d (1 : Int32))), (.double v75), (.double v39)]))
  generalize hv89 : ((FP.i2d (1 : Int32)) : UInt64) = v89 at d89 ⊢
  show Dn p e below s _ _ _ (s₁.setTop (mkF m 90 #[.val (.ref a), .val (.double v27), .second, .val (.double v39), .second, .val (.double v75), .second, .val (.ref a), .val (.int (1 : Int32)), .val (.int (1 : Int32)), .val (.double zz), .second] [(.double v89), (.double v75), (.double v39)]))
  have d90 : DS 0 0 (FP.ddiv v75 v89) := DS.div (n := 0) (Q := 0) d75 (DS.cast (i' := 1) d89 rfl (by decide)) (by decide) (by decide) (by decide) (by decide)
  refine Dn.st (fun _ kk => XS.ddivS X0.here hx rfl (hb hby d2_90) rfl d90.nn rfl (kk)) ?_
  show Dn p e below s _ _ _ (s₁.setTop (mkF m 91 #[.val (.ref a), .val (.double v27), .second, .val (.double v39), .second, .val (.double v75), .second, .val (.ref a), .val (.int (1 : Int32)), .val (.int (1 : Int32)), .val (.double zz), .second] [(.double (FP.ddiv v75 v89)), (.double v39)]))
  generalize hv90 : ((FP.ddiv v75 v89) : UInt64) = v90 at d90 ⊢
  show Dn p e below s _ _ _ (s₁.setTop (mkF m 91 #[.val (.ref a), .val (.double v27), .second, .val (.double v39), .second, .val (.double v75), .second, .val (.ref a), .val (.int (1 : Int32)), .val (.int (1 : Int32)), .val (.double zz), .second] [(.double v90), (.double v39)]))
  have d91 : DS 0 kq (FP.dadd v39 v90) := DS.addc d39 d90 (by omega) (by omega) (by decide)
  refine Dn.st (fun _ kk => XS.daddS X0.here hx rfl (hb hby d2_91) rfl d91.nn rfl (kk)) ?_
  show Dn p e below s _ _ _ (s₁.setTop (mkF m 92 #[.val (.ref a), .val (.double v27), .second, .val (.double v39), .second, .val (.double v75), .second, .val (.ref a), .val (.int (1 : Int32)), .val (.int (1 : Int32)), .val (.double zz), .second] [(.double (FP.dadd v39 v90))]))
  generalize hv91 : ((FP.dadd v39 v90) : UInt64) = v91 at d91 ⊢
  show Dn p e below s _ _ _ (s₁.setTop (mkF m 92 #[.val (.ref a), .val (.double v27), .second, .val (.double v39), .second, .val (.double v75), .second, .val (.ref a), .val (.int (1 : Int32)), .val (.int (1 : Int32)), .val (.double zz), .second] [(.double v91)]))
  exact Dn.ret X0 hlk hx hret rfl (Or.inr (Or.inr (Or.inl ⟨rfl, rfl, _, rfl⟩))) (hb hby d2_92) (by rw [e0]; exact ⟨_, rfl, d91, N0, rfl⟩) (by decide) (by decide)

theorem ef2_rm2S_2 (m : MethodId) (x0 : Addr) : entryFrame m #[(.ref x0)] 12 = mkF m 0 #[.val (.ref x0), .unset, .unset, .unset, .unset, .unset, .unset, .unset, .unset, .unset, .unset, .unset] [] := by first | (simp [entryFrame, mkF, argsToLocals, Value.category]; done) | rfl
def Q2S_2 (Z : State) (a : Addr) (ka : ClassId) (zz : UInt64) (kq : Int) (h0 : Heap) (n0 : Nat) (v : Option Value) (h : Heap) (L : List Loc) : Prop := ∃ z, v = some (.double z) ∧ DS 0 kq z ∧ Fr n0 L ∧ h = h0
set_option maxRecDepth 65536 in
set_option maxHeartbeats 40000000 in
theorem rm2S_2 (l : Launch) (Z : State) (a0 : Array Value) (hw : ∀ d ∈ tables_1, d.before a0 Z = true) (ws : List Jvm.Cond) (a : Addr) (ka : ClassId) (zz : UInt64) (kq : Int) (h0 : Heap) (n0 : Nat) (Z0 : n0 ≤ h0.size) (Va : Arv Z h0 a ka .double 2 [(.double zz), (.double zz)] (.double 0)) (d_zz : DS 0 kq zz) (hkb : -2251799813685248 ≤ kq ∧ kq ≤ 2251799813685248) :
    MetFree l (⟨"com/example/listino/listino/stats/Moments", "mean", "([D)D"⟩ : MethodName) (head1 (Jvm.Cond.code (⟨"com/example/listino/listino/stats/Moments", "mean", "([D)D"⟩ : MethodName) prog_51_method_2_code 12 (some .double) :: ws) ({ frames := 0, cells := 0, slots := 0, locals := 0 } : Room)) (fun aa UU => aa = #[(.ref a)] ∧ Z.Warmed39 UU.vm ∧ UU.heap = h0) (fun _ _ _ _ _ => True) (fun _ UU oo UU' => ∃ vv LL, oo = .returned vv ∧ Q2S_2 Z a ka zz kq h0 n0 vv UU'.heap LL ∧ FrameEnd UU oo UU' LL ({ frames := 0, cells := 0, slots := 0, locals := 0 } : Room).cells ({ frames := 0, cells := 0, slots := 0, locals := 0 } : Room).slots) := by
  refine MetFree.of_bodySF (plainFor_of_name pn1) hisR ?_
  intro p e s m args below meth c s₁ Bd hml0 hP hK
  obtain ⟨rfl, hZ, hh⟩ := hP
  have hx := Bd.exec
  have hby := Bd.bytes
  have hlk : meth.locks = false := BodyLoose.notSynchronized Bd
  have hret := Bd.returns
  have hml : c.maxLocals = 12 := hml0
  have hown : s.vm.findClass "com/example/listino/listino/stats/Moments" = some m.cls := findClass_of_methodNamed Bd.named
  have hnm := (name_of_methodNamed Bd.named Bd.method).1
  have X0 : Stand p l e ({ frames := 0, cells := 0, slots := 0, locals := 0 } : Room) s m #[(.ref a)] below meth c s₁ [] 0 0 := Stand.of_body Bd
  have e0 : s₁.heap = h0 := by rw [← hh, Bd.state]; rfl
  have N0 := Fr.nil n0
  show Dn p e below s (Q2S_2 Z a ka zz kq h0 n0) ({ frames := 0, cells := 0, slots := 0, locals := 0 } : Room).cells ({ frames := 0, cells := 0, slots := 0, locals := 0 } : Room).slots (s₁.setTop (entryFrame m #[(.ref a)] 12))
  refine Dn.st (fun _ kk => castTop (ef2_rm2S_2 m a) kk) ?_
  show Dn p e below s _ _ _ (s₁.setTop (mkF m 0 #[.val (.ref a), .unset, .unset, .unset, .unset, .unset, .unset, .unset, .unset, .unset, .unset, .unset] []))
  refine Dn.st (fun _ kk => XS.dconst0 X0.here hx rfl (hb hby d2_0) rfl (XS.dstoreN X0.here hx rfl (hb hby d2_1) rfl (l' := #[.val (.ref a), .val (.double FP.dconst0), .second, .unset, .unset, .unset, .unset, .unset, .unset, .unset, .unset, .unset]) rfl (XS.aloadN X0.here hx rfl (hb hby d2_2) rfl rfl (XS.astoreN X0.here hx rfl (hb hby d2_3) rfl rfl (l' := #[.val (.ref a), .val (.double FP.dconst0), .second, .val (.ref a), .unset, .unset, .unset, .unset, .unset, .unset, .unset, .unset]) rfl (XS.aloadN X0.here hx rfl (hb hby d2_4) rfl rfl (kk)))))) ?_
  show Dn p e below s _ _ _ (s₁.setTop (mkF m 5 #[.val (.ref a), .val (.double FP.dconst0), .second, .val (.ref a), .unset, .unset, .unset, .unset, .unset, .unset, .unset, .unset] [(.ref a)]))
  have Vc_a_5 := Va
  obtain ⟨cl_a_5, Ar_a_5, q_a_5, S_a_5, N_a_5, H_a_5, G_a_5⟩ := Vc_a_5
  refine Dn.st (fun _ kk => X0.arraylength hx (by rw [e0]; exact Ar_a_5.1) (State.isArrayOf_alike hZ.alike Ar_a_5.2.1) (g := (mkF m 5 #[.val (.ref a), .val (.double FP.dconst0), .second, .val (.ref a), .unset, .unset, .unset, .unset, .unset, .unset, .unset, .unset] [(.ref a)])) rfl rfl (hb hby d2_5) _ (kk)) ?_
  show Dn p e below s _ _ _ (s₁.setTop (mkF m 6 #[.val (.ref a), .val (.double FP.dconst0), .second, .val (.ref a), .unset, .unset, .unset, .unset, .unset, .unset, .unset, .unset] [(.int cl_a_5.slots.size.toInt32)]))
  rw [len_of S_a_5 N_a_5]
  show Dn p e below s _ _ _ (s₁.setTop (mkF m 6 #[.val (.ref a), .val (.double FP.dconst0), .second, .val (.ref a), .unset, .unset, .unset, .unset, .unset, .unset, .unset, .unset] [(.int (2 : Int32))]))
  refine Dn.st (fun _ kk => XS.istore X0.here hx rfl (hb hby d2_6) rfl (l' := #[.val (.ref a), .val (.double FP.dconst0), .second, .val (.ref a), .val (.int (2 : Int32)), .unset, .unset, .unset, .unset, .unset, .unset, .unset]) rfl (XS.iconst X0.here hx rfl (hb hby d2_8) (XS.istore X0.here hx rfl (hb hby d2_9) rfl (l' := #[.val (.ref a), .val (.double FP.dconst0), .second, .val (.ref a), .val (.int (2 : Int32)), .val (.int (0 : Int32)), .unset, .unset, .unset, .unset, .unset, .unset]) rfl (XS.iload X0.here hx rfl (hb hby d2_11) rfl  (XS.iload X0.here hx rfl (hb hby d2_13) rfl  (kk)))))) ?_
  show Dn p e below s _ _ _ (s₁.setTop (mkF m 15 #[.val (.ref a), .val (.double FP.dconst0), .second, .val (.ref a), .val (.int (2 : Int32)), .val (.int (0 : Int32)), .unset, .unset, .unset, .unset, .unset, .unset] [(.int (2 : Int32)), (.int (0 : Int32))]))
  have hc15 : (0 : Int32) < (2 : Int32) := by decide
  refine Dn.st (fun _ kk => XS.icmpNo X0.here hx rfl (hb hby d2_15) rfl (tlt hc15).2.1 (XS.aloadN X0.here hx rfl (hb hby d2_18) rfl rfl (XS.iload X0.here hx rfl (hb hby d2_19) rfl  (kk)))) ?_
  show Dn p e below s _ _ _ (s₁.setTop (mkF m 21 #[.val (.ref a), .val (.double FP.dconst0), .second, .val (.ref a), .val (.int (2 : Int32)), .val (.int (0 : Int32)), .unset, .unset, .unset, .unset, .unset, .unset] [(.int (0 : Int32)), (.ref a)]))
  have Vc_a_21 := Va
  obtain ⟨cl_a_21, Ar_a_21, q_a_21, S_a_21, N_a_21, H_a_21, G_a_21⟩ := Vc_a_21
  have hin21 : ¬ ((0 : Int32) < 0 ∨ cl_a_21.slots.size ≤ ((0 : Int32)).toNatClampNeg) := inb_of S_a_21 ⟨by decide, by decide⟩
  have hat21 : cl_a_21.slots[((0 : Int32)).toNatClampNeg]? = some (.double zz) := H_a_21.at hin21 rfl
  refine Dn.st (fun _ kk => X0.daload hx (j := (0 : Int32)) (v := (.double zz)) (by rw [e0]; exact Ar_a_21.1) (State.isArrayOf_alike hZ.alike Ar_a_21.2.1) Ar_a_21.2.2 hin21 hat21 (g := (mkF m 21 #[.val (.ref a), .val (.double FP.dconst0), .second, .val (.ref a), .val (.int (2 : Int32)), .val (.int (0 : Int32)), .unset, .unset, .unset, .unset, .unset, .unset] [(.int (0 : Int32)), (.ref a)])) rfl rfl (hb hby d2_21) _ (XS.dstore X0.here hx rfl (hb hby d2_22) rfl (l' := #[.val (.ref a), .val (.double FP.dconst0), .second, .val (.ref a), .val (.int (2 : Int32)), .val (.int (0 : Int32)), .val (.double zz), .second, .unset, .unset, .unset, .unset]) rfl (XS.dloadN X0.here hx rfl (hb hby d2_24) rfl  (XS.dload X0.here hx rfl (hb hby d2_25) rfl  (kk))))) ?_
  show Dn p e below s _ _ _ (s₁.setTop (mkF m 27 #[.val (.ref a), .val (.double FP.dconst0), .second, .val (.ref a), .val (.int (2 : Int32)), .val (.int (0 : Int32)), .val (.double zz), .second, .unset, .unset, .unset, .unset] [(.double zz), (.double FP.dconst0)]))
  have d27 : DS 0 (0 + kq) (FP.dadd FP.dconst0 zz) := DS.add dc_0 d_zz (by omega) (by decide)
  refine Dn.st (fun _ kk => XS.daddS X0.here hx rfl (hb hby d2_27) rfl d27.nn rfl (kk)) ?_
  show Dn p e below s _ _ _ (s₁.setTop (mkF m 28 #[.val (.ref a), .val (.double FP.dconst0), .second, .val (.ref a), .val (.int (2 : Int32)), .val (.int (0 : Int32)), .val (.double zz), .second, .unset, .unset, .unset, .unset] [(.double (FP.dadd FP.dconst0 zz))]))
  generalize hv27 : ((FP.dadd FP.dconst0 zz) : UInt64) = v27 at d27 ⊢
  show Dn p e below s _ _ _ (s₁.setTop (mkF m 28 #[.val (.ref a), .val (.double FP.dconst0), .second, .val (.ref a), .val (.int (2 : Int32)), .val (.int (0 : Int32)), .val (.double zz), .second, .unset, .unset, .unset, .unset] [(.double v27)]))
  refine Dn.st (fun _ kk => XS.dstoreN X0.here hx rfl (hb hby d2_28) rfl (l' := #[.val (.ref a), .val (.double v27), .second, .val (.ref a), .val (.int (2 : Int32)), .val (.int (0 : Int32)), .val (.double zz), .second, .unset, .unset, .unset, .unset]) rfl (XS.iinc X0.here hx rfl (hb hby d2_29) rfl (l' := #[.val (.ref a), .val (.double v27), .second, .val (.ref a), .val (.int (2 : Int32)), .val (.int (1 : Int32)), .val (.double zz), .second, .unset, .unset, .unset, .unset]) rfl (XS.goto X0.here hx rfl (pc0 := 32) (pc' := 11) rfl (hb hby d2_32) (by decide) (by decide) (XS.iload X0.here hx rfl (hb hby d2_11) rfl  (XS.iload X0.here hx rfl (hb hby d2_13) rfl  (kk)))))) ?_
  show Dn p e below s _ _ _ (s₁.setTop (mkF m 15 #[.val (.ref a), .val (.double v27), .second, .val (.ref a), .val (.int (2 : Int32)), .val (.int (1 : Int32)), .val (.double zz), .second, .unset, .unset, .unset, .unset] [(.int (2 : Int32)), (.int (1 : Int32))]))
  have hc15_2 : (1 : Int32) < (2 : Int32) := by decide
  refine Dn.st (fun _ kk => XS.icmpNo X0.here hx rfl (hb hby d2_15) rfl (tlt hc15_2).2.1 (XS.aloadN X0.here hx rfl (hb hby d2_18) rfl rfl (XS.iload X0.here hx rfl (hb hby d2_19) rfl  (kk)))) ?_
  show Dn p e below s _ _ _ (s₁.setTop (mkF m 21 #[.val (.ref a), .val (.double v27), .second, .val (.ref a), .val (.int (2 : Int32)), .val (.int (1 : Int32)), .val (.double zz), .second, .unset, .unset, .unset, .unset] [(.int (1 : Int32)), (.ref a)]))
  have Vc_a_21_2 := Va
  obtain ⟨cl_a_21_2, Ar_a_21_2, q_a_21_2, S_a_21_2, N_a_21_2, H_a_21_2, G_a_21_2⟩ := Vc_a_21_2
  have hin21_2 : ¬ ((1 : Int32) < 0 ∨ cl_a_21_2.slots.size ≤ ((1 : Int32)).toNatClampNeg) := inb_of S_a_21_2 ⟨by decide, by decide⟩
  have hat21_2 : cl_a_21_2.slots[((1 : Int32)).toNatClampNeg]? = some (.double zz) := H_a_21_2.at hin21_2 rfl
  refine Dn.st (fun _ kk => X0.daload hx (j := (1 : Int32)) (v := (.double zz)) (by rw [e0]; exact Ar_a_21_2.1) (State.isArrayOf_alike hZ.alike Ar_a_21_2.2.1) Ar_a_21_2.2.2 hin21_2 hat21_2 (g := (mkF m 21 #[.val (.ref a), .val (.double v27), .second, .val (.ref a), .val (.int (2 : Int32)), .val (.int (1 : Int32)), .val (.double zz), .second, .unset, .unset, .unset, .unset] [(.int (1 : Int32)), (.ref a)])) rfl rfl (hb hby d2_21) _ (XS.dstore X0.here hx rfl (hb hby d2_22) rfl (l' := #[.val (.ref a), .val (.double v27), .second, .val (.ref a), .val (.int (2 : Int32)), .val (.int (1 : Int32)), .val (.double zz), .second, .unset, .unset, .unset, .unset]) rfl (XS.dloadN X0.here hx rfl (hb hby d2_24) rfl  (XS.dload X0.here hx rfl (hb hby d2_25) rfl  (kk))))) ?_
  show Dn p e below s _ _ _ (s₁.setTop (mkF m 27 #[.val (.ref a), .val (.double v27), .second, .val (.ref a), .val (.int (2 : Int32)), .val (.int (1 : Int32)), .val (.double zz), .second, .unset, .unset, .unset, .unset] [(.double zz), (.double v27)]))
  have d27_2 : DS 0 ((0 + kq) + kq) (FP.dadd v27 zz) := DS.add d27 d_zz (by omega) (by decide)
  refine Dn.st (fun _ kk => XS.daddS X0.here hx rfl (hb hby d2_27) rfl d27_2.nn rfl (kk)) ?_
  show Dn p e below s _ _ _ (s₁.setTop (mkF m 28 #[.val (.ref a), .val (.double v27), .second, .val (.ref a), .val (.int (2 : Int32)), .val (.int (1 : Int32)), .val (.double zz), .second, .unset, .unset, .unset, .unset] [(.double (FP.dadd v27 zz))]))
  generalize hv27_2 : ((FP.dadd v27 zz) : UInt64) = v27_2 at d27_2 ⊢
  show Dn p e below s _ _ _ (s₁.setTop (mkF m 28 #[.val (.ref a), .val (.double v27), .second, .val (.ref a), .val (.int (2 : Int32)), .val (.int (1 : Int32)), .val (.double zz), .second, .unset, .unset, .unset, .unset] [(.double v27_2)]))
  refine Dn.st (fun _ kk => XS.dstoreN X0.here hx rfl (hb hby d2_28) rfl (l' := #[.val (.ref a), .val (.double v27_2), .second, .val (.ref a), .val (.int (2 : Int32)), .val (.int (1 : Int32)), .val (.double zz), .second, .unset, .unset, .unset, .unset]) rfl (XS.iinc X0.here hx rfl (hb hby d2_29) rfl (l' := #[.val (.ref a), .val (.double v27_2), .second, .val (.ref a), .val (.int (2 : Int32)), .val (.int (2 : Int32)), .val (.double zz), .second, .unset, .unset, .unset, .unset]) rfl (XS.goto X0.here hx rfl (pc0 := 32) (pc' := 11) rfl (hb hby d2_32) (by decide) (by decide) (XS.iload X0.here hx rfl (hb hby d2_11) rfl  (XS.iload X0.here hx rfl (hb hby d2_13) rfl  (kk)))))) ?_
  show Dn p e below s _ _ _ (s₁.setTop (mkF m 15 #[.val (.ref a), .val (.double v27_2), .second, .val (.ref a), .val (.int (2 : Int32)), .val (.int (2 : Int32)), .val (.double zz), .second, .unset, .unset, .unset, .unset] [(.int (2 : Int32)), (.int (2 : Int32))]))
  have hc15_3 : ¬ ((2 : Int32) < (2 : Int32)) := by decide
  refine Dn.st (fun _ kk => XS.icmpYes X0.here hx rfl (pc0 := 15) (pc' := 35) rfl (hb hby d2_15) rfl (flt hc15_3).2.1 (by decide) (by decide) (XS.dloadN X0.here hx rfl (hb hby d2_35) rfl  (XS.aloadN X0.here hx rfl (hb hby d2_36) rfl rfl (kk)))) ?_
  show Dn p e below s _ _ _ (s₁.setTop (mkF m 37 #[.val (.ref a), .val (.double v27_2), .second, .val (.ref a), .val (.int (2 : Int32)), .val (.int (2 : Int32)), .val (.double zz), .second, .unset, .unset, .unset, .unset] [(.ref a), (.double v27_2)]))
  have Vc_a_37 := Va
  obtain ⟨cl_a_37, Ar_a_37, q_a_37, S_a_37, N_a_37, H_a_37, G_a_37⟩ := Vc_a_37
  refine Dn.st (fun _ kk => X0.arraylength hx (by rw [e0]; exact Ar_a_37.1) (State.isArrayOf_alike hZ.alike Ar_a_37.2.1) (g := (mkF m 37 #[.val (.ref a), .val (.double v27_2), .second, .val (.ref a), .val (.int (2 : Int32)), .val (.int (2 : Int32)), .val (.double zz), .second, .unset, .unset, .unset, .unset] [(.ref a), (.double v27_2)])) rfl rfl (hb hby d2_37) _ (kk)) ?_
  show Dn p e below s _ _ _ (s₁.setTop (mkF m 38 #[.val (.ref a), .val (.double v27_2), .second, .val (.ref a), .val (.int (2 : Int32)), .val (.int (2 : Int32)), .val (.double zz), .second, .unset, .unset, .unset, .unset] [(.int cl_a_37.slots.size.toInt32), (.double v27_2)]))
  rw [len_of S_a_37 N_a_37]
  show Dn p e below s _ _ _ (s₁.setTop (mkF m 38 #[.val (.ref a), .val (.double v27_2), .second, .val (.ref a), .val (.int (2 : Int32)), .val (.int (2 : Int32)), .val (.double zz), .second, .unset, .unset, .unset, .unset] [(.int (2 : Int32)), (.double v27_2)]))
  have d38 := DS.i2d (2 : Int32)
  refine Dn.st (fun _ kk => XS.i2dS X0.here hx rfl (hb hby d2_38) rfl rfl (kk)) ?_
  show Dn p e below s _ _ _ (s₁.setTop (mkF m 39 #[.val (.ref a), .val (.double v27_2), .second, .val (.ref a), .val (.int (2 : Int32)), .val (.int (2 : Int32)), .val (.double zz), .second, .unset, .unset, .unset, .unset] [(.double (FP.i2d (2 : Int32))), (.double v27_2)]))
  generalize hv38 : ((FP.i2d (2 : Int32)) : UInt64) = v38 at d38 ⊢
  show Dn p e below s _ _ _ (s₁.setTop (mkF m 39 #[.val (.ref a), .val (.double v27_2), .second, .val (.ref a), .val (.int (2 : Int32)), .val (.int (2 : Int32)), .val (.double zz), .second, .unset, .unset, .unset, .unset] [(.double v38), (.double v27_2)]))
  have d39 : DS 0 kq (FP.ddiv v27_2 v38) := DS.div (n := 0) (Q := kq) d27_2 (DS.cast (i' := 2) d38 rfl (by decide)) (by decide) (by show _ * 1 = _ * 1; omega) (by omega) (by decide)
  refine Dn.st (fun _ kk => XS.ddivS X0.here hx rfl (hb hby d2_39) rfl d39.nn rfl (kk)) ?_
  show Dn p e below s _ _ _ (s₁.setTop (mkF m 40 #[.val (.ref a), .val (.double v27_2), .second, .val (.ref a), .val (.int (2 : Int32)), .val (.int (2 : Int32)), .val (.double zz), .second, .unset, .unset, .unset, .unset] [(.double (FP.ddiv v27_2 v38))]))
  generalize hv39 : ((FP.ddiv v27_2 v38) : UInt64) = v39 at d39 ⊢
  show Dn p e below s _ _ _ (s₁.setTop (mkF m 40 #[.val (.ref a), .val (.double v27_2), .second, .val (.ref a), .val (.int (2 : Int32)), .val (.int (2 : Int32)), .val (.double zz), .second, .unset, .unset, .unset, .unset] [(.double v39)]))
  refine Dn.st (fun _ kk => XS.dstoreN X0.here hx rfl (hb hby d2_40) rfl (l' := #[.val (.ref a), .val (.double v27_2), .second, .val (.double v39), .second, .val (.int (2 : Int32)), .val (.double zz), .second, .unset, .unset, .unset, .unset]) rfl (XS.dconst0 X0.here hx rfl (hb hby d2_41) rfl (XS.dstore X0.here hx rfl (hb hby d2_42) rfl (l' := #[.val (.ref a), .val (.double v27_2), .second, .val (.double v39), .second, .val (.double FP.dconst0), .second, .unset, .unset, .unset, .unset, .unset]) rfl (XS.aloadN X0.here hx rfl (hb hby d2_44) rfl rfl (XS.astore X0.here hx rfl (hb hby d2_45) rfl rfl (l' := #[.val (.ref a), .val (.double v27_2), .second, .val (.double v39), .second, .val (.double FP.dconst0), .second, .val (.ref a), .unset, .unset, .unset, .unset]) rfl (XS.aload X0.here hx rfl (hb hby d2_47) rfl rfl (kk))))))) ?_
  show Dn p e below s _ _ _ (s₁.setTop (mkF m 49 #[.val (.ref a), .val (.double v27_2), .second, .val (.double v39), .second, .val (.double FP.dconst0), .second, .val (.ref a), .unset, .unset, .unset, .unset] [(.ref a)]))
  have Vc_a_49 := Va
  obtain ⟨cl_a_49, Ar_a_49, q_a_49, S_a_49, N_a_49, H_a_49, G_a_49⟩ := Vc_a_49
  refine Dn.st (fun _ kk => X0.arraylength hx (by rw [e0]; exact Ar_a_49.1) (State.isArrayOf_alike hZ.alike Ar_a_49.2.1) (g := (mkF m 49 #[.val (.ref a), .val (.double v27_2), .second, .val (.double v39), .second, .val (.double FP.dconst0), .second, .val (.ref a), .unset, .unset, .unset, .unset] [(.ref a)])) rfl rfl (hb hby d2_49) _ (kk)) ?_
  show Dn p e below s _ _ _ (s₁.setTop (mkF m 50 #[.val (.ref a), .val (.double v27_2), .second, .val (.double v39), .second, .val (.double FP.dconst0), .second, .val (.ref a), .unset, .unset, .unset, .unset] [(.int cl_a_49.slots.size.toInt32)]))
  rw [len_of S_a_49 N_a_49]
  show Dn p e below s _ _ _ (s₁.setTop (mkF m 50 #[.val (.ref a), .val (.double v27_2), .second, .val (.double v39), .second, .val (.double FP.dconst0), .second, .val (.ref a), .unset, .unset, .unset, .unset] [(.int (2 : Int32))]))
  refine Dn.st (fun _ kk => XS.istore X0.here hx rfl (hb hby d2_50) rfl (l' := #[.val (.ref a), .val (.double v27_2), .second, .val (.double v39), .second, .val (.double FP.dconst0), .second, .val (.ref a), .val (.int (2 : Int32)), .unset, .unset, .unset]) rfl (XS.iconst X0.here hx rfl (hb hby d2_52) (XS.istore X0.here hx rfl (hb hby d2_53) rfl (l' := #[.val (.ref a), .val (.double v27_2), .second, .val (.double v39), .second, .val (.double FP.dconst0), .second, .val (.ref a), .val (.int (2 : Int32)), .val (.int (0 : Int32)), .unset, .unset]) rfl (XS.iload X0.here hx rfl (hb hby d2_55) rfl  (XS.iload X0.here hx rfl (hb hby d2_57) rfl  (kk)))))) ?_
  show Dn p e below s _ _ _ (s₁.setTop (mkF m 59 #[.val (.ref a), .val (.double v27_2), .second, .val (.double v39), .second, .val (.double FP.dconst0), .second, .val (.ref a), .val (.int (2 : Int32)), .val (.int (0 : Int32)), .unset, .unset] [(.int (2 : Int32)), (.int (0 : Int32))]))
  have hc59 : (0 : Int32) < (2 : Int32) := by decide
  refine Dn.st (fun _ kk => XS.icmpNo X0.here hx rfl (hb hby d2_59) rfl (tlt hc59).2.1 (XS.aload X0.here hx rfl (hb hby d2_62) rfl rfl (XS.iload X0.here hx rfl (hb hby d2_64) rfl  (kk)))) ?_
  show Dn p e below s _ _ _ (s₁.setTop (mkF m 66 #[.val (.ref a), .val (.double v27_2), .second, .val (.double v39), .second, .val (.double FP.dconst0), .second, .val (.ref a), .val (.int (2 : Int32)), .val (.int (0 : Int32)), .unset, .unset] [(.int (0 : Int32)), (.ref a)]))
  have Vc_a_66 := Va
  obtain ⟨cl_a_66, Ar_a_66, q_a_66, S_a_66, N_a_66, H_a_66, G_a_66⟩ := Vc_a_66
  have hin66 : ¬ ((0 : Int32) < 0 ∨ cl_a_66.slots.size ≤ ((0 : Int32)).toNatClampNeg) := inb_of S_a_66 ⟨by decide, by decide⟩
  have hat66 : cl_a_66.slots[((0 : Int32)).toNatClampNeg]? = some (.double zz) := H_a_66.at hin66 rfl
  refine Dn.st (fun _ kk => X0.daload hx (j := (0 : Int32)) (v := (.double zz)) (by rw [e0]; exact Ar_a_66.1) (State.isArrayOf_alike hZ.alike Ar_a_66.2.1) Ar_a_66.2.2 hin66 hat66 (g := (mkF m 66 #[.val (.ref a), .val (.double v27_2), .second, .val (.double v39), .second, .val (.double FP.dconst0), .second, .val (.ref a), .val (.int (2 : Int32)), .val (.int (0 : Int32)), .unset, .unset] [(.int (0 : Int32)), (.ref a)])) rfl rfl (hb hby d2_66) _ (XS.dstore X0.here hx rfl (hb hby d2_67) rfl (l' := #[.val (.ref a), .val (.double v27_2), .second, .val (.double v39), .second, .val (.double FP.dconst0), .second, .val (.ref a), .val (.int (2 : Int32)), .val (.int (0 : Int32)), .val (.double zz), .second]) rfl (XS.dload X0.here hx rfl (hb hby d2_69) rfl  (XS.dload X0.here hx rfl (hb hby d2_71) rfl  (XS.dloadN X0.here hx rfl (hb hby d2_73) rfl  (kk)))))) ?_
  show Dn p e below s _ _ _ (s₁.setTop (mkF m 74 #[.val (.ref a), .val (.double v27_2), .second, .val (.double v39), .second, .val (.double FP.dconst0), .second, .val (.ref a), .val (.int (2 : Int32)), .val (.int (0 : Int32)), .val (.double zz), .second] [(.double v39), (.double zz), (.double FP.dconst0)]))
  have d74 : DS 0 0 (FP.dsub zz v39) := DS.subc d_zz d39 (by omega) (by omega) (by decide)
  refine Dn.st (fun _ kk => XS.dsubS X0.here hx rfl (hb hby d2_74) rfl d74.nn rfl (kk)) ?_
  show Dn p e below s _ _ _ (s₁.setTop (mkF m 75 #[.val (.ref a), .val (.double v27_2), .second, .val (.double v39), .second, .val (.double FP.dconst0), .second, .val (.ref a), .val (.int (2 : Int32)), .val (.int (0 : Int32)), .val (.double zz), .second] [(.double (FP.dsub zz v39)), (.double FP.dconst0)]))
  generalize hv74 : ((FP.dsub zz v39) : UInt64) = v74 at d74 ⊢
  show Dn p e below s _ _ _ (s₁.setTop (mkF m 75 #[.val (.ref a), .val (.double v27_2), .second, .val (.double v39), .second, .val (.double FP.dconst0), .second, .val (.ref a), .val (.int (2 : Int32)), .val (.int (0 : Int32)), .val (.double zz), .second] [(.double v74), (.double FP.dconst0)]))
  have d75 : DS 0 0 (FP.dadd FP.dconst0 v74) := DS.addc dc_0 d74 (by omega) (by omega) (by decide)
  refine Dn.st (fun _ kk => XS.daddS X0.here hx rfl (hb hby d2_75) rfl d75.nn rfl (kk)) ?_
  show Dn p e below s _ _ _ (s₁.setTop (mkF m 76 #[.val (.ref a), .val (.double v27_2), .second, .val (.double v39), .second, .val (.double FP.dconst0), .second, .val (.ref a), .val (.int (2 : Int32)), .val (.int (0 : Int32)), .val (.double zz), .second] [(.double (FP.dadd FP.dconst0 v74))]))
  generalize hv75 : ((FP.dadd FP.dconst0 v74) : UInt64) = v75 at d75 ⊢
  show Dn p e below s _ _ _ (s₁.setTop (mkF m 76 #[.val (.ref a), .val (.double v27_2), .second, .val (.double v39), .second, .val (.double FP.dconst0), .second, .val (.ref a), .val (.int (2 : Int32)), .val (.int (0 : Int32)), .val (.double zz), .second] [(.double v75)]))
  refine Dn.st (fun _ kk => XS.dstore X0.here hx rfl (hb hby d2_76) rfl (l' := #[.val (.ref a), .val (.double v27_2), .second, .val (.double v39), .second, .val (.double v75), .second, .val (.ref a), .val (.int (2 : Int32)), .val (.int (0 : Int32)), .val (.double zz), .second]) rfl (XS.iinc X0.here hx rfl (hb hby d2_78) rfl (l' := #[.val (.ref a), .val (.double v27_2), .second, .val (.double v39), .second, .val (.double v75), .second, .val (.ref a), .val (.int (2 : Int32)), .val (.int (1 : Int32)), .val (.double zz), .second]) rfl (XS.goto X0.here hx rfl (pc0 := 81) (pc' := 55) rfl (hb hby d2_81) (by decide) (by decide) (XS.iload X0.here hx rfl (hb hby d2_55) rfl  (XS.iload X0.here hx rfl (hb hby d2_57) rfl  (kk)))))) ?_
  show Dn p e below s _ _ _ (s₁.setTop (mkF m 59 #[.val (.ref a), .val (.double v27_2), .second, .val (.double v39), .second, .val (.double v75), .second, .val (.ref a), .val (.int (2 : Int32)), .val (.int (1 : Int32)), .val (.double zz), .second] [(.int (2 : Int32)), (.int (1 : Int32))]))
  have hc59_2 : (1 : Int32) < (2 : Int32) := by decide
  refine Dn.st (fun _ kk => XS.icmpNo X0.here hx rfl (hb hby d2_59) rfl (tlt hc59_2).2.1 (XS.aload X0.here hx rfl (hb hby d2_62) rfl rfl (XS.iload X0.here hx rfl (hb hby d2_64) rfl  (kk)))) ?_
  show Dn p e below s _ _ _ (s₁.setTop (mkF m 66 #[.val (.ref a), .val (.double v27_2), .second, .val (.double v39), .second, .val (.double v75), .second, .val (.ref a), .val (.int (2 : Int32)), .val (.int (1 : Int32)), .val (.double zz), .second] [(.int (1 : Int32)), (.ref a)]))
  have Vc_a_66_2 := Va
  obtain ⟨cl_a_66_2, Ar_a_66_2, q_a_66_2, S_a_66_2, N_a_66_2, H_a_66_2, G_a_66_2⟩ := Vc_a_66_2
  have hin66_2 : ¬ ((1 : Int32) < 0 ∨ cl_a_66_2.slots.size ≤ ((1 : Int32)).toNatClampNeg) := inb_of S_a_66_2 ⟨by decide, by decide⟩
  have hat66_2 : cl_a_66_2.slots[((1 : Int32)).toNatClampNeg]? = some (.double zz) := H_a_66_2.at hin66_2 rfl
  refine Dn.st (fun _ kk => X0.daload hx (j := (1 : Int32)) (v := (.double zz)) (by rw [e0]; exact Ar_a_66_2.1) (State.isArrayOf_alike hZ.alike Ar_a_66_2.2.1) Ar_a_66_2.2.2 hin66_2 hat66_2 (g := (mkF m 66 #[.val (.ref a), .val (.double v27_2), .second, .val (.double v39), .second, .val (.double v75), .second, .val (.ref a), .val (.int (2 : Int32)), .val (.int (1 : Int32)), .val (.double zz), .second] [(.int (1 : Int32)), (.ref a)])) rfl rfl (hb hby d2_66) _ (XS.dstore X0.here hx rfl (hb hby d2_67) rfl (l' := #[.val (.ref a), .val (.double v27_2), .second, .val (.double v39), .second, .val (.double v75), .second, .val (.ref a), .val (.int (2 : Int32)), .val (.int (1 : Int32)), .val (.double zz), .second]) rfl (XS.dload X0.here hx rfl (hb hby d2_69) rfl  (XS.dload X0.here hx rfl (hb hby d2_71) rfl  (XS.dloadN X0.here hx rfl (hb hby d2_73) rfl  (kk)))))) ?_
  show Dn p e below s _ _ _ (s₁.setTop (mkF m 74 #[.val (.ref a), .val (.double v27_2), .second, .val (.double v39), .second, .val (.double v75), .second, .val (.ref a), .val (.int (2 : Int32)), .val (.int (1 : Int32)), .val (.double zz), .second] [(.double v39), (.double zz), (.double v75)]))
  have d74_2 : DS 0 0 (FP.dsub zz v39) := DS.subc d_zz d39 (by omega) (by omega) (by decide)
  refine Dn.st (fun _ kk => XS.dsubS X0.here hx rfl (hb hby d2_74) rfl d74_2.nn rfl (kk)) ?_
  show Dn p e below s _ _ _ (s₁.setTop (mkF m 75 #[.val (.ref a), .val (.double v27_2), .second, .val (.double v39), .second, .val (.double v75), .second, .val (.ref a), .val (.int (2 : Int32)), .val (.int (1 : Int32)), .val (.double zz), .second] [(.double (FP.dsub zz v39)), (.double v75)]))
  generalize hv74_2 : ((FP.dsub zz v39) : UInt64) = v74_2 at d74_2 ⊢
  show Dn p e below s _ _ _ (s₁.setTop (mkF m 75 #[.val (.ref a), .val (.double v27_2), .second, .val (.double v39), .second, .val (.double v75), .second, .val (.ref a), .val (.int (2 : Int32)), .val (.int (1 : Int32)), .val (.double zz), .second] [(.double v74_2), (.double v75)]))
  have d75_2 : DS 0 0 (FP.dadd v75 v74_2) := DS.addc d75 d74_2 (by omega) (by omega) (by decide)
  refine Dn.st (fun _ kk => XS.daddS X0.here hx rfl (hb hby d2_75) rfl d75_2.nn rfl (kk)) ?_
  show Dn p e below s _ _ _ (s₁.setTop (mkF m 76 #[.val (.ref a), .val (.double v27_2), .second, .val (.double v39), .second, .val (.double v75), .second, .val (.ref a), .val (.int (2 : Int32)), .val (.int (1 : Int32)), .val (.double zz), .second] [(.double (FP.dadd v75 v74_2))]))
  generalize hv75_2 : ((FP.dadd v75 v74_2) : UInt64) = v75_2 at d75_2 ⊢
  show Dn p e below s _ _ _ (s₁.setTop (mkF m 76 #[.val (.ref a), .val (.double v27_2), .second, .val (.double v39), .second, .val (.double v75), .second, .val (.ref a), .val (.int (2 : Int32)), .val (.int (1 : Int32)), .val (.double zz), .second] [(.double v75_2)]))
  refine Dn.st (fun _ kk => XS.dstore X0.here hx rfl (hb hby d2_76) rfl (l' := #[.val (.ref a), .val (.double v27_2), .second, .val (.double v39), .second, .val (.double v75_2), .second, .val (.ref a), .val (.int (2 : Int32)), .val (.int (1 : Int32)), .val (.double zz), .second]) rfl (XS.iinc X0.here hx rfl (hb hby d2_78) rfl (l' := #[.val (.ref a), .val (.double v27_2), .second, .val (.double v39), .second, .val (.double v75_2), .second, .val (.ref a), .val (.int (2 : Int32)), .val (.int (2 : Int32)), .val (.double zz), .second]) rfl (XS.goto X0.here hx rfl (pc0 := 81) (pc' := 55) rfl (hb hby d2_81) (by decide) (by decide) (XS.iload X0.here hx rfl (hb hby d2_55) rfl  (XS.iload X0.here hx rfl (hb hby d2_57) rfl  (kk)))))) ?_
  show Dn p e below s _ _ _ (s₁.setTop (mkF m 59 #[.val (.ref a), .val (.double v27_2), .second, .val (.double v39), .second, .val (.double v75_2), .second, .val (.ref a), .val (.int (2 : Int32)), .val (.int (2 : Int32)), .val (.double zz), .second] [(.int (2 : Int32)), (.int (2 : Int32))]))
  have hc59_3 : ¬ ((2 : Int32) < (2 : Int32)) := by decide
  refine Dn.st (fun _ kk => XS.icmpYes X0.here hx rfl (pc0 := 59) (pc' := 84) rfl (hb hby d2_59) rfl (flt hc59_3).2.1 (by decide) (by decide) (XS.dloadN X0.here hx rfl (hb hby d2_84) rfl  (XS.dload X0.here hx rfl (hb hby d2_85) rfl  (XS.aloadN X0.here hx rfl (hb hby d2_87) rfl rfl (kk))))) ?_
  show Dn p e below s _ _ _ (s₁.setTop (mkF m 88 #[.val (.ref a), .val (.double v27_2), .second, .val (.double v39), .second, .val (.double v75_2), .second, .val (.ref a), .val (.int (2 : Int32)), .val (.int (2 : Int32)), .val (.double zz), .second] [(.ref a), (.double v75_2), (.double v39)]))
  have Vc_a_88 := Va
  obtain ⟨cl_a_88, Ar_a_88, q_a_88, S_a_88, N_a_88, H_a_88, G_a_88⟩ := Vc_a_88
  refine Dn.st (fun _ kk => X0.arraylength hx (by rw [e0]; exact Ar_a_88.1) (State.isArrayOf_alike hZ.alike Ar_a_88.2.1) (g := (mkF m 88 #[.val (.ref a), .val (.double v27_2), .second, .val (.double v39), .second, .val (.double v75_2), .second, .val (.ref a), .val (.int (2 : Int32)), .val (.int (2 : Int32)), .val (.double zz), .second] [(.ref a), (.double v75_2), (.double v39)])) rfl rfl (hb hby d2_88) _ (kk)) ?_
  show Dn p e below s _ _ _ (s₁.setTop (mkF m 89 #[.val (.ref a), .val (.double v27_2), .second, .val (.double v39), .second, .val (.double v75_2), .second, .val (.ref a), .val (.int (2 : Int32)), .val (.int (2 : Int32)), .val (.double zz), .second] [(.int cl_a_88.slots.size.toInt32), (.double v75_2), (.double v39)]))
  rw [len_of S_a_88 N_a_88]
  show Dn p e below s _ _ _ (s₁.setTop (mkF m 89 #[.val (.ref a), .val (.double v27_2), .second, .val (.double v39), .second, .val (.double v75_2), .second, .val (.ref a), .val (.int (2 : Int32)), .val (.int (2 : Int32)), .val (.double zz), .second] [(.int (2 : Int32)), (.double v75_2), (.double v39)]))
  have d89 := DS.i2d (2 : Int32)
  refine Dn.st (fun _ kk => XS.i2dS X0.here hx rfl (hb hby d2_89) rfl rfl (kk)) ?_
  show Dn p e below s _ _ _ (s₁.setTop (mkF m 90 #[.val (.ref a), .val (.double v27_2), .second, .val (.double v39), .second, .val (.double v75_2), .second, .val (.ref a), .val (.int (2 : Int32)), .val (.int (2 : Int32)), .val (.double zz), .second] [(.double (FP.i2d (2 : Int32))), (.double v75_2), (.double v39)]))
  generalize hv89 : ((FP.i2d (2 : Int32)) : UInt64) = v89 at d89 ⊢
  show Dn p e below s _ _ _ (s₁.setTop (mkF m 90 #[.val (.ref a), .val (.double v27_2), .second, .val (.double v39), .second, .val (.double v75_2), .second, .val (.ref a), .val (.int (2 : Int32)), .val (.int (2 : Int32)), .val (.double zz), .second] [(.double v89), (.double v75_2), (.double v39)]))
  have d90 : DS 0 0 (FP.ddiv v75_2 v89) := DS.div (n := 0) (Q := 0) d75_2 (DS.cast (i' := 2) d89 rfl (by decide)) (by decide) (by decide) (by decide) (by decide)
  refine Dn.st (fun _ kk => XS.ddivS X0.here hx rfl (hb hby d2_90) rfl d90.nn rfl (kk)) ?_
  show Dn p e below s _ _ _ (s₁.setTop (mkF m 91 #[.val (.ref a), .val (.double v27_2), .second, .val (.double v39), .second, .val (.double v75_2), .second, .val (.ref a), .val (.int (2 : Int32)), .val (.int (2 : Int32)), .val (.double zz), .second] [(.double (FP.ddiv v75_2 v89)), (.double v39)]))
  generalize hv90 : ((FP.ddiv v75_2 v89) : UInt64) = v90 at d90 ⊢
  show Dn p e below s _ _ _ (s₁.setTop (mkF m 91 #[.val (.ref a), .val (.double v27_2), .second, .val (.double v39), .second, .val (.double v75_2), .second, .val (.ref a), .val (.int (2 : Int32)), .val (.int (2 : Int32)), .val (.double zz), .second] [(.double v90), (.double v39)]))
  have d91 : DS 0 kq (FP.dadd v39 v90) := DS.addc d39 d90 (by omega) (by omega) (by decide)
  refine Dn.st (fun _ kk => XS.daddS X0.here hx rfl (hb hby d2_91) rfl d91.nn rfl (kk)) ?_
  show Dn p e below s _ _ _ (s₁.setTop (mkF m 92 #[.val (.ref a), .val (.double v27_2), .second, .val (.double v39), .second, .val (.double v75_2), .second, .val (.ref a), .val (.int (2 : Int32)), .val (.int (2 : Int32)), .val (.double zz), .second] [(.double (FP.dadd v39 v90))]))
  generalize hv91 : ((FP.dadd v39 v90) : UInt64) = v91 at d91 ⊢
  show Dn p e below s _ _ _ (s₁.setTop (mkF m 92 #[.val (.ref a), .val (.double v27_2), .second, .val (.double v39), .second, .val (.double v75_2), .second, .val (.ref a), .val (.int (2 : Int32)), .val (.int (2 : Int32)), .val (.double zz), .second] [(.double v91)]))
  exact Dn.ret X0 hlk hx hret rfl (Or.inr (Or.inr (Or.inl ⟨rfl, rfl, _, rfl⟩))) (hb hby d2_92) (by rw [e0]; exact ⟨_, rfl, d91, N0, rfl⟩) (by decide) (by decide)

theorem ef2_rm2S_3 (m : MethodId) (x0 : Addr) : entryFrame m #[(.ref x0)] 12 = mkF m 0 #[.val (.ref x0), .unset, .unset, .unset, .unset, .unset, .unset, .unset, .unset, .unset, .unset, .unset] [] := by first | (simp [entryFrame, mkF, argsToLocals, Value.category]; done) | rfl
def Q2S_3 (Z : State) (a : Addr) (ka : ClassId) (zz : UInt64) (kq : Int) (h0 : Heap) (n0 : Nat) (v : Option Value) (h : Heap) (L : List Loc) : Prop := ∃ z, v = some (.double z) ∧ DS 0 kq z ∧ Fr n0 L ∧ h = h0
set_option maxRecDepth 65536 in
set_option maxHeartbeats 40000000 in
theorem rm2S_3 (l : Launch) (Z : State) (a0 : Array Value) (hw : ∀ d ∈ tables_1, d.before a0 Z = true) (ws : List Jvm.Cond) (a : Addr) (ka : ClassId) (zz : UInt64) (kq : Int) (h0 : Heap) (n0 : Nat) (Z0 : n0 ≤ h0.size) (Va : Arv Z h0 a ka .double 3 [(.double zz), (.double zz), (.double zz)] (.double 0)) (d_zz : DS 0 kq zz) (hkb : -2251799813685248 ≤ kq ∧ kq ≤ 2251799813685248) :
    MetFree l (⟨"com/example/listino/listino/stats/Moments", "mean", "([D)D"⟩ : MethodName) (head1 (Jvm.Cond.code (⟨"com/example/listino/listino/stats/Moments", "mean", "([D)D"⟩ : MethodName) prog_51_method_2_code 12 (some .double) :: ws) ({ frames := 0, cells := 0, slots := 0, locals := 0 } : Room)) (fun aa UU => aa = #[(.ref a)] ∧ Z.Warmed39 UU.vm ∧ UU.heap = h0) (fun _ _ _ _ _ => True) (fun _ UU oo UU' => ∃ vv LL, oo = .returned vv ∧ Q2S_3 Z a ka zz kq h0 n0 vv UU'.heap LL ∧ FrameEnd UU oo UU' LL ({ frames := 0, cells := 0, slots := 0, locals := 0 } : Room).cells ({ frames := 0, cells := 0, slots := 0, locals := 0 } : Room).slots) := by
  refine MetFree.of_bodySF (plainFor_of_name pn1) hisR ?_
  intro p e s m args below meth c s₁ Bd hml0 hP hK
  obtain ⟨rfl, hZ, hh⟩ := hP
  have hx := Bd.exec
  have hby := Bd.bytes
  have hlk : meth.locks = false := BodyLoose.notSynchronized Bd
  have hret := Bd.returns
  have hml : c.maxLocals = 12 := hml0
  have hown : s.vm.findClass "com/example/listino/listino/stats/Moments" = some m.cls := findClass_of_methodNamed Bd.named
  have hnm := (name_of_methodNamed Bd.named Bd.method).1
  have X0 : Stand p l e ({ frames := 0, cells := 0, slots := 0, locals := 0 } : Room) s m #[(.ref a)] below meth c s₁ [] 0 0 := Stand.of_body Bd
  have e0 : s₁.heap = h0 := by rw [← hh, Bd.state]; rfl
  have N0 := Fr.nil n0
  show Dn p e below s (Q2S_3 Z a ka zz kq h0 n0) ({ frames := 0, cells := 0, slots := 0, locals := 0 } : Room).cells ({ frames := 0, cells := 0, slots := 0, locals := 0 } : Room).slots (s₁.setTop (entryFrame m #[(.ref a)] 12))
  refine Dn.st (fun _ kk => castTop (ef2_rm2S_3 m a) kk) ?_
  show Dn p e below s _ _ _ (s₁.setTop (mkF m 0 #[.val (.ref a), .unset, .unset, .unset, .unset, .unset, .unset, .unset, .unset, .unset, .unset, .unset] []))
  refine Dn.st (fun _ kk => XS.dconst0 X0.here hx rfl (hb hby d2_0) rfl (XS.dstoreN X0.here hx rfl (hb hby d2_1) rfl (l' := #[.val (.ref a), .val (.double FP.dconst0), .second, .unset, .unset, .unset, .unset, .unset, .unset, .unset, .unset, .unset]) rfl (XS.aloadN X0.here hx rfl (hb hby d2_2) rfl rfl (XS.astoreN X0.here hx rfl (hb hby d2_3) rfl rfl (l' := #[.val (.ref a), .val (.double FP.dconst0), .second, .val (.ref a), .unset, .unset, .unset, .unset, .unset, .unset, .unset, .unset]) rfl (XS.aloadN X0.here hx rfl (hb hby d2_4) rfl rfl (kk)))))) ?_
  show Dn p e below s _ _ _ (s₁.setTop (mkF m 5 #[.val (.ref a), .val (.double FP.dconst0), .second, .val (.ref a), .unset, .unset, .unset, .unset, .unset, .unset, .unset, .unset] [(.ref a)]))
  have Vc_a_5 := Va
  obtain ⟨cl_a_5, Ar_a_5, q_a_5, S_a_5, N_a_5, H_a_5, G_a_5⟩ := Vc_a_5
  refine Dn.st (fun _ kk => X0.arraylength hx (by rw [e0]; exact Ar_a_5.1) (State.isArrayOf_alike hZ.alike Ar_a_5.2.1) (g := (mkF m 5 #[.val (.ref a), .val (.double FP.dconst0), .second, .val (.ref a), .unset, .unset, .unset, .unset, .unset, .unset, .unset, .unset] [(.ref a)])) rfl rfl (hb hby d2_5) _ (kk)) ?_
  show Dn p e below s _ _ _ (s₁.setTop (mkF m 6 #[.val (.ref a), .val (.double FP.dconst0), .second, .val (.ref a), .unset, .unset, .unset, .unset, .unset, .unset, .unset, .unset] [(.int cl_a_5.slots.size.toInt32)]))
  rw [len_of S_a_5 N_a_5]
  show Dn p e below s _ _ _ (s₁.setTop (mkF m 6 #[.val (.ref a), .val (.double FP.dconst0), .second, .val (.ref a), .unset, .unset, .unset, .unset, .unset, .unset, .unset, .unset] [(.int (3 : Int32))]))
  refine Dn.st (fun _ kk => XS.istore X0.here hx rfl (hb hby d2_6) rfl (l' := #[.val (.ref a), .val (.double FP.dconst0), .second, .val (.ref a), .val (.int (3 : Int32)), .unset, .unset, .unset, .unset, .unset, .unset, .unset]) rfl (XS.iconst X0.here hx rfl (hb hby d2_8) (XS.istore X0.here hx rfl (hb hby d2_9) rfl (l' := #[.val (.ref a), .val (.double FP.dconst0), .second, .val (.ref a), .val (.int (3 : Int32)), .val (.int (0 : Int32)), .unset, .unset, .unset, .unset, .unset, .unset]) rfl (XS.iload X0.here hx rfl (hb hby d2_11) rfl  (XS.iload X0.here hx rfl (hb hby d2_13) rfl  (kk)))))) ?_
  show Dn p e below s _ _ _ (s₁.setTop (mkF m 15 #[.val (.ref a), .val (.double FP.dconst0), .second, .val (.ref a), .val (.int (3 : Int32)), .val (.int (0 : Int32)), .unset, .unset, .unset, .unset, .unset, .unset] [(.int (3 : Int32)), (.int (0 : Int32))]))
  have hc15 : (0 : Int32) < (3 : Int32) := by decide
  refine Dn.st (fun _ kk => XS.icmpNo X0.here hx rfl (hb hby d2_15) rfl (tlt hc15).2.1 (XS.aloadN X0.here hx rfl (hb hby d2_18) rfl rfl (XS.iload X0.here hx rfl (hb hby d2_19) rfl  (kk)))) ?_
  show Dn p e below s _ _ _ (s₁.setTop (mkF m 21 #[.val (.ref a), .val (.double FP.dconst0), .second, .val (.ref a), .val (.int (3 : Int32)), .val (.int (0 : Int32)), .unset, .unset, .unset, .unset, .unset, .unset] [(.int (0 : Int32)), (.ref a)]))
  have Vc_a_21 := Va
  obtain ⟨cl_a_21, Ar_a_21, q_a_21, S_a_21, N_a_21, H_a_21, G_a_21⟩ := Vc_a_21
  have hin21 : ¬ ((0 : Int32) < 0 ∨ cl_a_21.slots.size ≤ ((0 : Int32)).toNatClampNeg) := inb_of S_a_21 ⟨by decide, by decide⟩
  have hat21 : cl_a_21.slots[((0 : Int32)).toNatClampNeg]? = some (.double zz) := H_a_21.at hin21 rfl
  refine Dn.st (fun _ kk => X0.daload hx (j := (0 : Int32)) (v := (.double zz)) (by rw [e0]; exact Ar_a_21.1) (State.isArrayOf_alike hZ.alike Ar_a_21.2.1) Ar_a_21.2.2 hin21 hat21 (g := (mkF m 21 #[.val (.ref a), .val (.double FP.dconst0), .second, .val (.ref a), .val (.int (3 : Int32)), .val (.int (0 : Int32)), .unset, .unset, .unset, .unset, .unset, .unset] [(.int (0 : Int32)), (.ref a)])) rfl rfl (hb hby d2_21) _ (XS.dstore X0.here hx rfl (hb hby d2_22) rfl (l' := #[.val (.ref a), .val (.double FP.dconst0), .second, .val (.ref a), .val (.int (3 : Int32)), .val (.int (0 : Int32)), .val (.double zz), .second, .unset, .unset, .unset, .unset]) rfl (XS.dloadN X0.here hx rfl (hb hby d2_24) rfl  (XS.dload X0.here hx rfl (hb hby d2_25) rfl  (kk))))) ?_
  show Dn p e below s _ _ _ (s₁.setTop (mkF m 27 #[.val (.ref a), .val (.double FP.dconst0), .second, .val (.ref a), .val (.int (3 : Int32)), .val (.int (0 : Int32)), .val (.double zz), .second, .unset, .unset, .unset, .unset] [(.double zz), (.double FP.dconst0)]))
  have d27 : DS 0 (0 + kq) (FP.dadd FP.dconst0 zz) := DS.add dc_0 d_zz (by omega) (by decide)
  refine Dn.st (fun _ kk => XS.daddS X0.here hx rfl (hb hby d2_27) rfl d27.nn rfl (kk)) ?_
  show Dn p e below s _ _ _ (s₁.setTop (mkF m 28 #[.val (.ref a), .val (.double FP.dconst0), .second, .val (.ref a), .val (.int (3 : Int32)), .val (.int (0 : Int32)), .val (.double zz), .second, .unset, .unset, .unset, .unset] [(.double (FP.dadd FP.dconst0 zz))]))
  generalize hv27 : ((FP.dadd FP.dconst0 zz) : UInt64) = v27 at d27 ⊢
  show Dn p e below s _ _ _ (s₁.setTop (mkF m 28 #[.val (.ref a), .val (.double FP.dconst0), .second, .val (.ref a), .val (.int (3 : Int32)), .val (.int (0 : Int32)), .val (.double zz), .second, .unset, .unset, .unset, .unset] [(.double v27)]))
  refine Dn.st (fun _ kk => XS.dstoreN X0.here hx rfl (hb hby d2_28) rfl (l' := #[.val (.ref a), .val (.double v27), .second, .val (.ref a), .val (.int (3 : Int32)), .val (.int (0 : Int32)), .val (.double zz), .second, .unset, .unset, .unset, .unset]) rfl (XS.iinc X0.here hx rfl (hb hby d2_29) rfl (l' := #[.val (.ref a), .val (.double v27), .second, .val (.ref a), .val (.int (3 : Int32)), .val (.int (1 : Int32)), .val (.double zz), .second, .unset, .unset, .unset, .unset]) rfl (XS.goto X0.here hx rfl (pc0 := 32) (pc' := 11) rfl (hb hby d2_32) (by decide) (by decide) (XS.iload X0.here hx rfl (hb hby d2_11) rfl  (XS.iload X0.here hx rfl (hb hby d2_13) rfl  (kk)))))) ?_
  show Dn p e below s _ _ _ (s₁.setTop (mkF m 15 #[.val (.ref a), .val (.double v27), .second, .val (.ref a), .val (.int (3 : Int32)), .val (.int (1 : Int32)), .val (.double zz), .second, .unset, .unset, .unset, .unset] [(.int (3 : Int32)), (.int (1 : Int32))]))
  have hc15_2 : (1 : Int32) < (3 : Int32) := by decide
  refine Dn.st (fun _ kk => XS.icmpNo X0.here hx rfl (hb hby d2_15) rfl (tlt hc15_2).2.1 (XS.aloadN X0.here hx rfl (hb hby d2_18) rfl rfl (XS.iload X0.here hx rfl (hb hby d2_19) rfl  (kk)))) ?_
  show Dn p e below s _ _ _ (s₁.setTop (mkF m 21 #[.val (.ref a), .val (.double v27), .second, .val (.ref a), .val (.int (3 : Int32)), .val (.int (1 : Int32)), .val (.double zz), .second, .unset, .unset, .unset, .unset] [(.int (1 : Int32)), (.ref a)]))
  have Vc_a_21_2 := Va
  obtain ⟨cl_a_21_2, Ar_a_21_2, q_a_21_2, S_a_21_2, N_a_21_2, H_a_21_2, G_a_21_2⟩ := Vc_a_21_2
  have hin21_2 : ¬ ((1 : Int32) < 0 ∨ cl_a_21_2.slots.size ≤ ((1 : Int32)).toNatClampNeg) := inb_of S_a_21_2 ⟨by decide, by decide⟩
  have hat21_2 : cl_a_21_2.slots[((1 : Int32)).toNatClampNeg]? = some (.double zz) := H_a_21_2.at hin21_2 rfl
  refine Dn.st (fun _ kk => X0.daload hx (j := (1 : Int32)) (v := (.double zz)) (by rw [e0]; exact Ar_a_21_2.1) (State.isArrayOf_alike hZ.alike Ar_a_21_2.2.1) Ar_a_21_2.2.2 hin21_2 hat21_2 (g := (mkF m 21 #[.val (.ref a), .val (.double v27), .second, .val (.ref a), .val (.int (3 : Int32)), .val (.int (1 : Int32)), .val (.double zz), .second, .unset, .unset, .unset, .unset] [(.int (1 : Int32)), (.ref a)])) rfl rfl (hb hby d2_21) _ (XS.dstore X0.here hx rfl (hb hby d2_22) rfl (l' := #[.val (.ref a), .val (.double v27), .second, .val (.ref a), .val (.int (3 : Int32)), .val (.int (1 : Int32)), .val (.double zz), .second, .unset, .unset, .unset, .unset]) rfl (XS.dloadN X0.here hx rfl (hb hby d2_24) rfl  (XS.dload X0.here hx rfl (hb hby d2_25) rfl  (kk))))) ?_
  show Dn p e below s _ _ _ (s₁.setTop (mkF m 27 #[.val (.ref a), .val (.double v27), .second, .val (.ref a), .val (.int (3 : Int32)), .val (.int (1 : Int32)), .val (.double zz), .second, .unset, .unset, .unset, .unset] [(.double zz), (.double v27)]))
  have d27_2 : DS 0 ((0 + kq) + kq) (FP.dadd v27 zz) := DS.add d27 d_zz (by omega) (by decide)
  refine Dn.st (fun _ kk => XS.daddS X0.here hx rfl (hb hby d2_27) rfl d27_2.nn rfl (kk)) ?_
  show Dn p e below s _ _ _ (s₁.setTop (mkF m 28 #[.val (.ref a), .val (.double v27), .second, .val (.ref a), .val (.int (3 : Int32)), .val (.int (1 : Int32)), .val (.double zz), .second, .unset, .unset, .unset, .unset] [(.double (FP.dadd v27 zz))]))
  generalize hv27_2 : ((FP.dadd v27 zz) : UInt64) = v27_2 at d27_2 ⊢
  show Dn p e below s _ _ _ (s₁.setTop (mkF m 28 #[.val (.ref a), .val (.double v27), .second, .val (.ref a), .val (.int (3 : Int32)), .val (.int (1 : Int32)), .val (.double zz), .second, .unset, .unset, .unset, .unset] [(.double v27_2)]))
  refine Dn.st (fun _ kk => XS.dstoreN X0.here hx rfl (hb hby d2_28) rfl (l' := #[.val (.ref a), .val (.double v27_2), .second, .val (.ref a), .val (.int (3 : Int32)), .val (.int (1 : Int32)), .val (.double zz), .second, .unset, .unset, .unset, .unset]) rfl (XS.iinc X0.here hx rfl (hb hby d2_29) rfl (l' := #[.val (.ref a), .val (.double v27_2), .second, .val (.ref a), .val (.int (3 : Int32)), .val (.int (2 : Int32)), .val (.double zz), .second, .unset, .unset, .unset, .unset]) rfl (XS.goto X0.here hx rfl (pc0 := 32) (pc' := 11) rfl (hb hby d2_32) (by decide) (by decide) (XS.iload X0.here hx rfl (hb hby d2_11) rfl  (XS.iload X0.here hx rfl (hb hby d2_13) rfl  (kk)))))) ?_
  show Dn p e below s _ _ _ (s₁.setTop (mkF m 15 #[.val (.ref a), .val (.double v27_2), .second, .val (.ref a), .val (.int (3 : Int32)), .val (.int (2 : Int32)), .val (.double zz), .second, .unset, .unset, .unset, .unset] [(.int (3 : Int32)), (.int (2 : Int32))]))
  have hc15_3 : (2 : Int32) < (3 : Int32) := by decide
  refine Dn.st (fun _ kk => XS.icmpNo X0.here hx rfl (hb hby d2_15) rfl (tlt hc15_3).2.1 (XS.aloadN X0.here hx rfl (hb hby d2_18) rfl rfl (XS.iload X0.here hx rfl (hb hby d2_19) rfl  (kk)))) ?_
  show Dn p e below s _ _ _ (s₁.setTop (mkF m 21 #[.val (.ref a), .val (.double v27_2), .second, .val (.ref a), .val (.int (3 : Int32)), .val (.int (2 : Int32)), .val (.double zz), .second, .unset, .unset, .unset, .unset] [(.int (2 : Int32)), (.ref a)]))
  have Vc_a_21_3 := Va
  obtain ⟨cl_a_21_3, Ar_a_21_3, q_a_21_3, S_a_21_3, N_a_21_3, H_a_21_3, G_a_21_3⟩ := Vc_a_21_3
  have hin21_3 : ¬ ((2 : Int32) < 0 ∨ cl_a_21_3.slots.size ≤ ((2 : Int32)).toNatClampNeg) := inb_of S_a_21_3 ⟨by decide, by decide⟩
  have hat21_3 : cl_a_21_3.slots[((2 : Int32)).toNatClampNeg]? = some (.double zz) := H_a_21_3.at hin21_3 rfl
  refine Dn.st (fun _ kk => X0.daload hx (j := (2 : Int32)) (v := (.double zz)) (by rw [e0]; exact Ar_a_21_3.1) (State.isArrayOf_alike hZ.alike Ar_a_21_3.2.1) Ar_a_21_3.2.2 hin21_3 hat21_3 (g := (mkF m 21 #[.val (.ref a), .val (.double v27_2), .second, .val (.ref a), .val (.int (3 : Int32)), .val (.int (2 : Int32)), .val (.double zz), .second, .unset, .unset, .unset, .unset] [(.int (2 : Int32)), (.ref a)])) rfl rfl (hb hby d2_21) _ (XS.dstore X0.here hx rfl (hb hby d2_22) rfl (l' := #[.val (.ref a), .val (.double v27_2), .second, .val (.ref a), .val (.int (3 : Int32)), .val (.int (2 : Int32)), .val (.double zz), .second, .unset, .unset, .unset, .unset]) rfl (XS.dloadN X0.here hx rfl (hb hby d2_24) rfl  (XS.dload X0.here hx rfl (hb hby d2_25) rfl  (kk))))) ?_
  show Dn p e below s _ _ _ (s₁.setTop (mkF m 27 #[.val (.ref a), .val (.double v27_2), .second, .val (.ref a), .val (.int (3 : Int32)), .val (.int (2 : Int32)), .val (.double zz), .second, .unset, .unset, .unset, .unset] [(.double zz), (.double v27_2)]))
  have d27_3 : DS 0 (((0 + kq) + kq) + kq) (FP.dadd v27_2 zz) := DS.add d27_2 d_zz (by omega) (by decide)
  refine Dn.st (fun _ kk => XS.daddS X0.here hx rfl (hb hby d2_27) rfl d27_3.nn rfl (kk)) ?_
  show Dn p e below s _ _ _ (s₁.setTop (mkF m 28 #[.val (.ref a), .val (.double v27_2), .second, .val (.ref a), .val (.int (3 : Int32)), .val (.int (2 : Int32)), .val (.double zz), .second, .unset, .unset, .unset, .unset] [(.double (FP.dadd v27_2 zz))]))
  generalize hv27_3 : ((FP.dadd v27_2 zz) : UInt64) = v27_3 at d27_3 ⊢
  show Dn p e below s _ _ _ (s₁.setTop (mkF m 28 #[.val (.ref a), .val (.double v27_2), .second, .val (.ref a), .val (.int (3 : Int32)), .val (.int (2 : Int32)), .val (.double zz), .second, .unset, .unset, .unset, .unset] [(.double v27_3)]))
  refine Dn.st (fun _ kk => XS.dstoreN X0.here hx rfl (hb hby d2_28) rfl (l' := #[.val (.ref a), .val (.double v27_3), .second, .val (.ref a), .val (.int (3 : Int32)), .val (.int (2 : Int32)), .val (.double zz), .second, .unset, .unset, .unset, .unset]) rfl (XS.iinc X0.here hx rfl (hb hby d2_29) rfl (l' := #[.val (.ref a), .val (.double v27_3), .second, .val (.ref a), .val (.int (3 : Int32)), .val (.int (3 : Int32)), .val (.double zz), .second, .unset, .unset, .unset, .unset]) rfl (XS.goto X0.here hx rfl (pc0 := 32) (pc' := 11) rfl (hb hby d2_32) (by decide) (by decide) (XS.iload X0.here hx rfl (hb hby d2_11) rfl  (XS.iload X0.here hx rfl (hb hby d2_13) rfl  (kk)))))) ?_
  show Dn p e below s _ _ _ (s₁.setTop (mkF m 15 #[.val (.ref a), .val (.double v27_3), .second, .val (.ref a), .val (.int (3 : Int32)), .val (.int (3 : Int32)), .val (.double zz), .second, .unset, .unset, .unset, .unset] [(.int (3 : Int32)), (.int (3 : Int32))]))
  have hc15_4 : ¬ ((3 : Int32) < (3 : Int32)) := by decide
  refine Dn.st (fun _ kk => XS.icmpYes X0.here hx rfl (pc0 := 15) (pc' := 35) rfl (hb hby d2_15) rfl (flt hc15_4).2.1 (by decide) (by decide) (XS.dloadN X0.here hx rfl (hb hby d2_35) rfl  (XS.aloadN X0.here hx rfl (hb hby d2_36) rfl rfl (kk)))) ?_
  show Dn p e below s _ _ _ (s₁.setTop (mkF m 37 #[.val (.ref a), .val (.double v27_3), .second, .val (.ref a), .val (.int (3 : Int32)), .val (.int (3 : Int32)), .val (.double zz), .second, .unset, .unset, .unset, .unset] [(.ref a), (.double v27_3)]))
  have Vc_a_37 := Va
  obtain ⟨cl_a_37, Ar_a_37, q_a_37, S_a_37, N_a_37, H_a_37, G_a_37⟩ := Vc_a_37
  refine Dn.st (fun _ kk => X0.arraylength hx (by rw [e0]; exact Ar_a_37.1) (State.isArrayOf_alike hZ.alike Ar_a_37.2.1) (g := (mkF m 37 #[.val (.ref a), .val (.double v27_3), .second, .val (.ref a), .val (.int (3 : Int32)), .val (.int (3 : Int32)), .val (.double zz), .second, .unset, .unset, .unset, .unset] [(.ref a), (.double v27_3)])) rfl rfl (hb hby d2_37) _ (kk)) ?_
  show Dn p e below s _ _ _ (s₁.setTop (mkF m 38 #[.val (.ref a), .val (.double v27_3), .second, .val (.ref a), .val (.int (3 : Int32)), .val (.int (3 : Int32)), .val (.double zz), .second, .unset, .unset, .unset, .unset] [(.int cl_a_37.slots.size.toInt32), (.double v27_3)]))
  rw [len_of S_a_37 N_a_37]
  show Dn p e below s _ _ _ (s₁.setTop (mkF m 38 #[.val (.ref a), .val (.double v27_3), .second, .val (.ref a), .val (.int (3 : Int32)), .val (.int (3 : Int32)), .val (.double zz), .second, .unset, .unset, .unset, .unset] [(.int (3 : Int32)), (.double v27_3)]))
  have d38 := DS.i2d (3 : Int32)
  refine Dn.st (fun _ kk => XS.i2dS X0.here hx rfl (hb hby d2_38) rfl rfl (kk)) ?_
  show Dn p e below s _ _ _ (s₁.setTop (mkF m 39 #[.val (.ref a), .val (.double v27_3), .second, .val (.ref a), .val (.int (3 : Int32)), .val (.int (3 : Int32)), .val (.double zz), .second, .unset, .unset, .unset, .unset] [(.double (FP.i2d (3 : Int32))), (.double v27_3)]))
  generalize hv38 : ((FP.i2d (3 : Int32)) : UInt64) = v38 at d38 ⊢
  show Dn p e below s _ _ _ (s₁.setTop (mkF m 39 #[.val (.ref a), .val (.double v27_3), .second, .val (.ref a), .val (.int (3 : Int32)), .val (.int (3 : Int32)), .val (.double zz), .second, .unset, .unset, .unset, .unset] [(.double v38), (.double v27_3)]))
  have d39 : DS 0 kq (FP.ddiv v27_3 v38) := DS.div (n := 0) (Q := kq) d27_3 (DS.cast (i' := 3) d38 rfl (by decide)) (by decide) (by show _ * 1 = _ * 1; omega) (by omega) (by decide)
  refine Dn.st (fun _ kk => XS.ddivS X0.here hx rfl (hb hby d2_39) rfl d39.nn rfl (kk)) ?_
  show Dn p e below s _ _ _ (s₁.setTop (mkF m 40 #[.val (.ref a), .val (.double v27_3), .second, .val (.ref a), .val (.int (3 : Int32)), .val (.int (3 : Int32)), .val (.double zz), .second, .unset, .unset, .unset, .unset] [(.double (FP.ddiv v27_3 v38))]))
  generalize hv39 : ((FP.ddiv v27_3 v38) : UInt64) = v39 at d39 ⊢
  show Dn p e below s _ _ _ (s₁.setTop (mkF m 40 #[.val (.ref a), .val (.double v27_3), .second, .val (.ref a), .val (.int (3 : Int32)), .val (.int (3 : Int32)), .val (.double zz), .second, .unset, .unset, .unset, .unset] [(.double v39)]))
  refine Dn.st (fun _ kk => XS.dstoreN X0.here hx rfl (hb hby d2_40) rfl (l' := #[.val (.ref a), .val (.double v27_3), .second, .val (.double v39), .second, .val (.int (3 : Int32)), .val (.double zz), .second, .unset, .unset, .unset, .unset]) rfl (XS.dconst0 X0.here hx rfl (hb hby d2_41) rfl (XS.dstore X0.here hx rfl (hb hby d2_42) rfl (l' := #[.val (.ref a), .val (.double v27_3), .second, .val (.double v39), .second, .val (.double FP.dconst0), .second, .unset, .unset, .unset, .unset, .unset]) rfl (XS.aloadN X0.here hx rfl (hb hby d2_44) rfl rfl (XS.astore X0.here hx rfl (hb hby d2_45) rfl rfl (l' := #[.val (.ref a), .val (.double v27_3), .second, .val (.double v39), .second, .val (.double FP.dconst0), .second, .val (.ref a), .unset, .unset, .unset, .unset]) rfl (XS.aload X0.here hx rfl (hb hby d2_47) rfl rfl (kk))))))) ?_
  show Dn p e below s _ _ _ (s₁.setTop (mkF m 49 #[.val (.ref a), .val (.double v27_3), .second, .val (.double v39), .second, .val (.double FP.dconst0), .second, .val (.ref a), .unset, .unset, .unset, .unset] [(.ref a)]))
  have Vc_a_49 := Va
  obtain ⟨cl_a_49, Ar_a_49, q_a_49, S_a_49, N_a_49, H_a_49, G_a_49⟩ := Vc_a_49
  refine Dn.st (fun _ kk => X0.arraylength hx (by rw [e0]; exact Ar_a_49.1) (State.isArrayOf_alike hZ.alike Ar_a_49.2.1) (g := (mkF m 49 #[.val (.ref a), .val (.double v27_3), .second, .val (.double v39), .second, .val (.double FP.dconst0), .second, .val (.ref a), .unset, .unset, .unset, .unset] [(.ref a)])) rfl rfl (hb hby d2_49) _ (kk)) ?_
  show Dn p e below s _ _ _ (s₁.setTop (mkF m 50 #[.val (.ref a), .val (.double v27_3), .second, .val (.double v39), .second, .val (.double FP.dconst0), .second, .val (.ref a), .unset, .unset, .unset, .unset] [(.int cl_a_49.slots.size.toInt32)]))
  rw [len_of S_a_49 N_a_49]
  show Dn p e below s _ _ _ (s₁.setTop (mkF m 50 #[.val (.ref a), .val (.double v27_3), .second, .val (.double v39), .second, .val (.double FP.dconst0), .second, .val (.ref a), .unset, .unset, .unset, .unset] [(.int (3 : Int32))]))
  refine Dn.st (fun _ kk => XS.istore X0.here hx rfl (hb hby d2_50) rfl (l' := #[.val (.ref a), .val (.double v27_3), .second, .val (.double v39), .second, .val (.double FP.dconst0), .second, .val (.ref a), .val (.int (3 : Int32)), .unset, .unset, .unset]) rfl (XS.iconst X0.here hx rfl (hb hby d2_52) (XS.istore X0.here hx rfl (hb hby d2_53) rfl (l' := #[.val (.ref a), .val (.double v27_3), .second, .val (.double v39), .second, .val (.double FP.dconst0), .second, .val (.ref a), .val (.int (3 : Int32)), .val (.int (0 : Int32)), .unset, .unset]) rfl (XS.iload X0.here hx rfl (hb hby d2_55) rfl  (XS.iload X0.here hx rfl (hb hby d2_57) rfl  (kk)))))) ?_
  show Dn p e below s _ _ _ (s₁.setTop (mkF m 59 #[.val (.ref a), .val (.double v27_3), .second, .val (.double v39), .second, .val (.double FP.dconst0), .second, .val (.ref a), .val (.int (3 : Int32)), .val (.int (0 : Int32)), .unset, .unset] [(.int (3 : Int32)), (.int (0 : Int32))]))
  have hc59 : (0 : Int32) < (3 : Int32) := by decide
  refine Dn.st (fun _ kk => XS.icmpNo X0.here hx rfl (hb hby d2_59) rfl (tlt hc59).2.1 (XS.aload X0.here hx rfl (hb hby d2_62) rfl rfl (XS.iload X0.here hx rfl (hb hby d2_64) rfl  (kk)))) ?_
  show Dn p e below s _ _ _ (s₁.setTop (mkF m 66 #[.val (.ref a), .val (.double v27_3), .second, .val (.double v39), .second, .val (.double FP.dconst0), .second, .val (.ref a), .val (.int (3 : Int32)), .val (.int (0 : Int32)), .unset, .unset] [(.int (0 : Int32)), (.ref a)]))
  have Vc_a_66 := Va
  obtain ⟨cl_a_66, Ar_a_66, q_a_66, S_a_66, N_a_66, H_a_66, G_a_66⟩ := Vc_a_66
  have hin66 : ¬ ((0 : Int32) < 0 ∨ cl_a_66.slots.size ≤ ((0 : Int32)).toNatClampNeg) := inb_of S_a_66 ⟨by decide, by decide⟩
  have hat66 : cl_a_66.slots[((0 : Int32)).toNatClampNeg]? = some (.double zz) := H_a_66.at hin66 rfl
  refine Dn.st (fun _ kk => X0.daload hx (j := (0 : Int32)) (v := (.double zz)) (by rw [e0]; exact Ar_a_66.1) (State.isArrayOf_alike hZ.alike Ar_a_66.2.1) Ar_a_66.2.2 hin66 hat66 (g := (mkF m 66 #[.val (.ref a), .val (.double v27_3), .second, .val (.double v39), .second, .val (.double FP.dconst0), .second, .val (.ref a), .val (.int (3 : Int32)), .val (.int (0 : Int32)), .unset, .unset] [(.int (0 : Int32)), (.ref a)])) rfl rfl (hb hby d2_66) _ (XS.dstore X0.here hx rfl (hb hby d2_67) rfl (l' := #[.val (.ref a), .val (.double v27_3), .second, .val (.double v39), .second, .val (.double FP.dconst0), .second, .val (.ref a), .val (.int (3 : Int32)), .val (.int (0 : Int32)), .val (.double zz), .second]) rfl (XS.dload X0.here hx rfl (hb hby d2_69) rfl  (XS.dload X0.here hx rfl (hb hby d2_71) rfl  (XS.dloadN X0.here hx rfl (hb hby d2_73) rfl  (kk)))))) ?_
  show Dn p e below s _ _ _ (s₁.setTop (mkF m 74 #[.val (.ref a), .val (.double v27_3), .second, .val (.double v39), .second, .val (.double FP.dconst0), .second, .val (.ref a), .val (.int (3 : Int32)), .val (.int (0 : Int32)), .val (.double zz), .second] [(.double v39), (.double zz), (.double FP.dconst0)]))
  have d74 : DS 0 0 (FP.dsub zz v39) := DS.subc d_zz d39 (by omega) (by omega) (by decide)
  refine Dn.st (fun _ kk => XS.dsubS X0.here hx rfl (hb hby d2_74) rfl d74.nn rfl (kk)) ?_
  show Dn p e below s _ _ _ (s₁.setTop (mkF m 75 #[.val (.ref a), .val (.double v27_3), .second, .val (.double v39), .second, .val (.double FP.dconst0), .second, .val (.ref a), .val (.int (3 : Int32)), .val (.int (0 : Int32)), .val (.double zz), .second] [(.double (FP.dsub zz v39)), (.double FP.dconst0)]))
  generalize hv74 : ((FP.dsub zz v39) : UInt64) = v74 at d74 ⊢
  show Dn p e below s _ _ _ (s₁.setTop (mkF m 75 #[.val (.ref a), .val (.double v27_3), .second, .val (.double v39), .second, .val (.double FP.dconst0), .second, .val (.ref a), .val (.int (3 : Int32)), .val (.int (0 : Int32)), .val (.double zz), .second] [(.double v74), (.double FP.dconst0)]))
  have d75 : DS 0 0 (FP.dadd FP.dconst0 v74) := DS.addc dc_0 d74 (by omega) (by omega) (by decide)
  refine Dn.st (fun _ kk => XS.daddS X0.here hx rfl (hb hby d2_75) rfl d75.nn rfl (kk)) ?_
  show Dn p e below s _ _ _ (s₁.setTop (mkF m 76 #[.val (.ref a), .val (.double v27_3), .second, .val (.double v39), .second, .val (.double FP.dconst0), .second, .val (.ref a), .val (.int (3 : Int32)), .val (.int (0 : Int32)), .val (.double zz), .second] [(.double (FP.dadd FP.dconst0 v74))]))
  generalize hv75 : ((FP.dadd FP.dconst0 v74) : UInt64) = v75 at d75 ⊢
  show Dn p e below s _ _ _ (s₁.setTop (mkF m 76 #[.val (.ref a), .val (.double v27_3), .second, .val (.double v39), .second, .val (.double FP.dconst0), .second, .val (.ref a), .val (.int (3 : Int32)), .val (.int (0 : Int32)), .val (.double zz), .second] [(.double v75)]))
  refine Dn.st (fun _ kk => XS.dstore X0.here hx rfl (hb hby d2_76) rfl (l' := #[.val (.ref a), .val (.double v27_3), .second, .val (.double v39), .second, .val (.double v75), .second, .val (.ref a), .val (.int (3 : Int32)), .val (.int (0 : Int32)), .val (.double zz), .second]) rfl (XS.iinc X0.here hx rfl (hb hby d2_78) rfl (l' := #[.val (.ref a), .val (.double v27_3), .second, .val (.double v39), .second, .val (.double v75), .second, .val (.ref a), .val (.int (3 : Int32)), .val (.int (1 : Int32)), .val (.double zz), .second]) rfl (XS.goto X0.here hx rfl (pc0 := 81) (pc' := 55) rfl (hb hby d2_81) (by decide) (by decide) (XS.iload X0.here hx rfl (hb hby d2_55) rfl  (XS.iload X0.here hx rfl (hb hby d2_57) rfl  (kk)))))) ?_
  show Dn p e below s _ _ _ (s₁.setTop (mkF m 59 #[.val (.ref a), .val (.double v27_3), .second, .val (.double v39), .second, .val (.double v75), .second, .val (.ref a), .val (.int (3 : Int32)), .val (.int (1 : Int32)), .val (.double zz), .second] [(.int (3 : Int32)), (.int (1 : Int32))]))
  have hc59_2 : (1 : Int32) < (3 : Int32) := by decide
  refine Dn.st (fun _ kk => XS.icmpNo X0.here hx rfl (hb hby d2_59) rfl (tlt hc59_2).2.1 (XS.aload X0.here hx rfl (hb hby d2_62) rfl rfl (XS.iload X0.here hx rfl (hb hby d2_64) rfl  (kk)))) ?_
  show Dn p e below s _ _ _ (s₁.setTop (mkF m 66 #[.val (.ref a), .val (.double v27_3), .second, .val (.double v39), .second, .val (.double v75), .second, .val (.ref a), .val (.int (3 : Int32)), .val (.int (1 : Int32)), .val (.double zz), .second] [(.int (1 : Int32)), (.ref a)]))
  have Vc_a_66_2 := Va
  obtain ⟨cl_a_66_2, Ar_a_66_2, q_a_66_2, S_a_66_2, N_a_66_2, H_a_66_2, G_a_66_2⟩ := Vc_a_66_2
  have hin66_2 : ¬ ((1 : Int32) < 0 ∨ cl_a_66_2.slots.size ≤ ((1 : Int32)).toNatClampNeg) := inb_of S_a_66_2 ⟨by decide, by decide⟩
  have hat66_2 : cl_a_66_2.slots[((1 : Int32)).toNatClampNeg]? = some (.double zz) := H_a_66_2.at hin66_2 rfl
  refine Dn.st (fun _ kk => X0.daload hx (j := (1 : Int32)) (v := (.double zz)) (by rw [e0]; exact Ar_a_66_2.1) (State.isArrayOf_alike hZ.alike Ar_a_66_2.2.1) Ar_a_66_2.2.2 hin66_2 hat66_2 (g := (mkF m 66 #[.val (.ref a), .val (.double v27_3), .second, .val (.double v39), .second, .val (.double v75), .second, .val (.ref a), .val (.int (3 : Int32)), .val (.int (1 : Int32)), .val (.double zz), .second] [(.int (1 : Int32)), (.ref a)])) rfl rfl (hb hby d2_66) _ (XS.dstore X0.here hx rfl (hb hby d2_67) rfl (l' := #[.val (.ref a), .val (.double v27_3), .second, .val (.double v39), .second, .val (.double v75), .second, .val (.ref a), .val (.int (3 : Int32)), .val (.int (1 : Int32)), .val (.double zz), .second]) rfl (XS.dload X0.here hx rfl (hb hby d2_69) rfl  (XS.dload X0.here hx rfl (hb hby d2_71) rfl  (XS.dloadN X0.here hx rfl (hb hby d2_73) rfl  (kk)))))) ?_
  show Dn p e below s _ _ _ (s₁.setTop (mkF m 74 #[.val (.ref a), .val (.double v27_3), .second, .val (.double v39), .second, .val (.double v75), .second, .val (.ref a), .val (.int (3 : Int32)), .val (.int (1 : Int32)), .val (.double zz), .second] [(.double v39), (.double zz), (.double v75)]))
  have d74_2 : DS 0 0 (FP.dsub zz v39) := DS.subc d_zz d39 (by omega) (by omega) (by decide)
  refine Dn.st (fun _ kk => XS.dsubS X0.here hx rfl (hb hby d2_74) rfl d74_2.nn rfl (kk)) ?_
  show Dn p e below s _ _ _ (s₁.setTop (mkF m 75 #[.val (.ref a), .val (.double v27_3), .second, .val (.double v39), .second, .val (.double v75), .second, .val (.ref a), .val (.int (3 : Int32)), .val (.int (1 : Int32)), .val (.double zz), .second] [(.double (FP.dsub zz v39)), (.double v75)]))
  generalize hv74_2 : ((FP.dsub zz v39) : UInt64) = v74_2 at d74_2 ⊢
  show Dn p e below s _ _ _ (s₁.setTop (mkF m 75 #[.val (.ref a), .val (.double v27_3), .second, .val (.double v39), .second, .val (.double v75), .second, .val (.ref a), .val (.int (3 : Int32)), .val (.int (1 : Int32)), .val (.double zz), .second] [(.double v74_2), (.double v75)]))
  have d75_2 : DS 0 0 (FP.dadd v75 v74_2) := DS.addc d75 d74_2 (by omega) (by omega) (by decide)
  refine Dn.st (fun _ kk => XS.daddS X0.here hx rfl (hb hby d2_75) rfl d75_2.nn rfl (kk)) ?_
  show Dn p e below s _ _ _ (s₁.setTop (mkF m 76 #[.val (.ref a), .val (.double v27_3), .second, .val (.double v39), .second, .val (.double v75), .second, .val (.ref a), .val (.int (3 : Int32)), .val (.int (1 : Int32)), .val (.double zz), .second] [(.double (FP.dadd v75 v74_2))]))
  generalize hv75_2 : ((FP.dadd v75 v74_2) : UInt64) = v75_2 at d75_2 ⊢
  show Dn p e below s _ _ _ (s₁.setTop (mkF m 76 #[.val (.ref a), .val (.double v27_3), .second, .val (.double v39), .second, .val (.double v75), .second, .val (.ref a), .val (.int (3 : Int32)), .val (.int (1 : Int32)), .val (.double zz), .second] [(.double v75_2)]))
  refine Dn.st (fun _ kk => XS.dstore X0.here hx rfl (hb hby d2_76) rfl (l' := #[.val (.ref a), .val (.double v27_3), .second, .val (.double v39), .second, .val (.double v75_2), .second, .val (.ref a), .val (.int (3 : Int32)), .val (.int (1 : Int32)), .val (.double zz), .second]) rfl (XS.iinc X0.here hx rfl (hb hby d2_78) rfl (l' := #[.val (.ref a), .val (.double v27_3), .second, .val (.double v39), .second, .val (.double v75_2), .second, .val (.ref a), .val (.int (3 : Int32)), .val (.int (2 : Int32)), .val (.double zz), .second]) rfl (XS.goto X0.here hx rfl (pc0 := 81) (pc' := 55) rfl (hb hby d2_81) (by decide) (by decide) (XS.iload X0.here hx rfl (hb hby d2_55) rfl  (XS.iload X0.here hx rfl (hb hby d2_57) rfl  (kk)))))) ?_
  show Dn p e below s _ _ _ (s₁.setTop (mkF m 59 #[.val (.ref a), .val (.double v27_3), .second, .val (.double v39), .second, .val (.double v75_2), .second, .val (.ref a), .val (.int (3 : Int32)), .val (.int (2 : Int32)), .val (.double zz), .second] [(.int (3 : Int32)), (.int (2 : Int32))]))
  have hc59_3 : (2 : Int32) < (3 : Int32) := by decide
  refine Dn.st (fun _ kk => XS.icmpNo X0.here hx rfl (hb hby d2_59) rfl (tlt hc59_3).2.1 (XS.aload X0.here hx rfl (hb hby d2_62) rfl rfl (XS.iload X0.here hx rfl (hb hby d2_64) rfl  (kk)))) ?_
  show Dn p e below s _ _ _ (s₁.setTop (mkF m 66 #[.val (.ref a), .val (.double v27_3), .second, .val (.double v39), .second, .val (.double v75_2), .second, .val (.ref a), .val (.int (3 : Int32)), .val (.int (2 : Int32)), .val (.double zz), .second] [(.int (2 : Int32)), (.ref a)]))
  have Vc_a_66_3 := Va
  obtain ⟨cl_a_66_3, Ar_a_66_3, q_a_66_3, S_a_66_3, N_a_66_3, H_a_66_3, G_a_66_3⟩ := Vc_a_66_3
  have hin66_3 : ¬ ((2 : Int32) < 0 ∨ cl_a_66_3.slots.size ≤ ((2 : Int32)).toNatClampNeg) := inb_of S_a_66_3 ⟨by decide, by decide⟩
  have hat66_3 : cl_a_66_3.slots[((2 : Int32)).toNatClampNeg]? = some (.double zz) := H_a_66_3.at hin66_3 rfl
  refine Dn.st (fun _ kk => X0.daload hx (j := (2 : Int32)) (v := (.double zz)) (by rw [e0]; exact Ar_a_66_3.1) (State.isArrayOf_alike hZ.alike Ar_a_66_3.2.1) Ar_a_66_3.2.2 hin66_3 hat66_3 (g := (mkF m 66 #[.val (.ref a), .val (.double v27_3), .second, .val (.double v39), .second, .val (.double v75_2), .second, .val (.ref a), .val (.int (3 : Int32)), .val (.int (2 : Int32)), .val (.double zz), .second] [(.int (2 : Int32)), (.ref a)])) rfl rfl (hb hby d2_66) _ (XS.dstore X0.here hx rfl (hb hby d2_67) rfl (l' := #[.val (.ref a), .val (.double v27_3), .second, .val (.double v39), .second, .val (.double v75_2), .second, .val (.ref a), .val (.int (3 : Int32)), .val (.int (2 : Int32)), .val (.double zz), .second]) rfl (XS.dload X0.here hx rfl (hb hby d2_69) rfl  (XS.dload X0.here hx rfl (hb hby d2_71) rfl  (XS.dloadN X0.here hx rfl (hb hby d2_73) rfl  (kk)))))) ?_
  show Dn p e below s _ _ _ (s₁.setTop (mkF m 74 #[.val (.ref a), .val (.double v27_3), .second, .val (.double v39), .second, .val (.double v75_2), .second, .val (.ref a), .val (.int (3 : Int32)), .val (.int (2 : Int32)), .val (.double zz), .second] [(.double v39), (.double zz), (.double v75_2)]))
  have d74_3 : DS 0 0 (FP.dsub zz v39) := DS.subc d_zz d39 (by omega) (by omega) (by decide)
  refine Dn.st (fun _ kk => XS.dsubS X0.here hx rfl (hb hby d2_74) rfl d74_3.nn rfl (kk)) ?_
  show Dn p e below s _ _ _ (s₁.setTop (mkF m 75 #[.val (.ref a), .val (.double v27_3), .second, .val (.double v39), .second, .val (.double v75_2), .second, .val (.ref a), .val (.int (3 : Int32)), .val (.int (2 : Int32)), .val (.double zz), .second] [(.double (FP.dsub zz v39)), (.double v75_2)]))
  generalize hv74_3 : ((FP.dsub zz v39) : UInt64) = v74_3 at d74_3 ⊢
  show Dn p e below s _ _ _ (s₁.setTop (mkF m 75 #[.val (.ref a), .val (.double v27_3), .second, .val (.double v39), .second, .val (.double v75_2), .second, .val (.ref a), .val (.int (3 : Int32)), .val (.int (2 : Int32)), .val (.double zz), .second] [(.double v74_3), (.double v75_2)]))
  have d75_3 : DS 0 0 (FP.dadd v75_2 v74_3) := DS.addc d75_2 d74_3 (by omega) (by omega) (by decide)
  refine Dn.st (fun _ kk => XS.daddS X0.here hx rfl (hb hby d2_75) rfl d75_3.nn rfl (kk)) ?_
  show Dn p e below s _ _ _ (s₁.setTop (mkF m 76 #[.val (.ref a), .val (.double v27_3), .second, .val (.double v39), .second, .val (.double v75_2), .second, .val (.ref a), .val (.int (3 : Int32)), .val (.int (2 : Int32)), .val (.double zz), .second] [(.double (FP.dadd v75_2 v74_3))]))
  generalize hv75_3 : ((FP.dadd v75_2 v74_3) : UInt64) = v75_3 at d75_3 ⊢
  show Dn p e below s _ _ _ (s₁.setTop (mkF m 76 #[.val (.ref a), .val (.double v27_3), .second, .val (.double v39), .second, .val (.double v75_2), .second, .val (.ref a), .val (.int (3 : Int32)), .val (.int (2 : Int32)), .val (.double zz), .second] [(.double v75_3)]))
  refine Dn.st (fun _ kk => XS.dstore X0.here hx rfl (hb hby d2_76) rfl (l' := #[.val (.ref a), .val (.double v27_3), .second, .val (.double v39), .second, .val (.double v75_3), .second, .val (.ref a), .val (.int (3 : Int32)), .val (.int (2 : Int32)), .val (.double zz), .second]) rfl (XS.iinc X0.here hx rfl (hb hby d2_78) rfl (l' := #[.val (.ref a), .val (.double v27_3), .second, .val (.double v39), .second, .val (.double v75_3), .second, .val (.ref a), .val (.int (3 : Int32)), .val (.int (3 : Int32)), .val (.double zz), .second]) rfl (XS.goto X0.here hx rfl (pc0 := 81) (pc' := 55) rfl (hb hby d2_81) (by decide) (by decide) (XS.iload X0.here hx rfl (hb hby d2_55) rfl  (XS.iload X0.here hx rfl (hb hby d2_57) rfl  (kk)))))) ?_
  show Dn p e below s _ _ _ (s₁.setTop (mkF m 59 #[.val (.ref a), .val (.double v27_3), .second, .val (.double v39), .second, .val (.double v75_3), .second, .val (.ref a), .val (.int (3 : Int32)), .val (.int (3 : Int32)), .val (.double zz), .second] [(.int (3 : Int32)), (.int (3 : Int32))]))
  have hc59_4 : ¬ ((3 : Int32) < (3 : Int32)) := by decide
  refine Dn.st (fun _ kk => XS.icmpYes X0.here hx rfl (pc0 := 59) (pc' := 84) rfl (hb hby d2_59) rfl (flt hc59_4).2.1 (by decide) (by decide) (XS.dloadN X0.here hx rfl (hb hby d2_84) rfl  (XS.dload X0.here hx rfl (hb hby d2_85) rfl  (XS.aloadN X0.here hx rfl (hb hby d2_87) rfl rfl (kk))))) ?_
  show Dn p e below s _ _ _ (s₁.setTop (mkF m 88 #[.val (.ref a), .val (.double v27_3), .second, .val (.double v39), .second, .val (.double v75_3), .second, .val (.ref a), .val (.int (3 : Int32)), .val (.int (3 : Int32)), .val (.double zz), .second] [(.ref a), (.double v75_3), (.double v39)]))
  have Vc_a_88 := Va
  obtain ⟨cl_a_88, Ar_a_88, q_a_88, S_a_88, N_a_88, H_a_88, G_a_88⟩ := Vc_a_88
  refine Dn.st (fun _ kk => X0.arraylength hx (by rw [e0]; exact Ar_a_88.1) (State.isArrayOf_alike hZ.alike Ar_a_88.2.1) (g := (mkF m 88 #[.val (.ref a), .val (.double v27_3), .second, .val (.double v39), .second, .val (.double v75_3), .second, .val (.ref a), .val (.int (3 : Int32)), .val (.int (3 : Int32)), .val (.double zz), .second] [(.ref a), (.double v75_3), (.double v39)])) rfl rfl (hb hby d2_88) _ (kk)) ?_
  show Dn p e below s _ _ _ (s₁.setTop (mkF m 89 #[.val (.ref a), .val (.double v27_3), .second, .val (.double v39), .second, .val (.double v75_3), .second, .val (.ref a), .val (.int (3 : Int32)), .val (.int (3 : Int32)), .val (.double zz), .second] [(.int cl_a_88.slots.size.toInt32), (.double v75_3), (.double v39)]))
  rw [len_of S_a_88 N_a_88]
  show Dn p e below s _ _ _ (s₁.setTop (mkF m 89 #[.val (.ref a), .val (.double v27_3), .second, .val (.double v39), .second, .val (.double v75_3), .second, .val (.ref a), .val (.int (3 : Int32)), .val (.int (3 : Int32)), .val (.double zz), .second] [(.int (3 : Int32)), (.double v75_3), (.double v39)]))
  have d89 := DS.i2d (3 : Int32)
  refine Dn.st (fun _ kk => XS.i2dS X0.here hx rfl (hb hby d2_89) rfl rfl (kk)) ?_
  show Dn p e below s _ _ _ (s₁.setTop (mkF m 90 #[.val (.ref a), .val (.double v27_3), .second, .val (.double v39), .second, .val (.double v75_3), .second, .val (.ref a), .val (.int (3 : Int32)), .val (.int (3 : Int32)), .val (.double zz), .second] [(.double (FP.i2d (3 : Int32))), (.double v75_3), (.double v39)]))
  generalize hv89 : ((FP.i2d (3 : Int32)) : UInt64) = v89 at d89 ⊢
  show Dn p e below s _ _ _ (s₁.setTop (mkF m 90 #[.val (.ref a), .val (.double v27_3), .second, .val (.double v39), .second, .val (.double v75_3), .second, .val (.ref a), .val (.int (3 : Int32)), .val (.int (3 : Int32)), .val (.double zz), .second] [(.double v89), (.double v75_3), (.double v39)]))
  have d90 : DS 0 0 (FP.ddiv v75_3 v89) := DS.div (n := 0) (Q := 0) d75_3 (DS.cast (i' := 3) d89 rfl (by decide)) (by decide) (by decide) (by decide) (by decide)
  refine Dn.st (fun _ kk => XS.ddivS X0.here hx rfl (hb hby d2_90) rfl d90.nn rfl (kk)) ?_
  show Dn p e below s _ _ _ (s₁.setTop (mkF m 91 #[.val (.ref a), .val (.double v27_3), .second, .val (.double v39), .second, .val (.double v75_3), .second, .val (.ref a), .val (.int (3 : Int32)), .val (.int (3 : Int32)), .val (.double zz), .second] [(.double (FP.ddiv v75_3 v89)), (.double v39)]))
  generalize hv90 : ((FP.ddiv v75_3 v89) : UInt64) = v90 at d90 ⊢
  show Dn p e below s _ _ _ (s₁.setTop (mkF m 91 #[.val (.ref a), .val (.double v27_3), .second, .val (.double v39), .second, .val (.double v75_3), .second, .val (.ref a), .val (.int (3 : Int32)), .val (.int (3 : Int32)), .val (.double zz), .second] [(.double v90), (.double v39)]))
  have d91 : DS 0 kq (FP.dadd v39 v90) := DS.addc d39 d90 (by omega) (by omega) (by decide)
  refine Dn.st (fun _ kk => XS.daddS X0.here hx rfl (hb hby d2_91) rfl d91.nn rfl (kk)) ?_
  show Dn p e below s _ _ _ (s₁.setTop (mkF m 92 #[.val (.ref a), .val (.double v27_3), .second, .val (.double v39), .second, .val (.double v75_3), .second, .val (.ref a), .val (.int (3 : Int32)), .val (.int (3 : Int32)), .val (.double zz), .second] [(.double (FP.dadd v39 v90))]))
  generalize hv91 : ((FP.dadd v39 v90) : UInt64) = v91 at d91 ⊢
  show Dn p e below s _ _ _ (s₁.setTop (mkF m 92 #[.val (.ref a), .val (.double v27_3), .second, .val (.double v39), .second, .val (.double v75_3), .second, .val (.ref a), .val (.int (3 : Int32)), .val (.int (3 : Int32)), .val (.double zz), .second] [(.double v91)]))
  exact Dn.ret X0 hlk hx hret rfl (Or.inr (Or.inr (Or.inl ⟨rfl, rfl, _, rfl⟩))) (hb hby d2_92) (by rw [e0]; exact ⟨_, rfl, d91, N0, rfl⟩) (by decide) (by decide)

theorem ef2_rm2S_4 (m : MethodId) (x0 : Addr) : entryFrame m #[(.ref x0)] 12 = mkF m 0 #[.val (.ref x0), .unset, .unset, .unset, .unset, .unset, .unset, .unset, .unset, .unset, .unset, .unset] [] := by first | (simp [entryFrame, mkF, argsToLocals, Value.category]; done) | rfl
def Q2S_4 (Z : State) (a : Addr) (ka : ClassId) (zz : UInt64) (kq : Int) (h0 : Heap) (n0 : Nat) (v : Option Value) (h : Heap) (L : List Loc) : Prop := ∃ z, v = some (.double z) ∧ DS 0 kq z ∧ Fr n0 L ∧ h = h0
set_option maxRecDepth 65536 in
set_option maxHeartbeats 40000000 in
theorem rm2S_4 (l : Launch) (Z : State) (a0 : Array Value) (hw : ∀ d ∈ tables_1, d.before a0 Z = true) (ws : List Jvm.Cond) (a : Addr) (ka : ClassId) (zz : UInt64) (kq : Int) (h0 : Heap) (n0 : Nat) (Z0 : n0 ≤ h0.size) (Va : Arv Z h0 a ka .double 4 [(.double zz), (.double zz), (.double zz), (.double zz)] (.double 0)) (d_zz : DS 0 kq zz) (hkb : -2251799813685248 ≤ kq ∧ kq ≤ 2251799813685248) :
    MetFree l (⟨"com/example/listino/listino/stats/Moments", "mean", "([D)D"⟩ : MethodName) (head1 (Jvm.Cond.code (⟨"com/example/listino/listino/stats/Moments", "mean", "([D)D"⟩ : MethodName) prog_51_method_2_code 12 (some .double) :: ws) ({ frames := 0, cells := 0, slots := 0, locals := 0 } : Room)) (fun aa UU => aa = #[(.ref a)] ∧ Z.Warmed39 UU.vm ∧ UU.heap = h0) (fun _ _ _ _ _ => True) (fun _ UU oo UU' => ∃ vv LL, oo = .returned vv ∧ Q2S_4 Z a ka zz kq h0 n0 vv UU'.heap LL ∧ FrameEnd UU oo UU' LL ({ frames := 0, cells := 0, slots := 0, locals := 0 } : Room).cells ({ frames := 0, cells := 0, slots := 0, locals := 0 } : Room).slots) := by
  refine MetFree.of_bodySF (plainFor_of_name pn1) hisR ?_
  intro p e s m args below meth c s₁ Bd hml0 hP hK
  obtain ⟨rfl, hZ, hh⟩ := hP
  have hx := Bd.exec
  have hby := Bd.bytes
  have hlk : meth.locks = false := BodyLoose.notSynchronized Bd
  have hret := Bd.returns
  have hml : c.maxLocals = 12 := hml0
  have hown : s.vm.findClass "com/example/listino/listino/stats/Moments" = some m.cls := findClass_of_methodNamed Bd.named
  have hnm := (name_of_methodNamed Bd.named Bd.method).1
  have X0 : Stand p l e ({ frames := 0, cells := 0, slots := 0, locals := 0 } : Room) s m #[(.ref a)] below meth c s₁ [] 0 0 := Stand.of_body Bd
  have e0 : s₁.heap = h0 := by rw [← hh, Bd.state]; rfl
  have N0 := Fr.nil n0
  show Dn p e below s (Q2S_4 Z a ka zz kq h0 n0) ({ frames := 0, cells := 0, slots := 0, locals := 0 } : Room).cells ({ frames := 0, cells := 0, slots := 0, locals := 0 } : Room).slots (s₁.setTop (entryFrame m #[(.ref a)] 12))
  refine Dn.st (fun _ kk => castTop (ef2_rm2S_4 m a) kk) ?_
  show Dn p e below s _ _ _ (s₁.setTop (mkF m 0 #[.val (.ref a), .unset, .unset, .unset, .unset, .unset, .unset, .unset, .unset, .unset, .unset, .unset] []))
  refine Dn.st (fun _ kk => XS.dconst0 X0.here hx rfl (hb hby d2_0) rfl (XS.dstoreN X0.here hx rfl (hb hby d2_1) rfl (l' := #[.val (.ref a), .val (.double FP.dconst0), .second, .unset, .unset, .unset, .unset, .unset, .unset, .unset, .unset, .unset]) rfl (XS.aloadN X0.here hx rfl (hb hby d2_2) rfl rfl (XS.astoreN X0.here hx rfl (hb hby d2_3) rfl rfl (l' := #[.val (.ref a), .val (.double FP.dconst0), .second, .val (.ref a), .unset, .unset, .unset, .unset, .unset, .unset, .unset, .unset]) rfl (XS.aloadN X0.here hx rfl (hb hby d2_4) rfl rfl (kk)))))) ?_
  show Dn p e below s _ _ _ (s₁.setTop (mkF m 5 #[.val (.ref a), .val (.double FP.dconst0), .second, .val (.ref a), .unset, .unset, .unset, .unset, .unset, .unset, .unset, .unset] [(.ref a)]))
  have Vc_a_5 := Va
  obtain ⟨cl_a_5, Ar_a_5, q_a_5, S_a_5, N_a_5, H_a_5, G_a_5⟩ := Vc_a_5
  refine Dn.st (fun _ kk => X0.arraylength hx (by rw [e0]; exact Ar_a_5.1) (State.isArrayOf_alike hZ.alike Ar_a_5.2.1) (g := (mkF m 5 #[.val (.ref a), .val (.double FP.dconst0), .second, .val (.ref a), .unset, .unset, .unset, .unset, .unset, .unset, .unset, .unset] [(.ref a)])) rfl rfl (hb hby d2_5) _ (kk)) ?_
  show Dn p e below s _ _ _ (s₁.setTop (mkF m 6 #[.val (.ref a), .val (.double FP.dconst0), .second, .val (.ref a), .unset, .unset, .unset, .unset, .unset, .unset, .unset, .unset] [(.int cl_a_5.slots.size.toInt32)]))
  rw [len_of S_a_5 N_a_5]
  show Dn p e below s _ _ _ (s₁.setTop (mkF m 6 #[.val (.ref a), .val (.double FP.dconst0), .second, .val (.ref a), .unset, .unset, .unset, .unset, .unset, .unset, .unset, .unset] [(.int (4 : Int32))]))
  refine Dn.st (fun _ kk => XS.istore X0.here hx rfl (hb hby d2_6) rfl (l' := #[.val (.ref a), .val (.double FP.dconst0), .second, .val (.ref a), .val (.int (4 : Int32)), .unset, .unset, .unset, .unset, .unset, .unset, .unset]) rfl (XS.iconst X0.here hx rfl (hb hby d2_8) (XS.istore X0.here hx rfl (hb hby d2_9) rfl (l' := #[.val (.ref a), .val (.double FP.dconst0), .second, .val (.ref a), .val (.int (4 : Int32)), .val (.int (0 : Int32)), .unset, .unset, .unset, .unset, .unset, .unset]) rfl (XS.iload X0.here hx rfl (hb hby d2_11) rfl  (XS.iload X0.here hx rfl (hb hby d2_13) rfl  (kk)))))) ?_
  show Dn p e below s _ _ _ (s₁.setTop (mkF m 15 #[.val (.ref a), .val (.double FP.dconst0), .second, .val (.ref a), .val (.int (4 : Int32)), .val (.int (0 : Int32)), .unset, .unset, .unset, .unset, .unset, .unset] [(.int (4 : Int32)), (.int (0 : Int32))]))
  have hc15 : (0 : Int32) < (4 : Int32) := by decide
  refine Dn.st (fun _ kk => XS.icmpNo X0.here hx rfl (hb hby d2_15) rfl (tlt hc15).2.1 (XS.aloadN X0.here hx rfl (hb hby d2_18) rfl rfl (XS.iload X0.here hx rfl (hb hby d2_19) rfl  (kk)))) ?_
  show Dn p e below s _ _ _ (s₁.setTop (mkF m 21 #[.val (.ref a), .val (.double FP.dconst0), .second, .val (.ref a), .val (.int (4 : Int32)), .val (.int (0 : Int32)), .unset, .unset, .unset, .unset, .unset, .unset] [(.int (0 : Int32)), (.ref a)]))
  have Vc_a_21 := Va
  obtain ⟨cl_a_21, Ar_a_21, q_a_21, S_a_21, N_a_21, H_a_21, G_a_21⟩ := Vc_a_21
  have hin21 : ¬ ((0 : Int32) < 0 ∨ cl_a_21.slots.size ≤ ((0 : Int32)).toNatClampNeg) := inb_of S_a_21 ⟨by decide, by decide⟩
  have hat21 : cl_a_21.slots[((0 : Int32)).toNatClampNeg]? = some (.double zz) := H_a_21.at hin21 rfl
  refine Dn.st (fun _ kk => X0.daload hx (j := (0 : Int32)) (v := (.double zz)) (by rw [e0]; exact Ar_a_21.1) (State.isArrayOf_alike hZ.alike Ar_a_21.2.1) Ar_a_21.2.2 hin21 hat21 (g := (mkF m 21 #[.val (.ref a), .val (.double FP.dconst0), .second, .val (.ref a), .val (.int (4 : Int32)), .val (.int (0 : Int32)), .unset, .unset, .unset, .unset, .unset, .unset] [(.int (0 : Int32)), (.ref a)])) rfl rfl (hb hby d2_21) _ (XS.dstore X0.here hx rfl (hb hby d2_22) rfl (l' := #[.val (.ref a), .val (.double FP.dconst0), .second, .val (.ref a), .val (.int (4 : Int32)), .val (.int (0 : Int32)), .val (.double zz), .second, .unset, .unset, .unset, .unset]) rfl (XS.dloadN X0.here hx rfl (hb hby d2_24) rfl  (XS.dload X0.here hx rfl (hb hby d2_25) rfl  (kk))))) ?_
  show Dn p e below s _ _ _ (s₁.setTop (mkF m 27 #[.val (.ref a), .val (.double FP.dconst0), .second, .val (.ref a), .val (.int (4 : Int32)), .val (.int (0 : Int32)), .val (.double zz), .second, .unset, .unset, .unset, .unset] [(.double zz), (.double FP.dconst0)]))
  have d27 : DS 0 (0 + kq) (FP.dadd FP.dconst0 zz) := DS.add dc_0 d_zz (by omega) (by decide)
  refine Dn.st (fun _ kk => XS.daddS X0.here hx rfl (hb hby d2_27) rfl d27.nn rfl (kk)) ?_
  show Dn p e below s _ _ _ (s₁.setTop (mkF m 28 #[.val (.ref a), .val (.double FP.dconst0), .second, .val (.ref a), .val (.int (4 : Int32)), .val (.int (0 : Int32)), .val (.double zz), .second, .unset, .unset, .unset, .unset] [(.double (FP.dadd FP.dconst0 zz))]))
  generalize hv27 : ((FP.dadd FP.dconst0 zz) : UInt64) = v27 at d27 ⊢
  show Dn p e below s _ _ _ (s₁.setTop (mkF m 28 #[.val (.ref a), .val (.double FP.dconst0), .second, .val (.ref a), .val (.int (4 : Int32)), .val (.int (0 : Int32)), .val (.double zz), .second, .unset, .unset, .unset, .unset] [(.double v27)]))
  refine Dn.st (fun _ kk => XS.dstoreN X0.here hx rfl (hb hby d2_28) rfl (l' := #[.val (.ref a), .val (.double v27), .second, .val (.ref a), .val (.int (4 : Int32)), .val (.int (0 : Int32)), .val (.double zz), .second, .unset, .unset, .unset, .unset]) rfl (XS.iinc X0.here hx rfl (hb hby d2_29) rfl (l' := #[.val (.ref a), .val (.double v27), .second, .val (.ref a), .val (.int (4 : Int32)), .val (.int (1 : Int32)), .val (.double zz), .second, .unset, .unset, .unset, .unset]) rfl (XS.goto X0.here hx rfl (pc0 := 32) (pc' := 11) rfl (hb hby d2_32) (by decide) (by decide) (XS.iload X0.here hx rfl (hb hby d2_11) rfl  (XS.iload X0.here hx rfl (hb hby d2_13) rfl  (kk)))))) ?_
  show Dn p e below s _ _ _ (s₁.setTop (mkF m 15 #[.val (.ref a), .val (.double v27), .second, .val (.ref a), .val (.int (4 : Int32)), .val (.int (1 : Int32)), .val (.double zz), .second, .unset, .unset, .unset, .unset] [(.int (4 : Int32)), (.int (1 : Int32))]))
  have hc15_2 : (1 : Int32) < (4 : Int32) := by decide
  refine Dn.st (fun _ kk => XS.icmpNo X0.here hx rfl (hb hby d2_15) rfl (tlt hc15_2).2.1 (XS.aloadN X0.here hx rfl (hb hby d2_18) rfl rfl (XS.iload X0.here hx rfl (hb hby d2_19) rfl  (kk)))) ?_
  show Dn p e below s _ _ _ (s₁.setTop (mkF m 21 #[.val (.ref a), .val (.double v27), .second, .val (.ref a), .val (.int (4 : Int32)), .val (.int (1 : Int32)), .val (.double zz), .second, .unset, .unset, .unset, .unset] [(.int (1 : Int32)), (.ref a)]))
  have Vc_a_21_2 := Va
  obtain ⟨cl_a_21_2, Ar_a_21_2, q_a_21_2, S_a_21_2, N_a_21_2, H_a_21_2, G_a_21_2⟩ := Vc_a_21_2
  have hin21_2 : ¬ ((1 : Int32) < 0 ∨ cl_a_21_2.slots.size ≤ ((1 : Int32)).toNatClampNeg) := inb_of S_a_21_2 ⟨by decide, by decide⟩
  have hat21_2 : cl_a_21_2.slots[((1 : Int32)).toNatClampNeg]? = some (.double zz) := H_a_21_2.at hin21_2 rfl
  refine Dn.st (fun _ kk => X0.daload hx (j := (1 : Int32)) (v := (.double zz)) (by rw [e0]; exact Ar_a_21_2.1) (State.isArrayOf_alike hZ.alike Ar_a_21_2.2.1) Ar_a_21_2.2.2 hin21_2 hat21_2 (g := (mkF m 21 #[.val (.ref a), .val (.double v27), .second, .val (.ref a), .val (.int (4 : Int32)), .val (.int (1 : Int32)), .val (.double zz), .second, .unset, .unset, .unset, .unset] [(.int (1 : Int32)), (.ref a)])) rfl rfl (hb hby d2_21) _ (XS.dstore X0.here hx rfl (hb hby d2_22) rfl (l' := #[.val (.ref a), .val (.double v27), .second, .val (.ref a), .val (.int (4 : Int32)), .val (.int (1 : Int32)), .val (.double zz), .second, .unset, .unset, .unset, .unset]) rfl (XS.dloadN X0.here hx rfl (hb hby d2_24) rfl  (XS.dload X0.here hx rfl (hb hby d2_25) rfl  (kk))))) ?_
  show Dn p e below s _ _ _ (s₁.setTop (mkF m 27 #[.val (.ref a), .val (.double v27), .second, .val (.ref a), .val (.int (4 : Int32)), .val (.int (1 : Int32)), .val (.double zz), .second, .unset, .unset, .unset, .unset] [(.double zz), (.double v27)]))
  have d27_2 : DS 0 ((0 + kq) + kq) (FP.dadd v27 zz) := DS.add d27 d_zz (by omega) (by decide)
  refine Dn.st (fun _ kk => XS.daddS X0.here hx rfl (hb hby d2_27) rfl d27_2.nn rfl (kk)) ?_
  show Dn p e below s _ _ _ (s₁.setTop (mkF m 28 #[.val (.ref a), .val (.double v27), .second, .val (.ref a), .val (.int (4 : Int32)), .val (.int (1 : Int32)), .val (.double zz), .second, .unset, .unset, .unset, .unset] [(.double (FP.dadd v27 zz))]))
  generalize hv27_2 : ((FP.dadd v27 zz) : UInt64) = v27_2 at d27_2 ⊢
  show Dn p e below s _ _ _ (s₁.setTop (mkF m 28 #[.val (.ref a), .val (.double v27), .second, .val (.ref a), .val (.int (4 : Int32)), .val (.int (1 : Int32)), .val (.double zz), .second, .unset, .unset, .unset, .unset] [(.double v27_2)]))
  refine Dn.st (fun _ kk => XS.dstoreN X0.here hx rfl (hb hby d2_28) rfl (l' := #[.val (.ref a), .val (.double v27_2), .second, .val (.ref a), .val (.int (4 : Int32)), .val (.int (1 : Int32)), .val (.double zz), .second, .unset, .unset, .unset, .unset]) rfl (XS.iinc X0.here hx rfl (hb hby d2_29) rfl (l' := #[.val (.ref a), .val (.double v27_2), .second, .val (.ref a), .val (.int (4 : Int32)), .val (.int (2 : Int32)), .val (.double zz), .second, .unset, .unset, .unset, .unset]) rfl (XS.goto X0.here hx rfl (pc0 := 32) (pc' := 11) rfl (hb hby d2_32) (by decide) (by decide) (XS.iload X0.here hx rfl (hb hby d2_11) rfl  (XS.iload X0.here hx rfl (hb hby d2_13) rfl  (kk)))))) ?_
  show Dn p e below s _ _ _ (s₁.setTop (mkF m 15 #[.val (.ref a), .val (.double v27_2), .second, .val (.ref a), .val (.int (4 : Int32)), .val (.int (2 : Int32)), .val (.double zz), .second, .unset, .unset, .unset, .unset] [(.int (4 : Int32)), (.int (2 : Int32))]))
  have hc15_3 : (2 : Int32) < (4 : Int32) := by decide
  refine Dn.st (fun _ kk => XS.icmpNo X0.here hx rfl (hb hby d2_15) rfl (tlt hc15_3).2.1 (XS.aloadN X0.here hx rfl (hb hby d2_18) rfl rfl (XS.iload X0.here hx rfl (hb hby d2_19) rfl  (kk)))) ?_
  show Dn p e below s _ _ _ (s₁.setTop (mkF m 21 #[.val (.ref a), .val (.double v27_2), .second, .val (.ref a), .val (.int (4 : Int32)), .val (.int (2 : Int32)), .val (.double zz), .second, .unset, .unset, .unset, .unset] [(.int (2 : Int32)), (.ref a)]))
  have Vc_a_21_3 := Va
  obtain ⟨cl_a_21_3, Ar_a_21_3, q_a_21_3, S_a_21_3, N_a_21_3, H_a_21_3, G_a_21_3⟩ := Vc_a_21_3
  have hin21_3 : ¬ ((2 : Int32) < 0 ∨ cl_a_21_3.slots.size ≤ ((2 : Int32)).toNatClampNeg) := inb_of S_a_21_3 ⟨by decide, by decide⟩
  have hat21_3 : cl_a_21_3.slots[((2 : Int32)).toNatClampNeg]? = some (.double zz) := H_a_21_3.at hin21_3 rfl
  refine Dn.st (fun _ kk => X0.daload hx (j := (2 : Int32)) (v := (.double zz)) (by rw [e0]; exact Ar_a_21_3.1) (State.isArrayOf_alike hZ.alike Ar_a_21_3.2.1) Ar_a_21_3.2.2 hin21_3 hat21_3 (g := (mkF m 21 #[.val (.ref a), .val (.double v27_2), .second, .val (.ref a), .val (.int (4 : Int32)), .val (.int (2 : Int32)), .val (.double zz), .second, .unset, .unset, .unset, .unset] [(.int (2 : Int32)), (.ref a)])) rfl rfl (hb hby d2_21) _ (XS.dstore X0.here hx rfl (hb hby d2_22) rfl (l' := #[.val (.ref a), .val (.double v27_2), .second, .val (.ref a), .val (.int (4 : Int32)), .val (.int (2 : Int32)), .val (.double zz), .second, .unset, .unset, .unset, .unset]) rfl (XS.dloadN X0.here hx rfl (hb hby d2_24) rfl  (XS.dload X0.here hx rfl (hb hby d2_25) rfl  (kk))))) ?_
  show Dn p e below s _ _ _ (s₁.setTop (mkF m 27 #[.val (.ref a), .val (.double v27_2), .second, .val (.ref a), .val (.int (4 : Int32)), .val (.int (2 : Int32)), .val (.double zz), .second, .unset, .unset, .unset, .unset] [(.double zz), (.double v27_2)]))
  have d27_3 : DS 0 (((0 + kq) + kq) + kq) (FP.dadd v27_2 zz) := DS.add d27_2 d_zz (by omega) (by decide)
  refine Dn.st (fun _ kk => XS.daddS X0.here hx rfl (hb hby d2_27) rfl d27_3.nn rfl (kk)) ?_
  show Dn p e below s _ _ _ (s₁.setTop (mkF m 28 #[.val (.ref a), .val (.double v27_2), .second, .val (.ref a), .val (.int (4 : Int32)), .val (.int (2 : Int32)), .val (.double zz), .second, .unset, .unset, .unset, .unset] [(.double (FP.dadd v27_2 zz))]))
  generalize hv27_3 : ((FP.dadd v27_2 zz) : UInt64) = v27_3 at d27_3 ⊢
  show Dn p e below s _ _ _ (s₁.setTop (mkF m 28 #[.val (.ref a), .val (.double v27_2), .second, .val (.ref a), .val (.int (4 : Int32)), .val (.int (2 : Int32)), .val (.double zz), .second, .unset, .unset, .unset, .unset] [(.double v27_3)]))
  refine Dn.st (fun _ kk => XS.dstoreN X0.here hx rfl (hb hby d2_28) rfl (l' := #[.val (.ref a), .val (.double v27_3), .second, .val (.ref a), .val (.int (4 : Int32)), .val (.int (2 : Int32)), .val (.double zz), .second, .unset, .unset, .unset, .unset]) rfl (XS.iinc X0.here hx rfl (hb hby d2_29) rfl (l' := #[.val (.ref a), .val (.double v27_3), .second, .val (.ref a), .val (.int (4 : Int32)), .val (.int (3 : Int32)), .val (.double zz), .second, .unset, .unset, .unset, .unset]) rfl (XS.goto X0.here hx rfl (pc0 := 32) (pc' := 11) rfl (hb hby d2_32) (by decide) (by decide) (XS.iload X0.here hx rfl (hb hby d2_11) rfl  (XS.iload X0.here hx rfl (hb hby d2_13) rfl  (kk)))))) ?_
  show Dn p e below s _ _ _ (s₁.setTop (mkF m 15 #[.val (.ref a), .val (.double v27_3), .second, .val (.ref a), .val (.int (4 : Int32)), .val (.int (3 : Int32)), .val (.double zz), .second, .unset, .unset, .unset, .unset] [(.int (4 : Int32)), (.int (3 : Int32))]))
  have hc15_4 : (3 : Int32) < (4 : Int32) := by decide
  refine Dn.st (fun _ kk => XS.icmpNo X0.here hx rfl (hb hby d2_15) rfl (tlt hc15_4).2.1 (XS.aloadN X0.here hx rfl (hb hby d2_18) rfl rfl (XS.iload X0.here hx rfl (hb hby d2_19) rfl  (kk)))) ?_
  show Dn p e below s _ _ _ (s₁.setTop (mkF m 21 #[.val (.ref a), .val (.double v27_3), .second, .val (.ref a), .val (.int (4 : Int32)), .val (.int (3 : Int32)), .val (.double zz), .second, .unset, .unset, .unset, .unset] [(.int (3 : Int32)), (.ref a)]))
  have Vc_a_21_4 := Va
  obtain ⟨cl_a_21_4, Ar_a_21_4, q_a_21_4, S_a_21_4, N_a_21_4, H_a_21_4, G_a_21_4⟩ := Vc_a_21_4
  have hin21_4 : ¬ ((3 : Int32) < 0 ∨ cl_a_21_4.slots.size ≤ ((3 : Int32)).toNatClampNeg) := inb_of S_a_21_4 ⟨by decide, by decide⟩
  have hat21_4 : cl_a_21_4.slots[((3 : Int32)).toNatClampNeg]? = some (.double zz) := H_a_21_4.at hin21_4 rfl
  refine Dn.st (fun _ kk => X0.daload hx (j := (3 : Int32)) (v := (.double zz)) (by rw [e0]; exact Ar_a_21_4.1) (State.isArrayOf_alike hZ.alike Ar_a_21_4.2.1) Ar_a_21_4.2.2 hin21_4 hat21_4 (g := (mkF m 21 #[.val (.ref a), .val (.double v27_3), .second, .val (.ref a), .val (.int (4 : Int32)), .val (.int (3 : Int32)), .val (.double zz), .second, .unset, .unset, .unset, .unset] [(.int (3 : Int32)), (.ref a)])) rfl rfl (hb hby d2_21) _ (XS.dstore X0.here hx rfl (hb hby d2_22) rfl (l' := #[.val (.ref a), .val (.double v27_3), .second, .val (.ref a), .val (.int (4 : Int32)), .val (.int (3 : Int32)), .val (.double zz), .second, .unset, .unset, .unset, .unset]) rfl (XS.dloadN X0.here hx rfl (hb hby d2_24) rfl  (XS.dload X0.here hx rfl (hb hby d2_25) rfl  (kk))))) ?_
  show Dn p e below s _ _ _ (s₁.setTop (mkF m 27 #[.val (.ref a), .val (.double v27_3), .second, .val (.ref a), .val (.int (4 : Int32)), .val (.int (3 : Int32)), .val (.double zz), .second, .unset, .unset, .unset, .unset] [(.double zz), (.double v27_3)]))
  have d27_4 : DS 0 ((((0 + kq) + kq) + kq) + kq) (FP.dadd v27_3 zz) := DS.add d27_3 d_zz (by omega) (by decide)
  refine Dn.st (fun _ kk => XS.daddS X0.here hx rfl (hb hby d2_27) rfl d27_4.nn rfl (kk)) ?_
  show Dn p e below s _ _ _ (s₁.setTop (mkF m 28 #[.val (.ref a), .val (.double v27_3), .second, .val (.ref a), .val (.int (4 : Int32)), .val (.int (3 : Int32)), .val (.double zz), .second, .unset, .unset, .unset, .unset] [(.double (FP.dadd v27_3 zz))]))
  generalize hv27_4 : ((FP.dadd v27_3 zz) : UInt64) = v27_4 at d27_4 ⊢
  show Dn p e below s _ _ _ (s₁.setTop (mkF m 28 #[.val (.ref a), .val (.double v27_3), .second, .val (.ref a), .val (.int (4 : Int32)), .val (.int (3 : Int32)), .val (.double zz), .second, .unset, .unset, .unset, .unset] [(.double v27_4)]))
  refine Dn.st (fun _ kk => XS.dstoreN X0.here hx rfl (hb hby d2_28) rfl (l' := #[.val (.ref a), .val (.double v27_4), .second, .val (.ref a), .val (.int (4 : Int32)), .val (.int (3 : Int32)), .val (.double zz), .second, .unset, .unset, .unset, .unset]) rfl (XS.iinc X0.here hx rfl (hb hby d2_29) rfl (l' := #[.val (.ref a), .val (.double v27_4), .second, .val (.ref a), .val (.int (4 : Int32)), .val (.int (4 : Int32)), .val (.double zz), .second, .unset, .unset, .unset, .unset]) rfl (XS.goto X0.here hx rfl (pc0 := 32) (pc' := 11) rfl (hb hby d2_32) (by decide) (by decide) (XS.iload X0.here hx rfl (hb hby d2_11) rfl  (XS.iload X0.here hx rfl (hb hby d2_13) rfl  (kk)))))) ?_
  show Dn p e below s _ _ _ (s₁.setTop (mkF m 15 #[.val (.ref a), .val (.double v27_4), .second, .val (.ref a), .val (.int (4 : Int32)), .val (.int (4 : Int32)), .val (.double zz), .second, .unset, .unset, .unset, .unset] [(.int (4 : Int32)), (.int (4 : Int32))]))
  have hc15_5 : ¬ ((4 : Int32) < (4 : Int32)) := by decide
  refine Dn.st (fun _ kk => XS.icmpYes X0.here hx rfl (pc0 := 15) (pc' := 35) rfl (hb hby d2_15) rfl (flt hc15_5).2.1 (by decide) (by decide) (XS.dloadN X0.here hx rfl (hb hby d2_35) rfl  (XS.aloadN X0.here hx rfl (hb hby d2_36) rfl rfl (kk)))) ?_
  show Dn p e below s _ _ _ (s₁.setTop (mkF m 37 #[.val (.ref a), .val (.double v27_4), .second, .val (.ref a), .val (.int (4 : Int32)), .val (.int (4 : Int32)), .val (.double zz), .second, .unset, .unset, .unset, .unset] [(.ref a), (.double v27_4)]))
  have Vc_a_37 := Va
  obtain ⟨cl_a_37, Ar_a_37, q_a_37, S_a_37, N_a_37, H_a_37, G_a_37⟩ := Vc_a_37
  refine Dn.st (fun _ kk => X0.arraylength hx (by rw [e0]; exact Ar_a_37.1) (State.isArrayOf_alike hZ.alike Ar_a_37.2.1) (g := (mkF m 37 #[.val (.ref a), .val (.double v27_4), .second, .val (.ref a), .val (.int (4 : Int32)), .val (.int (4 : Int32)), .val (.double zz), .second, .unset, .unset, .unset, .unset] [(.ref a), (.double v27_4)])) rfl rfl (hb hby d2_37) _ (kk)) ?_
  show Dn p e below s _ _ _ (s₁.setTop (mkF m 38 #[.val (.ref a), .val (.double v27_4), .second, .val (.ref a), .val (.int (4 : Int32)), .val (.int (4 : Int32)), .val (.double zz), .second, .unset, .unset, .unset, .unset] [(.int cl_a_37.slots.size.toInt32), (.double v27_4)]))
  rw [len_of S_a_37 N_a_37]
  show Dn p e below s _ _ _ (s₁.setTop (mkF m 38 #[.val (.ref a), .val (.double v27_4), .second, .val (.ref a), .val (.int (4 : Int32)), .val (.int (4 : Int32)), .val (.double zz), .second, .unset, .unset, .unset, .unset] [(.int (4 : Int32)), (.double v27_4)]))
  have d38 := DS.i2d (4 : Int32)
  refine Dn.st (fun _ kk => XS.i2dS X0.here hx rfl (hb hby d2_38) rfl rfl (kk)) ?_
  show Dn p e below s _ _ _ (s₁.setTop (mkF m 39 #[.val (.ref a), .val (.double v27_4), .second, .val (.ref a), .val (.int (4 : Int32)), .val (.int (4 : Int32)), .val (.double zz), .second, .unset, .unset, .unset, .unset] [(.double (FP.i2d (4 : Int32))), (.double v27_4)]))
  generalize hv38 : ((FP.i2d (4 : Int32)) : UInt64) = v38 at d38 ⊢
  show Dn p e below s _ _ _ (s₁.setTop (mkF m 39 #[.val (.ref a), .val (.double v27_4), .second, .val (.ref a), .val (.int (4 : Int32)), .val (.int (4 : Int32)), .val (.double zz), .second, .unset, .unset, .unset, .unset] [(.double v38), (.double v27_4)]))
  have d39 : DS 0 kq (FP.ddiv v27_4 v38) := DS.div (n := 0) (Q := kq) d27_4 (DS.cast (i' := 4) d38 rfl (by decide)) (by decide) (by show _ * 1 = _ * 1; omega) (by omega) (by decide)
  refine Dn.st (fun _ kk => XS.ddivS X0.here hx rfl (hb hby d2_39) rfl d39.nn rfl (kk)) ?_
  show Dn p e below s _ _ _ (s₁.setTop (mkF m 40 #[.val (.ref a), .val (.double v27_4), .second, .val (.ref a), .val (.int (4 : Int32)), .val (.int (4 : Int32)), .val (.double zz), .second, .unset, .unset, .unset, .unset] [(.double (FP.ddiv v27_4 v38))]))
  generalize hv39 : ((FP.ddiv v27_4 v38) : UInt64) = v39 at d39 ⊢
  show Dn p e below s _ _ _ (s₁.setTop (mkF m 40 #[.val (.ref a), .val (.double v27_4), .second, .val (.ref a), .val (.int (4 : Int32)), .val (.int (4 : Int32)), .val (.double zz), .second, .unset, .unset, .unset, .unset] [(.double v39)]))
  refine Dn.st (fun _ kk => XS.dstoreN X0.here hx rfl (hb hby d2_40) rfl (l' := #[.val (.ref a), .val (.double v27_4), .second, .val (.double v39), .second, .val (.int (4 : Int32)), .val (.double zz), .second, .unset, .unset, .unset, .unset]) rfl (XS.dconst0 X0.here hx rfl (hb hby d2_41) rfl (XS.dstore X0.here hx rfl (hb hby d2_42) rfl (l' := #[.val (.ref a), .val (.double v27_4), .second, .val (.double v39), .second, .val (.double FP.dconst0), .second, .unset, .unset, .unset, .unset, .unset]) rfl (XS.aloadN X0.here hx rfl (hb hby d2_44) rfl rfl (XS.astore X0.here hx rfl (hb hby d2_45) rfl rfl (l' := #[.val (.ref a), .val (.double v27_4), .second, .val (.double v39), .second, .val (.double FP.dconst0), .second, .val (.ref a), .unset, .unset, .unset, .unset]) rfl (XS.aload X0.here hx rfl (hb hby d2_47) rfl rfl (kk))))))) ?_
  show Dn p e below s _ _ _ (s₁.setTop (mkF m 49 #[.val (.ref a), .val (.double v27_4), .second, .val (.double v39), .second, .val (.double FP.dconst0), .second, .val (.ref a), .unset, .unset, .unset, .unset] [(.ref a)]))
  have Vc_a_49 := Va
  obtain ⟨cl_a_49, Ar_a_49, q_a_49, S_a_49, N_a_49, H_a_49, G_a_49⟩ := Vc_a_49
  refine Dn.st (fun _ kk => X0.arraylength hx (by rw [e0]; exact Ar_a_49.1) (State.isArrayOf_alike hZ.alike Ar_a_49.2.1) (g := (mkF m 49 #[.val (.ref a), .val (.double v27_4), .second, .val (.double v39), .second, .val (.double FP.dconst0), .second, .val (.ref a), .unset, .unset, .unset, .unset] [(.ref a)])) rfl rfl (hb hby d2_49) _ (kk)) ?_
  show Dn p e below s _ _ _ (s₁.setTop (mkF m 50 #[.val (.ref a), .val (.double v27_4), .second, .val (.double v39), .second, .val (.double FP.dconst0), .second, .val (.ref a), .unset, .unset, .unset, .unset] [(.int cl_a_49.slots.size.toInt32)]))
  rw [len_of S_a_49 N_a_49]
  show Dn p e below s _ _ _ (s₁.setTop (mkF m 50 #[.val (.ref a), .val (.double v27_4), .second, .val (.double v39), .second, .val (.double FP.dconst0), .second, .val (.ref a), .unset, .unset, .unset, .unset] [(.int (4 : Int32))]))
  refine Dn.st (fun _ kk => XS.istore X0.here hx rfl (hb hby d2_50) rfl (l' := #[.val (.ref a), .val (.double v27_4), .second, .val (.double v39), .second, .val (.double FP.dconst0), .second, .val (.ref a), .val (.int (4 : Int32)), .unset, .unset, .unset]) rfl (XS.iconst X0.here hx rfl (hb hby d2_52) (XS.istore X0.here hx rfl (hb hby d2_53) rfl (l' := #[.val (.ref a), .val (.double v27_4), .second, .val (.double v39), .second, .val (.double FP.dconst0), .second, .val (.ref a), .val (.int (4 : Int32)), .val (.int (0 : Int32)), .unset, .unset]) rfl (XS.iload X0.here hx rfl (hb hby d2_55) rfl  (XS.iload X0.here hx rfl (hb hby d2_57) rfl  (kk)))))) ?_
  show Dn p e below s _ _ _ (s₁.setTop (mkF m 59 #[.val (.ref a), .val (.double v27_4), .second, .val (.double v39), .second, .val (.double FP.dconst0), .second, .val (.ref a), .val (.int (4 : Int32)), .val (.int (0 : Int32)), .unset, .unset] [(.int (4 : Int32)), (.int (0 : Int32))]))
  have hc59 : (0 : Int32) < (4 : Int32) := by decide
  refine Dn.st (fun _ kk => XS.icmpNo X0.here hx rfl (hb hby d2_59) rfl (tlt hc59).2.1 (XS.aload X0.here hx rfl (hb hby d2_62) rfl rfl (XS.iload X0.here hx rfl (hb hby d2_64) rfl  (kk)))) ?_
  show Dn p e below s _ _ _ (s₁.setTop (mkF m 66 #[.val (.ref a), .val (.double v27_4), .second, .val (.double v39), .second, .val (.double FP.dconst0), .second, .val (.ref a), .val (.int (4 : Int32)), .val (.int (0 : Int32)), .unset, .unset] [(.int (0 : Int32)), (.ref a)]))
  have Vc_a_66 := Va
  obtain ⟨cl_a_66, Ar_a_66, q_a_66, S_a_66, N_a_66, H_a_66, G_a_66⟩ := Vc_a_66
  have hin66 : ¬ ((0 : Int32) < 0 ∨ cl_a_66.slots.size ≤ ((0 : Int32)).toNatClampNeg) := inb_of S_a_66 ⟨by decide, by decide⟩
  have hat66 : cl_a_66.slots[((0 : Int32)).toNatClampNeg]? = some (.double zz) := H_a_66.at hin66 rfl
  refine Dn.st (fun _ kk => X0.daload hx (j := (0 : Int32)) (v := (.double zz)) (by rw [e0]; exact Ar_a_66.1) (State.isArrayOf_alike hZ.alike Ar_a_66.2.1) Ar_a_66.2.2 hin66 hat66 (g := (mkF m 66 #[.val (.ref a), .val (.double v27_4), .second, .val (.double v39), .second, .val (.double FP.dconst0), .second, .val (.ref a), .val (.int (4 : Int32)), .val (.int (0 : Int32)), .unset, .unset] [(.int (0 : Int32)), (.ref a)])) rfl rfl (hb hby d2_66) _ (XS.dstore X0.here hx rfl (hb hby d2_67) rfl (l' := #[.val (.ref a), .val (.double v27_4), .second, .val (.double v39), .second, .val (.double FP.dconst0), .second, .val (.ref a), .val (.int (4 : Int32)), .val (.int (0 : Int32)), .val (.double zz), .second]) rfl (XS.dload X0.here hx rfl (hb hby d2_69) rfl  (XS.dload X0.here hx rfl (hb hby d2_71) rfl  (XS.dloadN X0.here hx rfl (hb hby d2_73) rfl  (kk)))))) ?_
  show Dn p e below s _ _ _ (s₁.setTop (mkF m 74 #[.val (.ref a), .val (.double v27_4), .second, .val (.double v39), .second, .val (.double FP.dconst0), .second, .val (.ref a), .val (.int (4 : Int32)), .val (.int (0 : Int32)), .val (.double zz), .second] [(.double v39), (.double zz), (.double FP.dconst0)]))
  have d74 : DS 0 0 (FP.dsub zz v39) := DS.subc d_zz d39 (by omega) (by omega) (by decide)
  refine Dn.st (fun _ kk => XS.dsubS X0.here hx rfl (hb hby d2_74) rfl d74.nn rfl (kk)) ?_
  show Dn p e below s _ _ _ (s₁.setTop (mkF m 75 #[.val (.ref a), .val (.double v27_4), .second, .val (.double v39), .second, .val (.double FP.dconst0), .second, .val (.ref a), .val (.int (4 : Int32)), .val (.int (0 : Int32)), .val (.double zz), .second] [(.double (FP.dsub zz v39)), (.double FP.dconst0)]))
  generalize hv74 : ((FP.dsub zz v39) : UInt64) = v74 at d74 ⊢
  show Dn p e below s _ _ _ (s₁.setTop (mkF m 75 #[.val (.ref a), .val (.double v27_4), .second, .val (.double v39), .second, .val (.double FP.dconst0), .second, .val (.ref a), .val (.int (4 : Int32)), .val (.int (0 : Int32)), .val (.double zz), .second] [(.double v74), (.double FP.dconst0)]))
  have d75 : DS 0 0 (FP.dadd FP.dconst0 v74) := DS.addc dc_0 d74 (by omega) (by omega) (by decide)
  refine Dn.st (fun _ kk => XS.daddS X0.here hx rfl (hb hby d2_75) rfl d75.nn rfl (kk)) ?_
  show Dn p e below s _ _ _ (s₁.setTop (mkF m 76 #[.val (.ref a), .val (.double v27_4), .second, .val (.double v39), .second, .val (.double FP.dconst0), .second, .val (.ref a), .val (.int (4 : Int32)), .val (.int (0 : Int32)), .val (.double zz), .second] [(.double (FP.dadd FP.dconst0 v74))]))
  generalize hv75 : ((FP.dadd FP.dconst0 v74) : UInt64) = v75 at d75 ⊢
  show Dn p e below s _ _ _ (s₁.setTop (mkF m 76 #[.val (.ref a), .val (.double v27_4), .second, .val (.double v39), .second, .val (.double FP.dconst0), .second, .val (.ref a), .val (.int (4 : Int32)), .val (.int (0 : Int32)), .val (.double zz), .second] [(.double v75)]))
  refine Dn.st (fun _ kk => XS.dstore X0.here hx rfl (hb hby d2_76) rfl (l' := #[.val (.ref a), .val (.double v27_4), .second, .val (.double v39), .second, .val (.double v75), .second, .val (.ref a), .val (.int (4 : Int32)), .val (.int (0 : Int32)), .val (.double zz), .second]) rfl (XS.iinc X0.here hx rfl (hb hby d2_78) rfl (l' := #[.val (.ref a), .val (.double v27_4), .second, .val (.double v39), .second, .val (.double v75), .second, .val (.ref a), .val (.int (4 : Int32)), .val (.int (1 : Int32)), .val (.double zz), .second]) rfl (XS.goto X0.here hx rfl (pc0 := 81) (pc' := 55) rfl (hb hby d2_81) (by decide) (by decide) (XS.iload X0.here hx rfl (hb hby d2_55) rfl  (XS.iload X0.here hx rfl (hb hby d2_57) rfl  (kk)))))) ?_
  show Dn p e below s _ _ _ (s₁.setTop (mkF m 59 #[.val (.ref a), .val (.double v27_4), .second, .val (.double v39), .second, .val (.double v75), .second, .val (.ref a), .val (.int (4 : Int32)), .val (.int (1 : Int32)), .val (.double zz), .second] [(.int (4 : Int32)), (.int (1 : Int32))]))
  have hc59_2 : (1 : Int32) < (4 : Int32) := by decide
  refine Dn.st (fun _ kk => XS.icmpNo X0.here hx rfl (hb hby d2_59) rfl (tlt hc59_2).2.1 (XS.aload X0.here hx rfl (hb hby d2_62) rfl rfl (XS.iload X0.here hx rfl (hb hby d2_64) rfl  (kk)))) ?_
  show Dn p e below s _ _ _ (s₁.setTop (mkF m 66 #[.val (.ref a), .val (.double v27_4), .second, .val (.double v39), .second, .val (.double v75), .second, .val (.ref a), .val (.int (4 : Int32)), .val (.int (1 : Int32)), .val (.double zz), .second] [(.int (1 : Int32)), (.ref a)]))
  have Vc_a_66_2 := Va
  obtain ⟨cl_a_66_2, Ar_a_66_2, q_a_66_2, S_a_66_2, N_a_66_2, H_a_66_2, G_a_66_2⟩ := Vc_a_66_2
  have hin66_2 : ¬ ((1 : Int32) < 0 ∨ cl_a_66_2.slots.size ≤ ((1 : Int32)).toNatClampNeg) := inb_of S_a_66_2 ⟨by decide, by decide⟩
  have hat66_2 : cl_a_66_2.slots[((1 : Int32)).toNatClampNeg]? = some (.double zz) := H_a_66_2.at hin66_2 rfl
  refine Dn.st (fun _ kk => X0.daload hx (j := (1 : Int32)) (v := (.double zz)) (by rw [e0]; exact Ar_a_66_2.1) (State.isArrayOf_alike hZ.alike Ar_a_66_2.2.1) Ar_a_66_2.2.2 hin66_2 hat66_2 (g := (mkF m 66 #[.val (.ref a), .val (.double v27_4), .second, .val (.double v39), .second, .val (.double v75), .second, .val (.ref a), .val (.int (4 : Int32)), .val (.int (1 : Int32)), .val (.double zz), .second] [(.int (1 : Int32)), (.ref a)])) rfl rfl (hb hby d2_66) _ (XS.dstore X0.here hx rfl (hb hby d2_67) rfl (l' := #[.val (.ref a), .val (.double v27_4), .second, .val (.double v39), .second, .val (.double v75), .second, .val (.ref a), .val (.int (4 : Int32)), .val (.int (1 : Int32)), .val (.double zz), .second]) rfl (XS.dload X0.here hx rfl (hb hby d2_69) rfl  (XS.dload X0.here hx rfl (hb hby d2_71) rfl  (XS.dloadN X0.here hx rfl (hb hby d2_73) rfl  (kk)))))) ?_
  show Dn p e below s _ _ _ (s₁.setTop (mkF m 74 #[.val (.ref a), .val (.double v27_4), .second, .val (.double v39), .second, .val (.double v75), .second, .val (.ref a), .val (.int (4 : Int32)), .val (.int (1 : Int32)), .val (.double zz), .second] [(.double v39), (.double zz), (.double v75)]))
  have d74_2 : DS 0 0 (FP.dsub zz v39) := DS.subc d_zz d39 (by omega) (by omega) (by decide)
  refine Dn.st (fun _ kk => XS.dsubS X0.here hx rfl (hb hby d2_74) rfl d74_2.nn rfl (kk)) ?_
  show Dn p e below s _ _ _ (s₁.setTop (mkF m 75 #[.val (.ref a), .val (.double v27_4), .second, .val (.double v39), .second, .val (.double v75), .second, .val (.ref a), .val (.int (4 : Int32)), .val (.int (1 : Int32)), .val (.double zz), .second] [(.double (FP.dsub zz v39)), (.double v75)]))
  generalize hv74_2 : ((FP.dsub zz v39) : UInt64) = v74_2 at d74_2 ⊢
  show Dn p e below s _ _ _ (s₁.setTop (mkF m 75 #[.val (.ref a), .val (.double v27_4), .second, .val (.double v39), .second, .val (.double v75), .second, .val (.ref a), .val (.int (4 : Int32)), .val (.int (1 : Int32)), .val (.double zz), .second] [(.double v74_2), (.double v75)]))
  have d75_2 : DS 0 0 (FP.dadd v75 v74_2) := DS.addc d75 d74_2 (by omega) (by omega) (by decide)
  refine Dn.st (fun _ kk => XS.daddS X0.here hx rfl (hb hby d2_75) rfl d75_2.nn rfl (kk)) ?_
  show Dn p e below s _ _ _ (s₁.setTop (mkF m 76 #[.val (.ref a), .val (.double v27_4), .second, .val (.double v39), .second, .val (.double v75), .second, .val (.ref a), .val (.int (4 : Int32)), .val (.int (1 : Int32)), .val (.double zz), .second] [(.double (FP.dadd v75 v74_2))]))
  generalize hv75_2 : ((FP.dadd v75 v74_2) : UInt64) = v75_2 at d75_2 ⊢
  show Dn p e below s _ _ _ (s₁.setTop (mkF m 76 #[.val (.ref a), .val (.double v27_4), .second, .val (.double v39), .second, .val (.double v75), .second, .val (.ref a), .val (.int (4 : Int32)), .val (.int (1 : Int32)), .val (.double zz), .second] [(.double v75_2)]))
  refine Dn.st (fun _ kk => XS.dstore X0.here hx rfl (hb hby d2_76) rfl (l' := #[.val (.ref a), .val (.double v27_4), .second, .val (.double v39), .second, .val (.double v75_2), .second, .val (.ref a), .val (.int (4 : Int32)), .val (.int (1 : Int32)), .val (.double zz), .second]) rfl (XS.iinc X0.here hx rfl (hb hby d2_78) rfl (l' := #[.val (.ref a), .val (.double v27_4), .second, .val (.double v39), .second, .val (.double v75_2), .second, .val (.ref a), .val (.int (4 : Int32)), .val (.int (2 : Int32)), .val (.double zz), .second]) rfl (XS.goto X0.here hx rfl (pc0 := 81) (pc' := 55) rfl (hb hby d2_81) (by decide) (by decide) (XS.iload X0.here hx rfl (hb hby d2_55) rfl  (XS.iload X0.here hx rfl (hb hby d2_57) rfl  (kk)))))) ?_
  show Dn p e below s _ _ _ (s₁.setTop (mkF m 59 #[.val (.ref a), .val (.double v27_4), .second, .val (.double v39), .second, .val (.double v75_2), .second, .val (.ref a), .val (.int (4 : Int32)), .val (.int (2 : Int32)), .val (.double zz), .second] [(.int (4 : Int32)), (.int (2 : Int32))]))
  have hc59_3 : (2 : Int32) < (4 : Int32) := by decide
  refine Dn.st (fun _ kk => XS.icmpNo X0.here hx rfl (hb hby d2_59) rfl (tlt hc59_3).2.1 (XS.aload X0.here hx rfl (hb hby d2_62) rfl rfl (XS.iload X0.here hx rfl (hb hby d2_64) rfl  (kk)))) ?_
  show Dn p e below s _ _ _ (s₁.setTop (mkF m 66 #[.val (.ref a), .val (.double v27_4), .second, .val (.double v39), .second, .val (.double v75_2), .second, .val (.ref a), .val (.int (4 : Int32)), .val (.int (2 : Int32)), .val (.double zz), .second] [(.int (2 : Int32)), (.ref a)]))
  have Vc_a_66_3 := Va
  obtain ⟨cl_a_66_3, Ar_a_66_3, q_a_66_3, S_a_66_3, N_a_66_3, H_a_66_3, G_a_66_3⟩ := Vc_a_66_3
  have hin66_3 : ¬ ((2 : Int32) < 0 ∨ cl_a_66_3.slots.size ≤ ((2 : Int32)).toNatClampNeg) := inb_of S_a_66_3 ⟨by decide, by decide⟩
  have hat66_3 : cl_a_66_3.slots[((2 : Int32)).toNatClampNeg]? = some (.double zz) := H_a_66_3.at hin66_3 rfl
  refine Dn.st (fun _ kk => X0.daload hx (j := (2 : Int32)) (v := (.double zz)) (by rw [e0]; exact Ar_a_66_3.1) (State.isArrayOf_alike hZ.alike Ar_a_66_3.2.1) Ar_a_66_3.2.2 hin66_3 hat66_3 (g := (mkF m 66 #[.val (.ref a), .val (.double v27_4), .second, .val (.double v39), .second, .val (.double v75_2), .second, .val (.ref a), .val (.int (4 : Int32)), .val (.int (2 : Int32)), .val (.double zz), .second] [(.int (2 : Int32)), (.ref a)])) rfl rfl (hb hby d2_66) _ (XS.dstore X0.here hx rfl (hb hby d2_67) rfl (l' := #[.val (.ref a), .val (.double v27_4), .second, .val (.double v39), .second, .val (.double v75_2), .second, .val (.ref a), .val (.int (4 : Int32)), .val (.int (2 : Int32)), .val (.double zz), .second]) rfl (XS.dload X0.here hx rfl (hb hby d2_69) rfl  (XS.dload X0.here hx rfl (hb hby d2_71) rfl  (XS.dloadN X0.here hx rfl (hb hby d2_73) rfl  (kk)))))) ?_
  show Dn p e below s _ _ _ (s₁.setTop (mkF m 74 #[.val (.ref a), .val (.double v27_4), .second, .val (.double v39), .second, .val (.double v75_2), .second, .val (.ref a), .val (.int (4 : Int32)), .val (.int (2 : Int32)), .val (.double zz), .second] [(.double v39), (.double zz), (.double v75_2)]))
  have d74_3 : DS 0 0 (FP.dsub zz v39) := DS.subc d_zz d39 (by omega) (by omega) (by decide)
  refine Dn.st (fun _ kk => XS.dsubS X0.here hx rfl (hb hby d2_74) rfl d74_3.nn rfl (kk)) ?_
  show Dn p e below s _ _ _ (s₁.setTop (mkF m 75 #[.val (.ref a), .val (.double v27_4), .second, .val (.double v39), .second, .val (.double v75_2), .second, .val (.ref a), .val (.int (4 : Int32)), .val (.int (2 : Int32)), .val (.double zz), .second] [(.double (FP.dsub zz v39)), (.double v75_2)]))
  generalize hv74_3 : ((FP.dsub zz v39) : UInt64) = v74_3 at d74_3 ⊢
  show Dn p e below s _ _ _ (s₁.setTop (mkF m 75 #[.val (.ref a), .val (.double v27_4), .second, .val (.double v39), .second, .val (.double v75_2), .second, .val (.ref a), .val (.int (4 : Int32)), .val (.int (2 : Int32)), .val (.double zz), .second] [(.double v74_3), (.double v75_2)]))
  have d75_3 : DS 0 0 (FP.dadd v75_2 v74_3) := DS.addc d75_2 d74_3 (by omega) (by omega) (by decide)
  refine Dn.st (fun _ kk => XS.daddS X0.here hx rfl (hb hby d2_75) rfl d75_3.nn rfl (kk)) ?_
  show Dn p e below s _ _ _ (s₁.setTop (mkF m 76 #[.val (.ref a), .val (.double v27_4), .second, .val (.double v39), .second, .val (.double v75_2), .second, .val (.ref a), .val (.int (4 : Int32)), .val (.int (2 : Int32)), .val (.double zz), .second] [(.double (FP.dadd v75_2 v74_3))]))
  generalize hv75_3 : ((FP.dadd v75_2 v74_3) : UInt64) = v75_3 at d75_3 ⊢
  show Dn p e below s _ _ _ (s₁.setTop (mkF m 76 #[.val (.ref a), .val (.double v27_4), .second, .val (.double v39), .second, .val (.double v75_2), .second, .val (.ref a), .val (.int (4 : Int32)), .val (.int (2 : Int32)), .val (.double zz), .second] [(.double v75_3)]))
  refine Dn.st (fun _ kk => XS.dstore X0.here hx rfl (hb hby d2_76) rfl (l' := #[.val (.ref a), .val (.double v27_4), .second, .val (.double v39), .second, .val (.double v75_3), .second, .val (.ref a), .val (.int (4 : Int32)), .val (.int (2 : Int32)), .val (.double zz), .second]) rfl (XS.iinc X0.here hx rfl (hb hby d2_78) rfl (l' := #[.val (.ref a), .val (.double v27_4), .second, .val (.double v39), .second, .val (.double v75_3), .second, .val (.ref a), .val (.int (4 : Int32)), .val (.int (3 : Int32)), .val (.double zz), .second]) rfl (XS.goto X0.here hx rfl (pc0 := 81) (pc' := 55) rfl (hb hby d2_81) (by decide) (by decide) (XS.iload X0.here hx rfl (hb hby d2_55) rfl  (XS.iload X0.here hx rfl (hb hby d2_57) rfl  (kk)))))) ?_
  show Dn p e below s _ _ _ (s₁.setTop (mkF m 59 #[.val (.ref a), .val (.double v27_4), .second, .val (.double v39), .second, .val (.double v75_3), .second, .val (.ref a), .val (.int (4 : Int32)), .val (.int (3 : Int32)), .val (.double zz), .second] [(.int (4 : Int32)), (.int (3 : Int32))]))
  have hc59_4 : (3 : Int32) < (4 : Int32) := by decide
  refine Dn.st (fun _ kk => XS.icmpNo X0.here hx rfl (hb hby d2_59) rfl (tlt hc59_4).2.1 (XS.aload X0.here hx rfl (hb hby d2_62) rfl rfl (XS.iload X0.here hx rfl (hb hby d2_64) rfl  (kk)))) ?_
  show Dn p e below s _ _ _ (s₁.setTop (mkF m 66 #[.val (.ref a), .val (.double v27_4), .second, .val (.double v39), .second, .val (.double v75_3), .second, .val (.ref a), .val (.int (4 : Int32)), .val (.int (3 : Int32)), .val (.double zz), .second] [(.int (3 : Int32)), (.ref a)]))
  have Vc_a_66_4 := Va
  obtain ⟨cl_a_66_4, Ar_a_66_4, q_a_66_4, S_a_66_4, N_a_66_4, H_a_66_4, G_a_66_4⟩ := Vc_a_66_4
  have hin66_4 : ¬ ((3 : Int32) < 0 ∨ cl_a_66_4.slots.size ≤ ((3 : Int32)).toNatClampNeg) := inb_of S_a_66_4 ⟨by decide, by decide⟩
  have hat66_4 : cl_a_66_4.slots[((3 : Int32)).toNatClampNeg]? = some (.double zz) := H_a_66_4.at hin66_4 rfl
  refine Dn.st (fun _ kk => X0.daload hx (j := (3 : Int32)) (v := (.double zz)) (by rw [e0]; exact Ar_a_66_4.1) (State.isArrayOf_alike hZ.alike Ar_a_66_4.2.1) Ar_a_66_4.2.2 hin66_4 hat66_4 (g := (mkF m 66 #[.val (.ref a), .val (.double v27_4), .second, .val (.double v39), .second, .val (.double v75_3), .second, .val (.ref a), .val (.int (4 : Int32)), .val (.int (3 : Int32)), .val (.double zz), .second] [(.int (3 : Int32)), (.ref a)])) rfl rfl (hb hby d2_66) _ (XS.dstore X0.here hx rfl (hb hby d2_67) rfl (l' := #[.val (.ref a), .val (.double v27_4), .second, .val (.double v39), .second, .val (.double v75_3), .second, .val (.ref a), .val (.int (4 : Int32)), .val (.int (3 : Int32)), .val (.double zz), .second]) rfl (XS.dload X0.here hx rfl (hb hby d2_69) rfl  (XS.dload X0.here hx rfl (hb hby d2_71) rfl  (XS.dloadN X0.here hx rfl (hb hby d2_73) rfl  (kk)))))) ?_
  show Dn p e below s _ _ _ (s₁.setTop (mkF m 74 #[.val (.ref a), .val (.double v27_4), .second, .val (.double v39), .second, .val (.double v75_3), .second, .val (.ref a), .val (.int (4 : Int32)), .val (.int (3 : Int32)), .val (.double zz), .second] [(.double v39), (.double zz), (.double v75_3)]))
  have d74_4 : DS 0 0 (FP.dsub zz v39) := DS.subc d_zz d39 (by omega) (by omega) (by decide)
  refine Dn.st (fun _ kk => XS.dsubS X0.here hx rfl (hb hby d2_74) rfl d74_4.nn rfl (kk)) ?_
  show Dn p e below s _ _ _ (s₁.setTop (mkF m 75 #[.val (.ref a), .val (.double v27_4), .second, .val (.double v39), .second, .val (.double v75_3), .second, .val (.ref a), .val (.int (4 : Int32)), .val (.int (3 : Int32)), .val (.double zz), .second] [(.double (FP.dsub zz v39)), (.double v75_3)]))
  generalize hv74_4 : ((FP.dsub zz v39) : UInt64) = v74_4 at d74_4 ⊢
  show Dn p e below s _ _ _ (s₁.setTop (mkF m 75 #[.val (.ref a), .val (.double v27_4), .second, .val (.double v39), .second, .val (.double v75_3), .second, .val (.ref a), .val (.int (4 : Int32)), .val (.int (3 : Int32)), .val (.double zz), .second] [(.double v74_4), (.double v75_3)]))
  have d75_4 : DS 0 0 (FP.dadd v75_3 v74_4) := DS.addc d75_3 d74_4 (by omega) (by omega) (by decide)
  refine Dn.st (fun _ kk => XS.daddS X0.here hx rfl (hb hby d2_75) rfl d75_4.nn rfl (kk)) ?_
  show Dn p e below s _ _ _ (s₁.setTop (mkF m 76 #[.val (.ref a), .val (.double v27_4), .second, .val (.double v39), .second, .val (.double v75_3), .second, .val (.ref a), .val (.int (4 : Int32)), .val (.int (3 : Int32)), .val (.double zz), .second] [(.double (FP.dadd v75_3 v74_4))]))
  generalize hv75_4 : ((FP.dadd v75_3 v74_4) : UInt64) = v75_4 at d75_4 ⊢
  show Dn p e below s _ _ _ (s₁.setTop (mkF m 76 #[.val (.ref a), .val (.double v27_4), .second, .val (.double v39), .second, .val (.double v75_3), .second, .val (.ref a), .val (.int (4 : Int32)), .val (.int (3 : Int32)), .val (.double zz), .second] [(.double v75_4)]))
  refine Dn.st (fun _ kk => XS.dstore X0.here hx rfl (hb hby d2_76) rfl (l' := #[.val (.ref a), .val (.double v27_4), .second, .val (.double v39), .second, .val (.double v75_4), .second, .val (.ref a), .val (.int (4 : Int32)), .val (.int (3 : Int32)), .val (.double zz), .second]) rfl (XS.iinc X0.here hx rfl (hb hby d2_78) rfl (l' := #[.val (.ref a), .val (.double v27_4), .second, .val (.double v39), .second, .val (.double v75_4), .second, .val (.ref a), .val (.int (4 : Int32)), .val (.int (4 : Int32)), .val (.double zz), .second]) rfl (XS.goto X0.here hx rfl (pc0 := 81) (pc' := 55) rfl (hb hby d2_81) (by decide) (by decide) (XS.iload X0.here hx rfl (hb hby d2_55) rfl  (XS.iload X0.here hx rfl (hb hby d2_57) rfl  (kk)))))) ?_
  show Dn p e below s _ _ _ (s₁.setTop (mkF m 59 #[.val (.ref a), .val (.double v27_4), .second, .val (.double v39), .second, .val (.double v75_4), .second, .val (.ref a), .val (.int (4 : Int32)), .val (.int (4 : Int32)), .val (.double zz), .second] [(.int (4 : Int32)), (.int (4 : Int32))]))
  have hc59_5 : ¬ ((4 : Int32) < (4 : Int32)) := by decide
  refine Dn.st (fun _ kk => XS.icmpYes X0.here hx rfl (pc0 := 59) (pc' := 84) rfl (hb hby d2_59) rfl (flt hc59_5).2.1 (by decide) (by decide) (XS.dloadN X0.here hx rfl (hb hby d2_84) rfl  (XS.dload X0.here hx rfl (hb hby d2_85) rfl  (XS.aloadN X0.here hx rfl (hb hby d2_87) rfl rfl (kk))))) ?_
  show Dn p e below s _ _ _ (s₁.setTop (mkF m 88 #[.val (.ref a), .val (.double v27_4), .second, .val (.double v39), .second, .val (.double v75_4), .second, .val (.ref a), .val (.int (4 : Int32)), .val (.int (4 : Int32)), .val (.double zz), .second] [(.ref a), (.double v75_4), (.double v39)]))
  have Vc_a_88 := Va
  obtain ⟨cl_a_88, Ar_a_88, q_a_88, S_a_88, N_a_88, H_a_88, G_a_88⟩ := Vc_a_88
  refine Dn.st (fun _ kk => X0.arraylength hx (by rw [e0]; exact Ar_a_88.1) (State.isArrayOf_alike hZ.alike Ar_a_88.2.1) (g := (mkF m 88 #[.val (.ref a), .val (.double v27_4), .second, .val (.double v39), .second, .val (.double v75_4), .second, .val (.ref a), .val (.int (4 : Int32)), .val (.int (4 : Int32)), .val (.double zz), .second] [(.ref a), (.double v75_4), (.double v39)])) rfl rfl (hb hby d2_88) _ (kk)) ?_
  show Dn p e below s _ _ _ (s₁.setTop (mkF m 89 #[.val (.ref a), .val (.double v27_4), .second, .val (.double v39), .second, .val (.double v75_4), .second, .val (.ref a), .val (.int (4 : Int32)), .val (.int (4 : Int32)), .val (.double zz), .second] [(.int cl_a_88.slots.size.toInt32), (.double v75_4), (.double v39)]))
  rw [len_of S_a_88 N_a_88]
  show Dn p e below s _ _ _ (s₁.setTop (mkF m 89 #[.val (.ref a), .val (.double v27_4), .second, .val (.double v39), .second, .val (.double v75_4), .second, .val (.ref a), .val (.int (4 : Int32)), .val (.int (4 : Int32)), .val (.double zz), .second] [(.int (4 : Int32)), (.double v75_4), (.double v39)]))
  have d89 := DS.i2d (4 : Int32)
  refine Dn.st (fun _ kk => XS.i2dS X0.here hx rfl (hb hby d2_89) rfl rfl (kk)) ?_
  show Dn p e below s _ _ _ (s₁.setTop (mkF m 90 #[.val (.ref a), .val (.double v27_4), .second, .val (.double v39), .second, .val (.double v75_4), .second, .val (.ref a), .val (.int (4 : Int32)), .val (.int (4 : Int32)), .val (.double zz), .second] [(.double (FP.i2d (4 : Int32))), (.double v75_4), (.double v39)]))
  generalize hv89 : ((FP.i2d (4 : Int32)) : UInt64) = v89 at d89 ⊢
  show Dn p e below s _ _ _ (s₁.setTop (mkF m 90 #[.val (.ref a), .val (.double v27_4), .second, .val (.double v39), .second, .val (.double v75_4), .second, .val (.ref a), .val (.int (4 : Int32)), .val (.int (4 : Int32)), .val (.double zz), .second] [(.double v89), (.double v75_4), (.double v39)]))
  have d90 : DS 0 0 (FP.ddiv v75_4 v89) := DS.div (n := 0) (Q := 0) d75_4 (DS.cast (i' := 4) d89 rfl (by decide)) (by decide) (by decide) (by decide) (by decide)
  refine Dn.st (fun _ kk => XS.ddivS X0.here hx rfl (hb hby d2_90) rfl d90.nn rfl (kk)) ?_
  show Dn p e below s _ _ _ (s₁.setTop (mkF m 91 #[.val (.ref a), .val (.double v27_4), .second, .val (.double v39), .second, .val (.double v75_4), .second, .val (.ref a), .val (.int (4 : Int32)), .val (.int (4 : Int32)), .val (.double zz), .second] [(.double (FP.ddiv v75_4 v89)), (.double v39)]))
  generalize hv90 : ((FP.ddiv v75_4 v89) : UInt64) = v90 at d90 ⊢
  show Dn p e below s _ _ _ (s₁.setTop (mkF m 91 #[.val (.ref a), .val (.double v27_4), .second, .val (.double v39), .second, .val (.double v75_4), .second, .val (.ref a), .val (.int (4 : Int32)), .val (.int (4 : Int32)), .val (.double zz), .second] [(.double v90), (.double v39)]))
  have d91 : DS 0 kq (FP.dadd v39 v90) := DS.addc d39 d90 (by omega) (by omega) (by decide)
  refine Dn.st (fun _ kk => XS.daddS X0.here hx rfl (hb hby d2_91) rfl d91.nn rfl (kk)) ?_
  show Dn p e below s _ _ _ (s₁.setTop (mkF m 92 #[.val (.ref a), .val (.double v27_4), .second, .val (.double v39), .second, .val (.double v75_4), .second, .val (.ref a), .val (.int (4 : Int32)), .val (.int (4 : Int32)), .val (.double zz), .second] [(.double (FP.dadd v39 v90))]))
  generalize hv91 : ((FP.dadd v39 v90) : UInt64) = v91 at d91 ⊢
  show Dn p e below s _ _ _ (s₁.setTop (mkF m 92 #[.val (.ref a), .val (.double v27_4), .second, .val (.double v39), .second, .val (.double v75_4), .second, .val (.ref a), .val (.int (4 : Int32)), .val (.int (4 : Int32)), .val (.double zz), .second] [(.double v91)]))
  exact Dn.ret X0 hlk hx hret rfl (Or.inr (Or.inr (Or.inl ⟨rfl, rfl, _, rfl⟩))) (hb hby d2_92) (by rw [e0]; exact ⟨_, rfl, d91, N0, rfl⟩) (by decide) (by decide)

theorem ef2_rm2L_2 (m : MethodId) (x0 : Addr) : entryFrame m #[(.ref x0)] 12 = mkF m 0 #[.val (.ref x0), .unset, .unset, .unset, .unset, .unset, .unset, .unset, .unset, .unset, .unset, .unset] [] := by first | (simp [entryFrame, mkF, argsToLocals, Value.category]; done) | rfl
def Q2L_2 (Z : State) (a : Addr) (ka : ClassId) (zz : UInt64) (kq : Int) (h0 : Heap) (n0 : Nat) (v : Option Value) (h : Heap) (L : List Loc) : Prop := ∃ z, v = some (.double z) ∧ DS 0 kq z ∧ Fr n0 L ∧ h = h0
set_option maxRecDepth 65536 in
set_option maxHeartbeats 40000000 in
theorem rm2L_2 (l : Launch) (Z : State) (a0 : Array Value) (hw : ∀ d ∈ tables_1, d.before a0 Z = true) (ws : List Jvm.Cond) (a : Addr) (ka : ClassId) (zz : UInt64) (kq : Int) (h0 : Heap) (n0 : Nat) (Z0 : n0 ≤ h0.size) (Va : Arv Z h0 a ka .double 2 [(.double zz), (.double zz)] (.double 0)) (d_zz : DS 0 kq zz) (hkb : kq.natAbs < 2 ^ 53) (hl : 2251799813685248 < kq ∨ kq < -2251799813685248) :
    MetFree l (⟨"com/example/listino/listino/stats/Moments", "mean", "([D)D"⟩ : MethodName) (head1 (Jvm.Cond.code (⟨"com/example/listino/listino/stats/Moments", "mean", "([D)D"⟩ : MethodName) prog_51_method_2_code 12 (some .double) :: ws) ({ frames := 0, cells := 0, slots := 0, locals := 0 } : Room)) (fun aa UU => aa = #[(.ref a)] ∧ Z.Warmed39 UU.vm ∧ UU.heap = h0) (fun _ _ _ _ _ => True) (fun _ UU oo UU' => ∃ vv LL, oo = .returned vv ∧ Q2L_2 Z a ka zz kq h0 n0 vv UU'.heap LL ∧ FrameEnd UU oo UU' LL ({ frames := 0, cells := 0, slots := 0, locals := 0 } : Room).cells ({ frames := 0, cells := 0, slots := 0, locals := 0 } : Room).slots) := by
  refine MetFree.of_bodySF (plainFor_of_name pn1) hisR ?_
  intro p e s m args below meth c s₁ Bd hml0 hP hK
  obtain ⟨rfl, hZ, hh⟩ := hP
  have hx := Bd.exec
  have hby := Bd.bytes
  have hlk : meth.locks = false := BodyLoose.notSynchronized Bd
  have hret := Bd.returns
  have hml : c.maxLocals = 12 := hml0
  have hown : s.vm.findClass "com/example/listino/listino/stats/Moments" = some m.cls := findClass_of_methodNamed Bd.named
  have hnm := (name_of_methodNamed Bd.named Bd.method).1
  have X0 : Stand p l e ({ frames := 0, cells := 0, slots := 0, locals := 0 } : Room) s m #[(.ref a)] below meth c s₁ [] 0 0 := Stand.of_body Bd
  have e0 : s₁.heap = h0 := by rw [← hh, Bd.state]; rfl
  have N0 := Fr.nil n0
  show Dn p e below s (Q2L_2 Z a ka zz kq h0 n0) ({ frames := 0, cells := 0, slots := 0, locals := 0 } : Room).cells ({ frames := 0, cells := 0, slots := 0, locals := 0 } : Room).slots (s₁.setTop (entryFrame m #[(.ref a)] 12))
  refine Dn.st (fun _ kk => castTop (ef2_rm2L_2 m a) kk) ?_
  show Dn p e below s _ _ _ (s₁.setTop (mkF m 0 #[.val (.ref a), .unset, .unset, .unset, .unset, .unset, .unset, .unset, .unset, .unset, .unset, .unset] []))
  refine Dn.st (fun _ kk => XS.dconst0 X0.here hx rfl (hb hby d2_0) rfl (XS.dstoreN X0.here hx rfl (hb hby d2_1) rfl (l' := #[.val (.ref a), .val (.double FP.dconst0), .second, .unset, .unset, .unset, .unset, .unset, .unset, .unset, .unset, .unset]) rfl (XS.aloadN X0.here hx rfl (hb hby d2_2) rfl rfl (XS.astoreN X0.here hx rfl (hb hby d2_3) rfl rfl (l' := #[.val (.ref a), .val (.double FP.dconst0), .second, .val (.ref a), .unset, .unset, .unset, .unset, .unset, .unset, .unset, .unset]) rfl (XS.aloadN X0.here hx rfl (hb hby d2_4) rfl rfl (kk)))))) ?_
  show Dn p e below s _ _ _ (s₁.setTop (mkF m 5 #[.val (.ref a), .val (.double FP.dconst0), .second, .val (.ref a), .unset, .unset, .unset, .unset, .unset, .unset, .unset, .unset] [(.ref a)]))
  have Vc_a_5 := Va
  obtain ⟨cl_a_5, Ar_a_5, q_a_5, S_a_5, N_a_5, H_a_5, G_a_5⟩ := Vc_a_5
  refine Dn.st (fun _ kk => X0.arraylength hx (by rw [e0]; exact Ar_a_5.1) (State.isArrayOf_alike hZ.alike Ar_a_5.2.1) (g := (mkF m 5 #[.val (.ref a), .val (.double FP.dconst0), .second, .val (.ref a), .unset, .unset, .unset, .unset, .unset, .unset, .unset, .unset] [(.ref a)])) rfl rfl (hb hby d2_5) _ (kk)) ?_
  show Dn p e below s _ _ _ (s₁.setTop (mkF m 6 #[.val (.ref a), .val (.double FP.dconst0), .second, .val (.ref a), .unset, .unset, .unset, .unset, .unset, .unset, .unset, .unset] [(.int cl_a_5.slots.size.toInt32)]))
  rw [len_of S_a_5 N_a_5]
  show Dn p e below s _ _ _ (s₁.setTop (mkF m 6 #[.val (.ref a), .val (.double FP.dconst0), .second, .val (.ref a), .unset, .unset, .unset, .unset, .unset, .unset, .unset, .unset] [(.int (2 : Int32))]))
  refine Dn.st (fun _ kk => XS.istore X0.here hx rfl (hb hby d2_6) rfl (l' := #[.val (.ref a), .val (.double FP.dconst0), .second, .val (.ref a), .val (.int (2 : Int32)), .unset, .unset, .unset, .unset, .unset, .unset, .unset]) rfl (XS.iconst X0.here hx rfl (hb hby d2_8) (XS.istore X0.here hx rfl (hb hby d2_9) rfl (l' := #[.val (.ref a), .val (.double FP.dconst0), .second, .val (.ref a), .val (.int (2 : Int32)), .val (.int (0 : Int32)), .unset, .unset, .unset, .unset, .unset, .unset]) rfl (XS.iload X0.here hx rfl (hb hby d2_11) rfl  (XS.iload X0.here hx rfl (hb hby d2_13) rfl  (kk)))))) ?_
  show Dn p e below s _ _ _ (s₁.setTop (mkF m 15 #[.val (.ref a), .val (.double FP.dconst0), .second, .val (.ref a), .val (.int (2 : Int32)), .val (.int (0 : Int32)), .unset, .unset, .unset, .unset, .unset, .unset] [(.int (2 : Int32)), (.int (0 : Int32))]))
  have hc15 : (0 : Int32) < (2 : Int32) := by decide
  refine Dn.st (fun _ kk => XS.icmpNo X0.here hx rfl (hb hby d2_15) rfl (tlt hc15).2.1 (XS.aloadN X0.here hx rfl (hb hby d2_18) rfl rfl (XS.iload X0.here hx rfl (hb hby d2_19) rfl  (kk)))) ?_
  show Dn p e below s _ _ _ (s₁.setTop (mkF m 21 #[.val (.ref a), .val (.double FP.dconst0), .second, .val (.ref a), .val (.int (2 : Int32)), .val (.int (0 : Int32)), .unset, .unset, .unset, .unset, .unset, .unset] [(.int (0 : Int32)), (.ref a)]))
  have Vc_a_21 := Va
  obtain ⟨cl_a_21, Ar_a_21, q_a_21, S_a_21, N_a_21, H_a_21, G_a_21⟩ := Vc_a_21
  have hin21 : ¬ ((0 : Int32) < 0 ∨ cl_a_21.slots.size ≤ ((0 : Int32)).toNatClampNeg) := inb_of S_a_21 ⟨by decide, by decide⟩
  have hat21 : cl_a_21.slots[((0 : Int32)).toNatClampNeg]? = some (.double zz) := H_a_21.at hin21 rfl
  refine Dn.st (fun _ kk => X0.daload hx (j := (0 : Int32)) (v := (.double zz)) (by rw [e0]; exact Ar_a_21.1) (State.isArrayOf_alike hZ.alike Ar_a_21.2.1) Ar_a_21.2.2 hin21 hat21 (g := (mkF m 21 #[.val (.ref a), .val (.double FP.dconst0), .second, .val (.ref a), .val (.int (2 : Int32)), .val (.int (0 : Int32)), .unset, .unset, .unset, .unset, .unset, .unset] [(.int (0 : Int32)), (.ref a)])) rfl rfl (hb hby d2_21) _ (XS.dstore X0.here hx rfl (hb hby d2_22) rfl (l' := #[.val (.ref a), .val (.double FP.dconst0), .second, .val (.ref a), .val (.int (2 : Int32)), .val (.int (0 : Int32)), .val (.double zz), .second, .unset, .unset, .unset, .unset]) rfl (XS.dloadN X0.here hx rfl (hb hby d2_24) rfl  (XS.dload X0.here hx rfl (hb hby d2_25) rfl  (kk))))) ?_
  show Dn p e below s _ _ _ (s₁.setTop (mkF m 27 #[.val (.ref a), .val (.double FP.dconst0), .second, .val (.ref a), .val (.int (2 : Int32)), .val (.int (0 : Int32)), .val (.double zz), .second, .unset, .unset, .unset, .unset] [(.double zz), (.double FP.dconst0)]))
  have d27 : DS 0 kq (FP.dadd FP.dconst0 zz) := DS.addc dc_0 d_zz (by omega) (by omega) (by decide)
  refine Dn.st (fun _ kk => XS.daddS X0.here hx rfl (hb hby d2_27) rfl d27.nn rfl (kk)) ?_
  show Dn p e below s _ _ _ (s₁.setTop (mkF m 28 #[.val (.ref a), .val (.double FP.dconst0), .second, .val (.ref a), .val (.int (2 : Int32)), .val (.int (0 : Int32)), .val (.double zz), .second, .unset, .unset, .unset, .unset] [(.double (FP.dadd FP.dconst0 zz))]))
  generalize hv27 : ((FP.dadd FP.dconst0 zz) : UInt64) = v27 at d27 ⊢
  show Dn p e below s _ _ _ (s₁.setTop (mkF m 28 #[.val (.ref a), .val (.double FP.dconst0), .second, .val (.ref a), .val (.int (2 : Int32)), .val (.int (0 : Int32)), .val (.double zz), .second, .unset, .unset, .unset, .unset] [(.double v27)]))
  refine Dn.st (fun _ kk => XS.dstoreN X0.here hx rfl (hb hby d2_28) rfl (l' := #[.val (.ref a), .val (.double v27), .second, .val (.ref a), .val (.int (2 : Int32)), .val (.int (0 : Int32)), .val (.double zz), .second, .unset, .unset, .unset, .unset]) rfl (XS.iinc X0.here hx rfl (hb hby d2_29) rfl (l' := #[.val (.ref a), .val (.double v27), .second, .val (.ref a), .val (.int (2 : Int32)), .val (.int (1 : Int32)), .val (.double zz), .second, .unset, .unset, .unset, .unset]) rfl (XS.goto X0.here hx rfl (pc0 := 32) (pc' := 11) rfl (hb hby d2_32) (by decide) (by decide) (XS.iload X0.here hx rfl (hb hby d2_11) rfl  (XS.iload X0.here hx rfl (hb hby d2_13) rfl  (kk)))))) ?_
  show Dn p e below s _ _ _ (s₁.setTop (mkF m 15 #[.val (.ref a), .val (.double v27), .second, .val (.ref a), .val (.int (2 : Int32)), .val (.int (1 : Int32)), .val (.double zz), .second, .unset, .unset, .unset, .unset] [(.int (2 : Int32)), (.int (1 : Int32))]))
  have hc15_2 : (1 : Int32) < (2 : Int32) := by decide
  refine Dn.st (fun _ kk => XS.icmpNo X0.here hx rfl (hb hby d2_15) rfl (tlt hc15_2).2.1 (XS.aloadN X0.here hx rfl (hb hby d2_18) rfl rfl (XS.iload X0.here hx rfl (hb hby d2_19) rfl  (kk)))) ?_
  show Dn p e below s _ _ _ (s₁.setTop (mkF m 21 #[.val (.ref a), .val (.double v27), .second, .val (.ref a), .val (.int (2 : Int32)), .val (.int (1 : Int32)), .val (.double zz), .second, .unset, .unset, .unset, .unset] [(.int (1 : Int32)), (.ref a)]))
  have Vc_a_21_2 := Va
  obtain ⟨cl_a_21_2, Ar_a_21_2, q_a_21_2, S_a_21_2, N_a_21_2, H_a_21_2, G_a_21_2⟩ := Vc_a_21_2
  have hin21_2 : ¬ ((1 : Int32) < 0 ∨ cl_a_21_2.slots.size ≤ ((1 : Int32)).toNatClampNeg) := inb_of S_a_21_2 ⟨by decide, by decide⟩
  have hat21_2 : cl_a_21_2.slots[((1 : Int32)).toNatClampNeg]? = some (.double zz) := H_a_21_2.at hin21_2 rfl
  refine Dn.st (fun _ kk => X0.daload hx (j := (1 : Int32)) (v := (.double zz)) (by rw [e0]; exact Ar_a_21_2.1) (State.isArrayOf_alike hZ.alike Ar_a_21_2.2.1) Ar_a_21_2.2.2 hin21_2 hat21_2 (g := (mkF m 21 #[.val (.ref a), .val (.double v27), .second, .val (.ref a), .val (.int (2 : Int32)), .val (.int (1 : Int32)), .val (.double zz), .second, .unset, .unset, .unset, .unset] [(.int (1 : Int32)), (.ref a)])) rfl rfl (hb hby d2_21) _ (XS.dstore X0.here hx rfl (hb hby d2_22) rfl (l' := #[.val (.ref a), .val (.double v27), .second, .val (.ref a), .val (.int (2 : Int32)), .val (.int (1 : Int32)), .val (.double zz), .second, .unset, .unset, .unset, .unset]) rfl (XS.dloadN X0.here hx rfl (hb hby d2_24) rfl  (XS.dload X0.here hx rfl (hb hby d2_25) rfl  (kk))))) ?_
  show Dn p e below s _ _ _ (s₁.setTop (mkF m 27 #[.val (.ref a), .val (.double v27), .second, .val (.ref a), .val (.int (2 : Int32)), .val (.int (1 : Int32)), .val (.double zz), .second, .unset, .unset, .unset, .unset] [(.double zz), (.double v27)]))
  have g27_2 : DI 0 (2 * kq) (2 * kq) (FP.dadd v27 zz) := DI.addR (d27.di (by decide)) (d_zz.di (by decide)) (by omega) (by omega) (rep_two (rep_of (by decide) (by omega)) (by omega)) (rep_two (rep_of (by decide) (by omega)) (by omega))
  refine Dn.st (fun _ kk => XS.daddS X0.here hx rfl (hb hby d2_27) rfl g27_2.nn rfl (kk)) ?_
  show Dn p e below s _ _ _ (s₁.setTop (mkF m 28 #[.val (.ref a), .val (.double v27), .second, .val (.ref a), .val (.int (2 : Int32)), .val (.int (1 : Int32)), .val (.double zz), .second, .unset, .unset, .unset, .unset] [(.double (FP.dadd v27 zz))]))
  generalize hv27_2 : ((FP.dadd v27 zz) : UInt64) = v27_2
  rw [hv27_2] at g27_2
  show Dn p e below s _ _ _ (s₁.setTop (mkF m 28 #[.val (.ref a), .val (.double v27), .second, .val (.ref a), .val (.int (2 : Int32)), .val (.int (1 : Int32)), .val (.double zz), .second, .unset, .unset, .unset, .unset] [(.double v27_2)]))
  refine Dn.st (fun _ kk => XS.dstoreN X0.here hx rfl (hb hby d2_28) rfl (l' := #[.val (.ref a), .val (.double v27_2), .second, .val (.ref a), .val (.int (2 : Int32)), .val (.int (1 : Int32)), .val (.double zz), .second, .unset, .unset, .unset, .unset]) rfl (XS.iinc X0.here hx rfl (hb hby d2_29) rfl (l' := #[.val (.ref a), .val (.double v27_2), .second, .val (.ref a), .val (.int (2 : Int32)), .val (.int (2 : Int32)), .val (.double zz), .second, .unset, .unset, .unset, .unset]) rfl (XS.goto X0.here hx rfl (pc0 := 32) (pc' := 11) rfl (hb hby d2_32) (by decide) (by decide) (XS.iload X0.here hx rfl (hb hby d2_11) rfl  (XS.iload X0.here hx rfl (hb hby d2_13) rfl  (kk)))))) ?_
  show Dn p e below s _ _ _ (s₁.setTop (mkF m 15 #[.val (.ref a), .val (.double v27_2), .second, .val (.ref a), .val (.int (2 : Int32)), .val (.int (2 : Int32)), .val (.double zz), .second, .unset, .unset, .unset, .unset] [(.int (2 : Int32)), (.int (2 : Int32))]))
  have hc15_3 : ¬ ((2 : Int32) < (2 : Int32)) := by decide
  refine Dn.st (fun _ kk => XS.icmpYes X0.here hx rfl (pc0 := 15) (pc' := 35) rfl (hb hby d2_15) rfl (flt hc15_3).2.1 (by decide) (by decide) (XS.dloadN X0.here hx rfl (hb hby d2_35) rfl  (XS.aloadN X0.here hx rfl (hb hby d2_36) rfl rfl (kk)))) ?_
  show Dn p e below s _ _ _ (s₁.setTop (mkF m 37 #[.val (.ref a), .val (.double v27_2), .second, .val (.ref a), .val (.int (2 : Int32)), .val (.int (2 : Int32)), .val (.double zz), .second, .unset, .unset, .unset, .unset] [(.ref a), (.double v27_2)]))
  have Vc_a_37 := Va
  obtain ⟨cl_a_37, Ar_a_37, q_a_37, S_a_37, N_a_37, H_a_37, G_a_37⟩ := Vc_a_37
  refine Dn.st (fun _ kk => X0.arraylength hx (by rw [e0]; exact Ar_a_37.1) (State.isArrayOf_alike hZ.alike Ar_a_37.2.1) (g := (mkF m 37 #[.val (.ref a), .val (.double v27_2), .second, .val (.ref a), .val (.int (2 : Int32)), .val (.int (2 : Int32)), .val (.double zz), .second, .unset, .unset, .unset, .unset] [(.ref a), (.double v27_2)])) rfl rfl (hb hby d2_37) _ (kk)) ?_
  show Dn p e below s _ _ _ (s₁.setTop (mkF m 38 #[.val (.ref a), .val (.double v27_2), .second, .val (.ref a), .val (.int (2 : Int32)), .val (.int (2 : Int32)), .val (.double zz), .second, .unset, .unset, .unset, .unset] [(.int cl_a_37.slots.size.toInt32), (.double v27_2)]))
  rw [len_of S_a_37 N_a_37]
  show Dn p e below s _ _ _ (s₁.setTop (mkF m 38 #[.val (.ref a), .val (.double v27_2), .second, .val (.ref a), .val (.int (2 : Int32)), .val (.int (2 : Int32)), .val (.double zz), .second, .unset, .unset, .unset, .unset] [(.int (2 : Int32)), (.double v27_2)]))
  have d38 := DS.i2d (2 : Int32)
  refine Dn.st (fun _ kk => XS.i2dS X0.here hx rfl (hb hby d2_38) rfl rfl (kk)) ?_
  show Dn p e below s _ _ _ (s₁.setTop (mkF m 39 #[.val (.ref a), .val (.double v27_2), .second, .val (.ref a), .val (.int (2 : Int32)), .val (.int (2 : Int32)), .val (.double zz), .second, .unset, .unset, .unset, .unset] [(.double (FP.i2d (2 : Int32))), (.double v27_2)]))
  generalize hv38 : ((FP.i2d (2 : Int32)) : UInt64) = v38 at d38 ⊢
  show Dn p e below s _ _ _ (s₁.setTop (mkF m 39 #[.val (.ref a), .val (.double v27_2), .second, .val (.ref a), .val (.int (2 : Int32)), .val (.int (2 : Int32)), .val (.double zz), .second, .unset, .unset, .unset, .unset] [(.double v38), (.double v27_2)]))
  have g39 : DI 0 (kq - 1) (kq + 1) (FP.ddiv v27_2 v38) := DI.div g27_2 (DS.cast (i' := 2) d38 rfl (by decide)) (by decide) (by omega) (by omega) (rep_of (by decide) (by omega)) (rep_of (by decide) (by omega))
  refine Dn.st (fun _ kk => XS.ddivS X0.here hx rfl (hb hby d2_39) rfl g39.nn rfl (kk)) ?_
  show Dn p e below s _ _ _ (s₁.setTop (mkF m 40 #[.val (.ref a), .val (.double v27_2), .second, .val (.ref a), .val (.int (2 : Int32)), .val (.int (2 : Int32)), .val (.double zz), .second, .unset, .unset, .unset, .unset] [(.double (FP.ddiv v27_2 v38))]))
  generalize hv39 : ((FP.ddiv v27_2 v38) : UInt64) = v39
  rw [hv39] at g39
  obtain ⟨ih, d39, hh1, hh2⟩ := di_half g39 (by omega)
  show Dn p e below s _ _ _ (s₁.setTop (mkF m 40 #[.val (.ref a), .val (.double v27_2), .second, .val (.ref a), .val (.int (2 : Int32)), .val (.int (2 : Int32)), .val (.double zz), .second, .unset, .unset, .unset, .unset] [(.double v39)]))
  refine Dn.st (fun _ kk => XS.dstoreN X0.here hx rfl (hb hby d2_40) rfl (l' := #[.val (.ref a), .val (.double v27_2), .second, .val (.double v39), .second, .val (.int (2 : Int32)), .val (.double zz), .second, .unset, .unset, .unset, .unset]) rfl (XS.dconst0 X0.here hx rfl (hb hby d2_41) rfl (XS.dstore X0.here hx rfl (hb hby d2_42) rfl (l' := #[.val (.ref a), .val (.double v27_2), .second, .val (.double v39), .second, .val (.double FP.dconst0), .second, .unset, .unset, .unset, .unset, .unset]) rfl (XS.aloadN X0.here hx rfl (hb hby d2_44) rfl rfl (XS.astore X0.here hx rfl (hb hby d2_45) rfl rfl (l' := #[.val (.ref a), .val (.double v27_2), .second, .val (.double v39), .second, .val (.double FP.dconst0), .second, .val (.ref a), .unset, .unset, .unset, .unset]) rfl (XS.aload X0.here hx rfl (hb hby d2_47) rfl rfl (kk))))))) ?_
  show Dn p e below s _ _ _ (s₁.setTop (mkF m 49 #[.val (.ref a), .val (.double v27_2), .second, .val (.double v39), .second, .val (.double FP.dconst0), .second, .val (.ref a), .unset, .unset, .unset, .unset] [(.ref a)]))
  have Vc_a_49 := Va
  obtain ⟨cl_a_49, Ar_a_49, q_a_49, S_a_49, N_a_49, H_a_49, G_a_49⟩ := Vc_a_49
  refine Dn.st (fun _ kk => X0.arraylength hx (by rw [e0]; exact Ar_a_49.1) (State.isArrayOf_alike hZ.alike Ar_a_49.2.1) (g := (mkF m 49 #[.val (.ref a), .val (.double v27_2), .second, .val (.double v39), .second, .val (.double FP.dconst0), .second, .val (.ref a), .unset, .unset, .unset, .unset] [(.ref a)])) rfl rfl (hb hby d2_49) _ (kk)) ?_
  show Dn p e below s _ _ _ (s₁.setTop (mkF m 50 #[.val (.ref a), .val (.double v27_2), .second, .val (.double v39), .second, .val (.double FP.dconst0), .second, .val (.ref a), .unset, .unset, .unset, .unset] [(.int cl_a_49.slots.size.toInt32)]))
  rw [len_of S_a_49 N_a_49]
  show Dn p e below s _ _ _ (s₁.setTop (mkF m 50 #[.val (.ref a), .val (.double v27_2), .second, .val (.double v39), .second, .val (.double FP.dconst0), .second, .val (.ref a), .unset, .unset, .unset, .unset] [(.int (2 : Int32))]))
  refine Dn.st (fun _ kk => XS.istore X0.here hx rfl (hb hby d2_50) rfl (l' := #[.val (.ref a), .val (.double v27_2), .second, .val (.double v39), .second, .val (.double FP.dconst0), .second, .val (.ref a), .val (.int (2 : Int32)), .unset, .unset, .unset]) rfl (XS.iconst X0.here hx rfl (hb hby d2_52) (XS.istore X0.here hx rfl (hb hby d2_53) rfl (l' := #[.val (.ref a), .val (.double v27_2), .second, .val (.double v39), .second, .val (.double FP.dconst0), .second, .val (.ref a), .val (.int (2 : Int32)), .val (.int (0 : Int32)), .unset, .unset]) rfl (XS.iload X0.here hx rfl (hb hby d2_55) rfl  (XS.iload X0.here hx rfl (hb hby d2_57) rfl  (kk)))))) ?_
  show Dn p e below s _ _ _ (s₁.setTop (mkF m 59 #[.val (.ref a), .val (.double v27_2), .second, .val (.double v39), .second, .val (.double FP.dconst0), .second, .val (.ref a), .val (.int (2 : Int32)), .val (.int (0 : Int32)), .unset, .unset] [(.int (2 : Int32)), (.int (0 : Int32))]))
  have hc59 : (0 : Int32) < (2 : Int32) := by decide
  refine Dn.st (fun _ kk => XS.icmpNo X0.here hx rfl (hb hby d2_59) rfl (tlt hc59).2.1 (XS.aload X0.here hx rfl (hb hby d2_62) rfl rfl (XS.iload X0.here hx rfl (hb hby d2_64) rfl  (kk)))) ?_
  show Dn p e below s _ _ _ (s₁.setTop (mkF m 66 #[.val (.ref a), .val (.double v27_2), .second, .val (.double v39), .second, .val (.double FP.dconst0), .second, .val (.ref a), .val (.int (2 : Int32)), .val (.int (0 : Int32)), .unset, .unset] [(.int (0 : Int32)), (.ref a)]))
  have Vc_a_66 := Va
  obtain ⟨cl_a_66, Ar_a_66, q_a_66, S_a_66, N_a_66, H_a_66, G_a_66⟩ := Vc_a_66
  have hin66 : ¬ ((0 : Int32) < 0 ∨ cl_a_66.slots.size ≤ ((0 : Int32)).toNatClampNeg) := inb_of S_a_66 ⟨by decide, by decide⟩
  have hat66 : cl_a_66.slots[((0 : Int32)).toNatClampNeg]? = some (.double zz) := H_a_66.at hin66 rfl
  refine Dn.st (fun _ kk => X0.daload hx (j := (0 : Int32)) (v := (.double zz)) (by rw [e0]; exact Ar_a_66.1) (State.isArrayOf_alike hZ.alike Ar_a_66.2.1) Ar_a_66.2.2 hin66 hat66 (g := (mkF m 66 #[.val (.ref a), .val (.double v27_2), .second, .val (.double v39), .second, .val (.double FP.dconst0), .second, .val (.ref a), .val (.int (2 : Int32)), .val (.int (0 : Int32)), .unset, .unset] [(.int (0 : Int32)), (.ref a)])) rfl rfl (hb hby d2_66) _ (XS.dstore X0.here hx rfl (hb hby d2_67) rfl (l' := #[.val (.ref a), .val (.double v27_2), .second, .val (.double v39), .second, .val (.double FP.dconst0), .second, .val (.ref a), .val (.int (2 : Int32)), .val (.int (0 : Int32)), .val (.double zz), .second]) rfl (XS.dload X0.here hx rfl (hb hby d2_69) rfl  (XS.dload X0.here hx rfl (hb hby d2_71) rfl  (XS.dloadN X0.here hx rfl (hb hby d2_73) rfl  (kk)))))) ?_
  show Dn p e below s _ _ _ (s₁.setTop (mkF m 74 #[.val (.ref a), .val (.double v27_2), .second, .val (.double v39), .second, .val (.double FP.dconst0), .second, .val (.ref a), .val (.int (2 : Int32)), .val (.int (0 : Int32)), .val (.double zz), .second] [(.double v39), (.double zz), (.double FP.dconst0)]))
  have d74 : DS 1 (kq * 2 - ih) (FP.dsub zz v39) := DS.sub (k := 1) (d_zz.up 1) d39 (by show (kq * 2 - ih).natAbs ≤ _; omega) (by decide)
  refine Dn.st (fun _ kk => XS.dsubS X0.here hx rfl (hb hby d2_74) rfl d74.nn rfl (kk)) ?_
  show Dn p e below s _ _ _ (s₁.setTop (mkF m 75 #[.val (.ref a), .val (.double v27_2), .second, .val (.double v39), .second, .val (.double FP.dconst0), .second, .val (.ref a), .val (.int (2 : Int32)), .val (.int (0 : Int32)), .val (.double zz), .second] [(.double (FP.dsub zz v39)), (.double FP.dconst0)]))
  generalize hv74 : ((FP.dsub zz v39) : UInt64) = v74 at d74 ⊢
  show Dn p e below s _ _ _ (s₁.setTop (mkF m 75 #[.val (.ref a), .val (.double v27_2), .second, .val (.double v39), .second, .val (.double FP.dconst0), .second, .val (.ref a), .val (.int (2 : Int32)), .val (.int (0 : Int32)), .val (.double zz), .second] [(.double v74), (.double FP.dconst0)]))
  have d75 : DS 1 ((kq * 2 - ih) * 1) (FP.dadd FP.dconst0 v74) := DS.addc (k := 1) (DS.zero 1) d74 (by omega) (by omega) (by decide)
  refine Dn.st (fun _ kk => XS.daddS X0.here hx rfl (hb hby d2_75) rfl d75.nn rfl (kk)) ?_
  show Dn p e below s _ _ _ (s₁.setTop (mkF m 76 #[.val (.ref a), .val (.double v27_2), .second, .val (.double v39), .second, .val (.double FP.dconst0), .second, .val (.ref a), .val (.int (2 : Int32)), .val (.int (0 : Int32)), .val (.double zz), .second] [(.double (FP.dadd FP.dconst0 v74))]))
  generalize hv75 : ((FP.dadd FP.dconst0 v74) : UInt64) = v75 at d75 ⊢
  show Dn p e below s _ _ _ (s₁.setTop (mkF m 76 #[.val (.ref a), .val (.double v27_2), .second, .val (.double v39), .second, .val (.double FP.dconst0), .second, .val (.ref a), .val (.int (2 : Int32)), .val (.int (0 : Int32)), .val (.double zz), .second] [(.double v75)]))
  refine Dn.st (fun _ kk => XS.dstore X0.here hx rfl (hb hby d2_76) rfl (l' := #[.val (.ref a), .val (.double v27_2), .second, .val (.double v39), .second, .val (.double v75), .second, .val (.ref a), .val (.int (2 : Int32)), .val (.int (0 : Int32)), .val (.double zz), .second]) rfl (XS.iinc X0.here hx rfl (hb hby d2_78) rfl (l' := #[.val (.ref a), .val (.double v27_2), .second, .val (.double v39), .second, .val (.double v75), .second, .val (.ref a), .val (.int (2 : Int32)), .val (.int (1 : Int32)), .val (.double zz), .second]) rfl (XS.goto X0.here hx rfl (pc0 := 81) (pc' := 55) rfl (hb hby d2_81) (by decide) (by decide) (XS.iload X0.here hx rfl (hb hby d2_55) rfl  (XS.iload X0.here hx rfl (hb hby d2_57) rfl  (kk)))))) ?_
  show Dn p e below s _ _ _ (s₁.setTop (mkF m 59 #[.val (.ref a), .val (.double v27_2), .second, .val (.double v39), .second, .val (.double v75), .second, .val (.ref a), .val (.int (2 : Int32)), .val (.int (1 : Int32)), .val (.double zz), .second] [(.int (2 : Int32)), (.int (1 : Int32))]))
  have hc59_2 : (1 : Int32) < (2 : Int32) := by decide
  refine Dn.st (fun _ kk => XS.icmpNo X0.here hx rfl (hb hby d2_59) rfl (tlt hc59_2).2.1 (XS.aload X0.here hx rfl (hb hby d2_62) rfl rfl (XS.iload X0.here hx rfl (hb hby d2_64) rfl  (kk)))) ?_
  show Dn p e below s _ _ _ (s₁.setTop (mkF m 66 #[.val (.ref a), .val (.double v27_2), .second, .val (.double v39), .second, .val (.double v75), .second, .val (.ref a), .val (.int (2 : Int32)), .val (.int (1 : Int32)), .val (.double zz), .second] [(.int (1 : Int32)), (.ref a)]))
  have Vc_a_66_2 := Va
  obtain ⟨cl_a_66_2, Ar_a_66_2, q_a_66_2, S_a_66_2, N_a_66_2, H_a_66_2, G_a_66_2⟩ := Vc_a_66_2
  have hin66_2 : ¬ ((1 : Int32) < 0 ∨ cl_a_66_2.slots.size ≤ ((1 : Int32)).toNatClampNeg) := inb_of S_a_66_2 ⟨by decide, by decide⟩
  have hat66_2 : cl_a_66_2.slots[((1 : Int32)).toNatClampNeg]? = some (.double zz) := H_a_66_2.at hin66_2 rfl
  refine Dn.st (fun _ kk => X0.daload hx (j := (1 : Int32)) (v := (.double zz)) (by rw [e0]; exact Ar_a_66_2.1) (State.isArrayOf_alike hZ.alike Ar_a_66_2.2.1) Ar_a_66_2.2.2 hin66_2 hat66_2 (g := (mkF m 66 #[.val (.ref a), .val (.double v27_2), .second, .val (.double v39), .second, .val (.double v75), .second, .val (.ref a), .val (.int (2 : Int32)), .val (.int (1 : Int32)), .val (.double zz), .second] [(.int (1 : Int32)), (.ref a)])) rfl rfl (hb hby d2_66) _ (XS.dstore X0.here hx rfl (hb hby d2_67) rfl (l' := #[.val (.ref a), .val (.double v27_2), .second, .val (.double v39), .second, .val (.double v75), .second, .val (.ref a), .val (.int (2 : Int32)), .val (.int (1 : Int32)), .val (.double zz), .second]) rfl (XS.dload X0.here hx rfl (hb hby d2_69) rfl  (XS.dload X0.here hx rfl (hb hby d2_71) rfl  (XS.dloadN X0.here hx rfl (hb hby d2_73) rfl  (kk)))))) ?_
  show Dn p e below s _ _ _ (s₁.setTop (mkF m 74 #[.val (.ref a), .val (.double v27_2), .second, .val (.double v39), .second, .val (.double v75), .second, .val (.ref a), .val (.int (2 : Int32)), .val (.int (1 : Int32)), .val (.double zz), .second] [(.double v39), (.double zz), (.double v75)]))
  have d74_2 : DS 1 (kq * 2 - ih) (FP.dsub zz v39) := DS.sub (k := 1) (d_zz.up 1) d39 (by show (kq * 2 - ih).natAbs ≤ _; omega) (by decide)
  refine Dn.st (fun _ kk => XS.dsubS X0.here hx rfl (hb hby d2_74) rfl d74_2.nn rfl (kk)) ?_
  show Dn p e below s _ _ _ (s₁.setTop (mkF m 75 #[.val (.ref a), .val (.double v27_2), .second, .val (.double v39), .second, .val (.double v75), .second, .val (.ref a), .val (.int (2 : Int32)), .val (.int (1 : Int32)), .val (.double zz), .second] [(.double (FP.dsub zz v39)), (.double v75)]))
  generalize hv74_2 : ((FP.dsub zz v39) : UInt64) = v74_2 at d74_2 ⊢
  show Dn p e below s _ _ _ (s₁.setTop (mkF m 75 #[.val (.ref a), .val (.double v27_2), .second, .val (.double v39), .second, .val (.double v75), .second, .val (.ref a), .val (.int (2 : Int32)), .val (.int (1 : Int32)), .val (.double zz), .second] [(.double v74_2), (.double v75)]))
  have d75_2 : DS 1 ((kq * 2 - ih) * 2) (FP.dadd v75 v74_2) := DS.addc (k := 1) d75 d74_2 (by omega) (by omega) (by decide)
  refine Dn.st (fun _ kk => XS.daddS X0.here hx rfl (hb hby d2_75) rfl d75_2.nn rfl (kk)) ?_
  show Dn p e below s _ _ _ (s₁.setTop (mkF m 76 #[.val (.ref a), .val (.double v27_2), .second, .val (.double v39), .second, .val (.double v75), .second, .val (.ref a), .val (.int (2 : Int32)), .val (.int (1 : Int32)), .val (.double zz), .second] [(.double (FP.dadd v75 v74_2))]))
  generalize hv75_2 : ((FP.dadd v75 v74_2) : UInt64) = v75_2 at d75_2 ⊢
  show Dn p e below s _ _ _ (s₁.setTop (mkF m 76 #[.val (.ref a), .val (.double v27_2), .second, .val (.double v39), .second, .val (.double v75), .second, .val (.ref a), .val (.int (2 : Int32)), .val (.int (1 : Int32)), .val (.double zz), .second] [(.double v75_2)]))
  refine Dn.st (fun _ kk => XS.dstore X0.here hx rfl (hb hby d2_76) rfl (l' := #[.val (.ref a), .val (.double v27_2), .second, .val (.double v39), .second, .val (.double v75_2), .second, .val (.ref a), .val (.int (2 : Int32)), .val (.int (1 : Int32)), .val (.double zz), .second]) rfl (XS.iinc X0.here hx rfl (hb hby d2_78) rfl (l' := #[.val (.ref a), .val (.double v27_2), .second, .val (.double v39), .second, .val (.double v75_2), .second, .val (.ref a), .val (.int (2 : Int32)), .val (.int (2 : Int32)), .val (.double zz), .second]) rfl (XS.goto X0.here hx rfl (pc0 := 81) (pc' := 55) rfl (hb hby d2_81) (by decide) (by decide) (XS.iload X0.here hx rfl (hb hby d2_55) rfl  (XS.iload X0.here hx rfl (hb hby d2_57) rfl  (kk)))))) ?_
  show Dn p e below s _ _ _ (s₁.setTop (mkF m 59 #[.val (.ref a), .val (.double v27_2), .second, .val (.double v39), .second, .val (.double v75_2), .second, .val (.ref a), .val (.int (2 : Int32)), .val (.int (2 : Int32)), .val (.double zz), .second] [(.int (2 : Int32)), (.int (2 : Int32))]))
  have hc59_3 : ¬ ((2 : Int32) < (2 : Int32)) := by decide
  refine Dn.st (fun _ kk => XS.icmpYes X0.here hx rfl (pc0 := 59) (pc' := 84) rfl (hb hby d2_59) rfl (flt hc59_3).2.1 (by decide) (by decide) (XS.dloadN X0.here hx rfl (hb hby d2_84) rfl  (XS.dload X0.here hx rfl (hb hby d2_85) rfl  (XS.aloadN X0.here hx rfl (hb hby d2_87) rfl rfl (kk))))) ?_
  show Dn p e below s _ _ _ (s₁.setTop (mkF m 88 #[.val (.ref a), .val (.double v27_2), .second, .val (.double v39), .second, .val (.double v75_2), .second, .val (.ref a), .val (.int (2 : Int32)), .val (.int (2 : Int32)), .val (.double zz), .second] [(.ref a), (.double v75_2), (.double v39)]))
  have Vc_a_88 := Va
  obtain ⟨cl_a_88, Ar_a_88, q_a_88, S_a_88, N_a_88, H_a_88, G_a_88⟩ := Vc_a_88
  refine Dn.st (fun _ kk => X0.arraylength hx (by rw [e0]; exact Ar_a_88.1) (State.isArrayOf_alike hZ.alike Ar_a_88.2.1) (g := (mkF m 88 #[.val (.ref a), .val (.double v27_2), .second, .val (.double v39), .second, .val (.double v75_2), .second, .val (.ref a), .val (.int (2 : Int32)), .val (.int (2 : Int32)), .val (.double zz), .second] [(.ref a), (.double v75_2), (.double v39)])) rfl rfl (hb hby d2_88) _ (kk)) ?_
  show Dn p e below s _ _ _ (s₁.setTop (mkF m 89 #[.val (.ref a), .val (.double v27_2), .second, .val (.double v39), .second, .val (.double v75_2), .second, .val (.ref a), .val (.int (2 : Int32)), .val (.int (2 : Int32)), .val (.double zz), .second] [(.int cl_a_88.slots.size.toInt32), (.double v75_2), (.double v39)]))
  rw [len_of S_a_88 N_a_88]
  show Dn p e below s _ _ _ (s₁.setTop (mkF m 89 #[.val (.ref a), .val (.double v27_2), .second, .val (.double v39), .second, .val (.double v75_2), .second, .val (.ref a), .val (.int (2 : Int32)), .val (.int (2 : Int32)), .val (.double zz), .second] [(.int (2 : Int32)), (.double v75_2), (.double v39)]))
  have d89 := DS.i2d (2 : Int32)
  refine Dn.st (fun _ kk => XS.i2dS X0.here hx rfl (hb hby d2_89) rfl rfl (kk)) ?_
  show Dn p e below s _ _ _ (s₁.setTop (mkF m 90 #[.val (.ref a), .val (.double v27_2), .second, .val (.double v39), .second, .val (.double v75_2), .second, .val (.ref a), .val (.int (2 : Int32)), .val (.int (2 : Int32)), .val (.double zz), .second] [(.double (FP.i2d (2 : Int32))), (.double v75_2), (.double v39)]))
  generalize hv89 : ((FP.i2d (2 : Int32)) : UInt64) = v89 at d89 ⊢
  show Dn p e below s _ _ _ (s₁.setTop (mkF m 90 #[.val (.ref a), .val (.double v27_2), .second, .val (.double v39), .second, .val (.double v75_2), .second, .val (.ref a), .val (.int (2 : Int32)), .val (.int (2 : Int32)), .val (.double zz), .second] [(.double v89), (.double v75_2), (.double v39)]))
  have d90 : DS 1 (kq * 2 - ih) (FP.ddiv v75_2 v89) := DS.div (n := 1) (Q := (kq * 2 - ih)) d75_2 (DS.cast (i' := 2) d89 rfl (by decide)) (by decide) (by show _ * 2 = _ * 2; omega) (by omega) (by decide)
  refine Dn.st (fun _ kk => XS.ddivS X0.here hx rfl (hb hby d2_90) rfl d90.nn rfl (kk)) ?_
  show Dn p e below s _ _ _ (s₁.setTop (mkF m 91 #[.val (.ref a), .val (.double v27_2), .second, .val (.double v39), .second, .val (.double v75_2), .second, .val (.ref a), .val (.int (2 : Int32)), .val (.int (2 : Int32)), .val (.double zz), .second] [(.double (FP.ddiv v75_2 v89)), (.double v39)]))
  generalize hv90 : ((FP.ddiv v75_2 v89) : UInt64) = v90 at d90 ⊢
  show Dn p e below s _ _ _ (s₁.setTop (mkF m 91 #[.val (.ref a), .val (.double v27_2), .second, .val (.double v39), .second, .val (.double v75_2), .second, .val (.ref a), .val (.int (2 : Int32)), .val (.int (2 : Int32)), .val (.double zz), .second] [(.double v90), (.double v39)]))
  have d91 : DS 0 kq (FP.dadd v39 v90) := DS.add_half d39 d90 (by omega) (by omega) (by decide)
  refine Dn.st (fun _ kk => XS.daddS X0.here hx rfl (hb hby d2_91) rfl d91.nn rfl (kk)) ?_
  show Dn p e below s _ _ _ (s₁.setTop (mkF m 92 #[.val (.ref a), .val (.double v27_2), .second, .val (.double v39), .second, .val (.double v75_2), .second, .val (.ref a), .val (.int (2 : Int32)), .val (.int (2 : Int32)), .val (.double zz), .second] [(.double (FP.dadd v39 v90))]))
  generalize hv91 : ((FP.dadd v39 v90) : UInt64) = v91 at d91 ⊢
  show Dn p e below s _ _ _ (s₁.setTop (mkF m 92 #[.val (.ref a), .val (.double v27_2), .second, .val (.double v39), .second, .val (.double v75_2), .second, .val (.ref a), .val (.int (2 : Int32)), .val (.int (2 : Int32)), .val (.double zz), .second] [(.double v91)]))
  exact Dn.ret X0 hlk hx hret rfl (Or.inr (Or.inr (Or.inl ⟨rfl, rfl, _, rfl⟩))) (hb hby d2_92) (by rw [e0]; exact ⟨_, rfl, d91, N0, rfl⟩) (by decide) (by decide)

theorem ef2_rm2L_3 (m : MethodId) (x0 : Addr) : entryFrame m #[(.ref x0)] 12 = mkF m 0 #[.val (.ref x0), .unset, .unset, .unset, .unset, .unset, .unset, .unset, .unset, .unset, .unset, .unset] [] := by first | (simp [entryFrame, mkF, argsToLocals, Value.category]; done) | rfl
def Q2L_3 (Z : State) (a : Addr) (ka : ClassId) (zz : UInt64) (kq : Int) (h0 : Heap) (n0 : Nat) (v : Option Value) (h : Heap) (L : List Loc) : Prop := ∃ z, v = some (.double z) ∧ DS 0 kq z ∧ Fr n0 L ∧ h = h0
set_option maxRecDepth 65536 in
set_option maxHeartbeats 40000000 in
theorem rm2L_3 (l : Launch) (Z : State) (a0 : Array Value) (hw : ∀ d ∈ tables_1, d.before a0 Z = true) (ws : List Jvm.Cond) (a : Addr) (ka : ClassId) (zz : UInt64) (kq : Int) (h0 : Heap) (n0 : Nat) (Z0 : n0 ≤ h0.size) (Va : Arv Z h0 a ka .double 3 [(.double zz), (.double zz), (.double zz)] (.double 0)) (d_zz : DS 0 kq zz) (hkb : kq.natAbs < 2 ^ 53) (hl : 2251799813685248 < kq ∨ kq < -2251799813685248) :
    MetFree l (⟨"com/example/listino/listino/stats/Moments", "mean", "([D)D"⟩ : MethodName) (head1 (Jvm.Cond.code (⟨"com/example/listino/listino/stats/Moments", "mean", "([D)D"⟩ : MethodName) prog_51_method_2_code 12 (some .double) :: ws) ({ frames := 0, cells := 0, slots := 0, locals := 0 } : Room)) (fun aa UU => aa = #[(.ref a)] ∧ Z.Warmed39 UU.vm ∧ UU.heap = h0) (fun _ _ _ _ _ => True) (fun _ UU oo UU' => ∃ vv LL, oo = .returned vv ∧ Q2L_3 Z a ka zz kq h0 n0 vv UU'.heap LL ∧ FrameEnd UU oo UU' LL ({ frames := 0, cells := 0, slots := 0, locals := 0 } : Room).cells ({ frames := 0, cells := 0, slots := 0, locals := 0 } : Room).slots) := by
  refine MetFree.of_bodySF (plainFor_of_name pn1) hisR ?_
  intro p e s m args below meth c s₁ Bd hml0 hP hK
  obtain ⟨rfl, hZ, hh⟩ := hP
  have hx := Bd.exec
  have hby := Bd.bytes
  have hlk : meth.locks = false := BodyLoose.notSynchronized Bd
  have hret := Bd.returns
  have hml : c.maxLocals = 12 := hml0
  have hown : s.vm.findClass "com/example/listino/listino/stats/Moments" = some m.cls := findClass_of_methodNamed Bd.named
  have hnm := (name_of_methodNamed Bd.named Bd.method).1
  have X0 : Stand p l e ({ frames := 0, cells := 0, slots := 0, locals := 0 } : Room) s m #[(.ref a)] below meth c s₁ [] 0 0 := Stand.of_body Bd
  have e0 : s₁.heap = h0 := by rw [← hh, Bd.state]; rfl
  have N0 := Fr.nil n0
  show Dn p e below s (Q2L_3 Z a ka zz kq h0 n0) ({ frames := 0, cells := 0, slots := 0, locals := 0 } : Room).cells ({ frames := 0, cells := 0, slots := 0, locals := 0 } : Room).slots (s₁.setTop (entryFrame m #[(.ref a)] 12))
  refine Dn.st (fun _ kk => castTop (ef2_rm2L_3 m a) kk) ?_
  show Dn p e below s _ _ _ (s₁.setTop (mkF m 0 #[.val (.ref a), .unset, .unset, .unset, .unset, .unset, .unset, .unset, .unset, .unset, .unset, .unset] []))
  refine Dn.st (fun _ kk => XS.dconst0 X0.here hx rfl (hb hby d2_0) rfl (XS.dstoreN X0.here hx rfl (hb hby d2_1) rfl (l' := #[.val (.ref a), .val (.double FP.dconst0), .second, .unset, .unset, .unset, .unset, .unset, .unset, .unset, .unset, .unset]) rfl (XS.aloadN X0.here hx rfl (hb hby d2_2) rfl rfl (XS.astoreN X0.here hx rfl (hb hby d2_3) rfl rfl (l' := #[.val (.ref a), .val (.double FP.dconst0), .second, .val (.ref a), .unset, .unset, .unset, .unset, .unset, .unset, .unset, .unset]) rfl (XS.aloadN X0.here hx rfl (hb hby d2_4) rfl rfl (kk)))))) ?_
  show Dn p e below s _ _ _ (s₁.setTop (mkF m 5 #[.val (.ref a), .val (.double FP.dconst0), .second, .val (.ref a), .unset, .unset, .unset, .unset, .unset, .unset, .unset, .unset] [(.ref a)]))
  have Vc_a_5 := Va
  obtain ⟨cl_a_5, Ar_a_5, q_a_5, S_a_5, N_a_5, H_a_5, G_a_5⟩ := Vc_a_5
  refine Dn.st (fun _ kk => X0.arraylength hx (by rw [e0]; exact Ar_a_5.1) (State.isArrayOf_alike hZ.alike Ar_a_5.2.1) (g := (mkF m 5 #[.val (.ref a), .val (.double FP.dconst0), .second, .val (.ref a), .unset, .unset, .unset, .unset, .unset, .unset, .unset, .unset] [(.ref a)])) rfl rfl (hb hby d2_5) _ (kk)) ?_
  show Dn p e below s _ _ _ (s₁.setTop (mkF m 6 #[.val (.ref a), .val (.double FP.dconst0), .second, .val (.ref a), .unset, .unset, .unset, .unset, .unset, .unset, .unset, .unset] [(.int cl_a_5.slots.size.toInt32)]))
  rw [len_of S_a_5 N_a_5]
  show Dn p e below s _ _ _ (s₁.setTop (mkF m 6 #[.val (.ref a), .val (.double FP.dconst0), .second, .val (.ref a), .unset, .unset, .unset, .unset, .unset, .unset, .unset, .unset] [(.int (3 : Int32))]))
  refine Dn.st (fun _ kk => XS.istore X0.here hx rfl (hb hby d2_6) rfl (l' := #[.val (.ref a), .val (.double FP.dconst0), .second, .val (.ref a), .val (.int (3 : Int32)), .unset, .unset, .unset, .unset, .unset, .unset, .unset]) rfl (XS.iconst X0.here hx rfl (hb hby d2_8) (XS.istore X0.here hx rfl (hb hby d2_9) rfl (l' := #[.val (.ref a), .val (.double FP.dconst0), .second, .val (.ref a), .val (.int (3 : Int32)), .val (.int (0 : Int32)), .unset, .unset, .unset, .unset, .unset, .unset]) rfl (XS.iload X0.here hx rfl (hb hby d2_11) rfl  (XS.iload X0.here hx rfl (hb hby d2_13) rfl  (kk)))))) ?_
  show Dn p e below s _ _ _ (s₁.setTop (mkF m 15 #[.val (.ref a), .val (.double FP.dconst0), .second, .val (.ref a), .val (.int (3 : Int32)), .val (.int (0 : Int32)), .unset, .unset, .unset, .unset, .unset, .unset] [(.int (3 : Int32)), (.int (0 : Int32))]))
  have hc15 : (0 : Int32) < (3 : Int32) := by decide
  refine Dn.st (fun _ kk => XS.icmpNo X0.here hx rfl (hb hby d2_15) rfl (tlt hc15).2.1 (XS.aloadN X0.here hx rfl (hb hby d2_18) rfl rfl (XS.iload X0.here hx rfl (hb hby d2_19) rfl  (kk)))) ?_
  show Dn p e below s _ _ _ (s₁.setTop (mkF m 21 #[.val (.ref a), .val (.double FP.dconst0), .second, .val (.ref a), .val (.int (3 : Int32)), .val (.int (0 : Int32)), .unset, .unset, .unset, .unset, .unset, .unset] [(.int (0 : Int32)), (.ref a)]))
  have Vc_a_21 := Va
  obtain ⟨cl_a_21, Ar_a_21, q_a_21, S_a_21, N_a_21, H_a_21, G_a_21⟩ := Vc_a_21
  have hin21 : ¬ ((0 : Int32) < 0 ∨ cl_a_21.slots.size ≤ ((0 : Int32)).toNatClampNeg) := inb_of S_a_21 ⟨by decide, by decide⟩
  have hat21 : cl_a_21.slots[((0 : Int32)).toNatClampNeg]? = some (.double zz) := H_a_21.at hin21 rfl
  refine Dn.st (fun _ kk => X0.daload hx (j := (0 : Int32)) (v := (.double zz)) (by rw [e0]; exact Ar_a_21.1) (State.isArrayOf_alike hZ.alike Ar_a_21.2.1) Ar_a_21.2.2 hin21 hat21 (g := (mkF m 21 #[.val (.ref a), .val (.double FP.dconst0), .second, .val (.ref a), .val (.int (3 : Int32)), .val (.int (0 : Int32)), .unset, .unset, .unset, .unset, .unset, .unset] [(.int (0 : Int32)), (.ref a)])) rfl rfl (hb hby d2_21) _ (XS.dstore X0.here hx rfl (hb hby d2_22) rfl (l' := #[.val (.ref a), .val (.double FP.dconst0), .second, .val (.ref a), .val (.int (3 : Int32)), .val (.int (0 : Int32)), .val (.double zz), .second, .unset, .unset, .unset, .unset]) rfl (XS.dloadN X0.here hx rfl (hb hby d2_24) rfl  (XS.dload X0.here hx rfl (hb hby d2_25) rfl  (kk))))) ?_
  show Dn p e below s _ _ _ (s₁.setTop (mkF m 27 #[.val (.ref a), .val (.double FP.dconst0), .second, .val (.ref a), .val (.int (3 : Int32)), .val (.int (0 : Int32)), .val (.double zz), .second, .unset, .unset, .unset, .unset] [(.double zz), (.double FP.dconst0)]))
  have d27 : DS 0 kq (FP.dadd FP.dconst0 zz) := DS.addc dc_0 d_zz (by omega) (by omega) (by decide)
  refine Dn.st (fun _ kk => XS.daddS X0.here hx rfl (hb hby d2_27) rfl d27.nn rfl (kk)) ?_
  show Dn p e below s _ _ _ (s₁.setTop (mkF m 28 #[.val (.ref a), .val (.double FP.dconst0), .second, .val (.ref a), .val (.int (3 : Int32)), .val (.int (0 : Int32)), .val (.double zz), .second, .unset, .unset, .unset, .unset] [(.double (FP.dadd FP.dconst0 zz))]))
  generalize hv27 : ((FP.dadd FP.dconst0 zz) : UInt64) = v27 at d27 ⊢
  show Dn p e below s _ _ _ (s₁.setTop (mkF m 28 #[.val (.ref a), .val (.double FP.dconst0), .second, .val (.ref a), .val (.int (3 : Int32)), .val (.int (0 : Int32)), .val (.double zz), .second, .unset, .unset, .unset, .unset] [(.double v27)]))
  refine Dn.st (fun _ kk => XS.dstoreN X0.here hx rfl (hb hby d2_28) rfl (l' := #[.val (.ref a), .val (.double v27), .second, .val (.ref a), .val (.int (3 : Int32)), .val (.int (0 : Int32)), .val (.double zz), .second, .unset, .unset, .unset, .unset]) rfl (XS.iinc X0.here hx rfl (hb hby d2_29) rfl (l' := #[.val (.ref a), .val (.double v27), .second, .val (.ref a), .val (.int (3 : Int32)), .val (.int (1 : Int32)), .val (.double zz), .second, .unset, .unset, .unset, .unset]) rfl (XS.goto X0.here hx rfl (pc0 := 32) (pc' := 11) rfl (hb hby d2_32) (by decide) (by decide) (XS.iload X0.here hx rfl (hb hby d2_11) rfl  (XS.iload X0.here hx rfl (hb hby d2_13) rfl  (kk)))))) ?_
  show Dn p e below s _ _ _ (s₁.setTop (mkF m 15 #[.val (.ref a), .val (.double v27), .second, .val (.ref a), .val (.int (3 : Int32)), .val (.int (1 : Int32)), .val (.double zz), .second, .unset, .unset, .unset, .unset] [(.int (3 : Int32)), (.int (1 : Int32))]))
  have hc15_2 : (1 : Int32) < (3 : Int32) := by decide
  refine Dn.st (fun _ kk => XS.icmpNo X0.here hx rfl (hb hby d2_15) rfl (tlt hc15_2).2.1 (XS.aloadN X0.here hx rfl (hb hby d2_18) rfl rfl (XS.iload X0.here hx rfl (hb hby d2_19) rfl  (kk)))) ?_
  show Dn p e below s _ _ _ (s₁.setTop (mkF m 21 #[.val (.ref a), .val (.double v27), .second, .val (.ref a), .val (.int (3 : Int32)), .val (.int (1 : Int32)), .val (.double zz), .second, .unset, .unset, .unset, .unset] [(.int (1 : Int32)), (.ref a)]))
  have Vc_a_21_2 := Va
  obtain ⟨cl_a_21_2, Ar_a_21_2, q_a_21_2, S_a_21_2, N_a_21_2, H_a_21_2, G_a_21_2⟩ := Vc_a_21_2
  have hin21_2 : ¬ ((1 : Int32) < 0 ∨ cl_a_21_2.slots.size ≤ ((1 : Int32)).toNatClampNeg) := inb_of S_a_21_2 ⟨by decide, by decide⟩
  have hat21_2 : cl_a_21_2.slots[((1 : Int32)).toNatClampNeg]? = some (.double zz) := H_a_21_2.at hin21_2 rfl
  refine Dn.st (fun _ kk => X0.daload hx (j := (1 : Int32)) (v := (.double zz)) (by rw [e0]; exact Ar_a_21_2.1) (State.isArrayOf_alike hZ.alike Ar_a_21_2.2.1) Ar_a_21_2.2.2 hin21_2 hat21_2 (g := (mkF m 21 #[.val (.ref a), .val (.double v27), .second, .val (.ref a), .val (.int (3 : Int32)), .val (.int (1 : Int32)), .val (.double zz), .second, .unset, .unset, .unset, .unset] [(.int (1 : Int32)), (.ref a)])) rfl rfl (hb hby d2_21) _ (XS.dstore X0.here hx rfl (hb hby d2_22) rfl (l' := #[.val (.ref a), .val (.double v27), .second, .val (.ref a), .val (.int (3 : Int32)), .val (.int (1 : Int32)), .val (.double zz), .second, .unset, .unset, .unset, .unset]) rfl (XS.dloadN X0.here hx rfl (hb hby d2_24) rfl  (XS.dload X0.here hx rfl (hb hby d2_25) rfl  (kk))))) ?_
  show Dn p e below s _ _ _ (s₁.setTop (mkF m 27 #[.val (.ref a), .val (.double v27), .second, .val (.ref a), .val (.int (3 : Int32)), .val (.int (1 : Int32)), .val (.double zz), .second, .unset, .unset, .unset, .unset] [(.double zz), (.double v27)]))
  have g27_2 : DI 0 (2 * kq) (2 * kq) (FP.dadd v27 zz) := DI.addR (d27.di (by decide)) (d_zz.di (by decide)) (by omega) (by omega) (rep_two (rep_of (by decide) (by omega)) (by omega)) (rep_two (rep_of (by decide) (by omega)) (by omega))
  refine Dn.st (fun _ kk => XS.daddS X0.here hx rfl (hb hby d2_27) rfl g27_2.nn rfl (kk)) ?_
  show Dn p e below s _ _ _ (s₁.setTop (mkF m 28 #[.val (.ref a), .val (.double v27), .second, .val (.ref a), .val (.int (3 : Int32)), .val (.int (1 : Int32)), .val (.double zz), .second, .unset, .unset, .unset, .unset] [(.double (FP.dadd v27 zz))]))
  generalize hv27_2 : ((FP.dadd v27 zz) : UInt64) = v27_2
  rw [hv27_2] at g27_2
  show Dn p e below s _ _ _ (s₁.setTop (mkF m 28 #[.val (.ref a), .val (.double v27), .second, .val (.ref a), .val (.int (3 : Int32)), .val (.int (1 : Int32)), .val (.double zz), .second, .unset, .unset, .unset, .unset] [(.double v27_2)]))
  refine Dn.st (fun _ kk => XS.dstoreN X0.here hx rfl (hb hby d2_28) rfl (l' := #[.val (.ref a), .val (.double v27_2), .second, .val (.ref a), .val (.int (3 : Int32)), .val (.int (1 : Int32)), .val (.double zz), .second, .unset, .unset, .unset, .unset]) rfl (XS.iinc X0.here hx rfl (hb hby d2_29) rfl (l' := #[.val (.ref a), .val (.double v27_2), .second, .val (.ref a), .val (.int (3 : Int32)), .val (.int (2 : Int32)), .val (.double zz), .second, .unset, .unset, .unset, .unset]) rfl (XS.goto X0.here hx rfl (pc0 := 32) (pc' := 11) rfl (hb hby d2_32) (by decide) (by decide) (XS.iload X0.here hx rfl (hb hby d2_11) rfl  (XS.iload X0.here hx rfl (hb hby d2_13) rfl  (kk)))))) ?_
  show Dn p e below s _ _ _ (s₁.setTop (mkF m 15 #[.val (.ref a), .val (.double v27_2), .second, .val (.ref a), .val (.int (3 : Int32)), .val (.int (2 : Int32)), .val (.double zz), .second, .unset, .unset, .unset, .unset] [(.int (3 : Int32)), (.int (2 : Int32))]))
  have hc15_3 : (2 : Int32) < (3 : Int32) := by decide
  refine Dn.st (fun _ kk => XS.icmpNo X0.here hx rfl (hb hby d2_15) rfl (tlt hc15_3).2.1 (XS.aloadN X0.here hx rfl (hb hby d2_18) rfl rfl (XS.iload X0.here hx rfl (hb hby d2_19) rfl  (kk)))) ?_
  show Dn p e below s _ _ _ (s₁.setTop (mkF m 21 #[.val (.ref a), .val (.double v27_2), .second, .val (.ref a), .val (.int (3 : Int32)), .val (.int (2 : Int32)), .val (.double zz), .second, .unset, .unset, .unset, .unset] [(.int (2 : Int32)), (.ref a)]))
  have Vc_a_21_3 := Va
  obtain ⟨cl_a_21_3, Ar_a_21_3, q_a_21_3, S_a_21_3, N_a_21_3, H_a_21_3, G_a_21_3⟩ := Vc_a_21_3
  have hin21_3 : ¬ ((2 : Int32) < 0 ∨ cl_a_21_3.slots.size ≤ ((2 : Int32)).toNatClampNeg) := inb_of S_a_21_3 ⟨by decide, by decide⟩
  have hat21_3 : cl_a_21_3.slots[((2 : Int32)).toNatClampNeg]? = some (.double zz) := H_a_21_3.at hin21_3 rfl
  refine Dn.st (fun _ kk => X0.daload hx (j := (2 : Int32)) (v := (.double zz)) (by rw [e0]; exact Ar_a_21_3.1) (State.isArrayOf_alike hZ.alike Ar_a_21_3.2.1) Ar_a_21_3.2.2 hin21_3 hat21_3 (g := (mkF m 21 #[.val (.ref a), .val (.double v27_2), .second, .val (.ref a), .val (.int (3 : Int32)), .val (.int (2 : Int32)), .val (.double zz), .second, .unset, .unset, .unset, .unset] [(.int (2 : Int32)), (.ref a)])) rfl rfl (hb hby d2_21) _ (XS.dstore X0.here hx rfl (hb hby d2_22) rfl (l' := #[.val (.ref a), .val (.double v27_2), .second, .val (.ref a), .val (.int (3 : Int32)), .val (.int (2 : Int32)), .val (.double zz), .second, .unset, .unset, .unset, .unset]) rfl (XS.dloadN X0.here hx rfl (hb hby d2_24) rfl  (XS.dload X0.here hx rfl (hb hby d2_25) rfl  (kk))))) ?_
  show Dn p e below s _ _ _ (s₁.setTop (mkF m 27 #[.val (.ref a), .val (.double v27_2), .second, .val (.ref a), .val (.int (3 : Int32)), .val (.int (2 : Int32)), .val (.double zz), .second, .unset, .unset, .unset, .unset] [(.double zz), (.double v27_2)]))
  have g27_3 : DI 0 (2 * (2 * (3 * kq / 4))) (2 * (2 * ((3 * kq + 3) / 4))) (FP.dadd v27_2 zz) := DI.addR g27_2 (d_zz.di (by decide)) (by omega) (by omega) (own_rep4 (by omega)) (own_rep4 (by omega))
  refine Dn.st (fun _ kk => XS.daddS X0.here hx rfl (hb hby d2_27) rfl g27_3.nn rfl (kk)) ?_
  show Dn p e below s _ _ _ (s₁.setTop (mkF m 28 #[.val (.ref a), .val (.double v27_2), .second, .val (.ref a), .val (.int (3 : Int32)), .val (.int (2 : Int32)), .val (.double zz), .second, .unset, .unset, .unset, .unset] [(.double (FP.dadd v27_2 zz))]))
  generalize hv27_3 : ((FP.dadd v27_2 zz) : UInt64) = v27_3
  rw [hv27_3] at g27_3
  show Dn p e below s _ _ _ (s₁.setTop (mkF m 28 #[.val (.ref a), .val (.double v27_2), .second, .val (.ref a), .val (.int (3 : Int32)), .val (.int (2 : Int32)), .val (.double zz), .second, .unset, .unset, .unset, .unset] [(.double v27_3)]))
  refine Dn.st (fun _ kk => XS.dstoreN X0.here hx rfl (hb hby d2_28) rfl (l' := #[.val (.ref a), .val (.double v27_3), .second, .val (.ref a), .val (.int (3 : Int32)), .val (.int (2 : Int32)), .val (.double zz), .second, .unset, .unset, .unset, .unset]) rfl (XS.iinc X0.here hx rfl (hb hby d2_29) rfl (l' := #[.val (.ref a), .val (.double v27_3), .second, .val (.ref a), .val (.int (3 : Int32)), .val (.int (3 : Int32)), .val (.double zz), .second, .unset, .unset, .unset, .unset]) rfl (XS.goto X0.here hx rfl (pc0 := 32) (pc' := 11) rfl (hb hby d2_32) (by decide) (by decide) (XS.iload X0.here hx rfl (hb hby d2_11) rfl  (XS.iload X0.here hx rfl (hb hby d2_13) rfl  (kk)))))) ?_
  show Dn p e below s _ _ _ (s₁.setTop (mkF m 15 #[.val (.ref a), .val (.double v27_3), .second, .val (.ref a), .val (.int (3 : Int32)), .val (.int (3 : Int32)), .val (.double zz), .second, .unset, .unset, .unset, .unset] [(.int (3 : Int32)), (.int (3 : Int32))]))
  have hc15_4 : ¬ ((3 : Int32) < (3 : Int32)) := by decide
  refine Dn.st (fun _ kk => XS.icmpYes X0.here hx rfl (pc0 := 15) (pc' := 35) rfl (hb hby d2_15) rfl (flt hc15_4).2.1 (by decide) (by decide) (XS.dloadN X0.here hx rfl (hb hby d2_35) rfl  (XS.aloadN X0.here hx rfl (hb hby d2_36) rfl rfl (kk)))) ?_
  show Dn p e below s _ _ _ (s₁.setTop (mkF m 37 #[.val (.ref a), .val (.double v27_3), .second, .val (.ref a), .val (.int (3 : Int32)), .val (.int (3 : Int32)), .val (.double zz), .second, .unset, .unset, .unset, .unset] [(.ref a), (.double v27_3)]))
  have Vc_a_37 := Va
  obtain ⟨cl_a_37, Ar_a_37, q_a_37, S_a_37, N_a_37, H_a_37, G_a_37⟩ := Vc_a_37
  refine Dn.st (fun _ kk => X0.arraylength hx (by rw [e0]; exact Ar_a_37.1) (State.isArrayOf_alike hZ.alike Ar_a_37.2.1) (g := (mkF m 37 #[.val (.ref a), .val (.double v27_3), .second, .val (.ref a), .val (.int (3 : Int32)), .val (.int (3 : Int32)), .val (.double zz), .second, .unset, .unset, .unset, .unset] [(.ref a), (.double v27_3)])) rfl rfl (hb hby d2_37) _ (kk)) ?_
  show Dn p e below s _ _ _ (s₁.setTop (mkF m 38 #[.val (.ref a), .val (.double v27_3), .second, .val (.ref a), .val (.int (3 : Int32)), .val (.int (3 : Int32)), .val (.double zz), .second, .unset, .unset, .unset, .unset] [(.int cl_a_37.slots.size.toInt32), (.double v27_3)]))
  rw [len_of S_a_37 N_a_37]
  show Dn p e below s _ _ _ (s₁.setTop (mkF m 38 #[.val (.ref a), .val (.double v27_3), .second, .val (.ref a), .val (.int (3 : Int32)), .val (.int (3 : Int32)), .val (.double zz), .second, .unset, .unset, .unset, .unset] [(.int (3 : Int32)), (.double v27_3)]))
  have d38 := DS.i2d (3 : Int32)
  refine Dn.st (fun _ kk => XS.i2dS X0.here hx rfl (hb hby d2_38) rfl rfl (kk)) ?_
  show Dn p e below s _ _ _ (s₁.setTop (mkF m 39 #[.val (.ref a), .val (.double v27_3), .second, .val (.ref a), .val (.int (3 : Int32)), .val (.int (3 : Int32)), .val (.double zz), .second, .unset, .unset, .unset, .unset] [(.double (FP.i2d (3 : Int32))), (.double v27_3)]))
  generalize hv38 : ((FP.i2d (3 : Int32)) : UInt64) = v38 at d38 ⊢
  show Dn p e below s _ _ _ (s₁.setTop (mkF m 39 #[.val (.ref a), .val (.double v27_3), .second, .val (.ref a), .val (.int (3 : Int32)), .val (.int (3 : Int32)), .val (.double zz), .second, .unset, .unset, .unset, .unset] [(.double v38), (.double v27_3)]))
  have g39 : DI 0 (kq - 1) (kq + 1) (FP.ddiv v27_3 v38) := DI.div g27_3 (DS.cast (i' := 3) d38 rfl (by decide)) (by decide) (by omega) (by omega) (rep_of (by decide) (by omega)) (rep_of (by decide) (by omega))
  refine Dn.st (fun _ kk => XS.ddivS X0.here hx rfl (hb hby d2_39) rfl g39.nn rfl (kk)) ?_
  show Dn p e below s _ _ _ (s₁.setTop (mkF m 40 #[.val (.ref a), .val (.double v27_3), .second, .val (.ref a), .val (.int (3 : Int32)), .val (.int (3 : Int32)), .val (.double zz), .second, .unset, .unset, .unset, .unset] [(.double (FP.ddiv v27_3 v38))]))
  generalize hv39 : ((FP.ddiv v27_3 v38) : UInt64) = v39
  rw [hv39] at g39
  obtain ⟨ih, d39, hh1, hh2⟩ := di_half g39 (by omega)
  show Dn p e below s _ _ _ (s₁.setTop (mkF m 40 #[.val (.ref a), .val (.double v27_3), .second, .val (.ref a), .val (.int (3 : Int32)), .val (.int (3 : Int32)), .val (.double zz), .second, .unset, .unset, .unset, .unset] [(.double v39)]))
  refine Dn.st (fun _ kk => XS.dstoreN X0.here hx rfl (hb hby d2_40) rfl (l' := #[.val (.ref a), .val (.double v27_3), .second, .val (.double v39), .second, .val (.int (3 : Int32)), .val (.double zz), .second, .unset, .unset, .unset, .unset]) rfl (XS.dconst0 X0.here hx rfl (hb hby d2_41) rfl (XS.dstore X0.here hx rfl (hb hby d2_42) rfl (l' := #[.val (.ref a), .val (.double v27_3), .second, .val (.double v39), .second, .val (.double FP.dconst0), .second, .unset, .unset, .unset, .unset, .unset]) rfl (XS.aloadN X0.here hx rfl (hb hby d2_44) rfl rfl (XS.astore X0.here hx rfl (hb hby d2_45) rfl rfl (l' := #[.val (.ref a), .val (.double v27_3), .second, .val (.double v39), .second, .val (.double FP.dconst0), .second, .val (.ref a), .unset, .unset, .unset, .unset]) rfl (XS.aload X0.here hx rfl (hb hby d2_47) rfl rfl (kk))))))) ?_
  show Dn p e below s _ _ _ (s₁.setTop (mkF m 49 #[.val (.ref a), .val (.double v27_3), .second, .val (.double v39), .second, .val (.double FP.dconst0), .second, .val (.ref a), .unset, .unset, .unset, .unset] [(.ref a)]))
  have Vc_a_49 := Va
  obtain ⟨cl_a_49, Ar_a_49, q_a_49, S_a_49, N_a_49, H_a_49, G_a_49⟩ := Vc_a_49
  refine Dn.st (fun _ kk => X0.arraylength hx (by rw [e0]; exact Ar_a_49.1) (State.isArrayOf_alike hZ.alike Ar_a_49.2.1) (g := (mkF m 49 #[.val (.ref a), .val (.double v27_3), .second, .val (.double v39), .second, .val (.double FP.dconst0), .second, .val (.ref a), .unset, .unset, .unset, .unset] [(.ref a)])) rfl rfl (hb hby d2_49) _ (kk)) ?_
  show Dn p e below s _ _ _ (s₁.setTop (mkF m 50 #[.val (.ref a), .val (.double v27_3), .second, .val (.double v39), .second, .val (.double FP.dconst0), .second, .val (.ref a), .unset, .unset, .unset, .unset] [(.int cl_a_49.slots.size.toInt32)]))
  rw [len_of S_a_49 N_a_49]
  show Dn p e below s _ _ _ (s₁.setTop (mkF m 50 #[.val (.ref a), .val (.double v27_3), .second, .val (.double v39), .second, .val (.double FP.dconst0), .second, .val (.ref a), .unset, .unset, .unset, .unset] [(.int (3 : Int32))]))
  refine Dn.st (fun _ kk => XS.istore X0.here hx rfl (hb hby d2_50) rfl (l' := #[.val (.ref a), .val (.double v27_3), .second, .val (.double v39), .second, .val (.double FP.dconst0), .second, .val (.ref a), .val (.int (3 : Int32)), .unset, .unset, .unset]) rfl (XS.iconst X0.here hx rfl (hb hby d2_52) (XS.istore X0.here hx rfl (hb hby d2_53) rfl (l' := #[.val (.ref a), .val (.double v27_3), .second, .val (.double v39), .second, .val (.double FP.dconst0), .second, .val (.ref a), .val (.int (3 : Int32)), .val (.int (0 : Int32)), .unset, .unset]) rfl (XS.iload X0.here hx rfl (hb hby d2_55) rfl  (XS.iload X0.here hx rfl (hb hby d2_57) rfl  (kk)))))) ?_
  show Dn p e below s _ _ _ (s₁.setTop (mkF m 59 #[.val (.ref a), .val (.double v27_3), .second, .val (.double v39), .second, .val (.double FP.dconst0), .second, .val (.ref a), .val (.int (3 : Int32)), .val (.int (0 : Int32)), .unset, .unset] [(.int (3 : Int32)), (.int (0 : Int32))]))
  have hc59 : (0 : Int32) < (3 : Int32) := by decide
  refine Dn.st (fun _ kk => XS.icmpNo X0.here hx rfl (hb hby d2_59) rfl (tlt hc59).2.1 (XS.aload X0.here hx rfl (hb hby d2_62) rfl rfl (XS.iload X0.here hx rfl (hb hby d2_64) rfl  (kk)))) ?_
  show Dn p e below s _ _ _ (s₁.setTop (mkF m 66 #[.val (.ref a), .val (.double v27_3), .second, .val (.double v39), .second, .val (.double FP.dconst0), .second, .val (.ref a), .val (.int (3 : Int32)), .val (.int (0 : Int32)), .unset, .unset] [(.int (0 : Int32)), (.ref a)]))
  have Vc_a_66 := Va
  obtain ⟨cl_a_66, Ar_a_66, q_a_66, S_a_66, N_a_66, H_a_66, G_a_66⟩ := Vc_a_66
  have hin66 : ¬ ((0 : Int32) < 0 ∨ cl_a_66.slots.size ≤ ((0 : Int32)).toNatClampNeg) := inb_of S_a_66 ⟨by decide, by decide⟩
  have hat66 : cl_a_66.slots[((0 : Int32)).toNatClampNeg]? = some (.double zz) := H_a_66.at hin66 rfl
  refine Dn.st (fun _ kk => X0.daload hx (j := (0 : Int32)) (v := (.double zz)) (by rw [e0]; exact Ar_a_66.1) (State.isArrayOf_alike hZ.alike Ar_a_66.2.1) Ar_a_66.2.2 hin66 hat66 (g := (mkF m 66 #[.val (.ref a), .val (.double v27_3), .second, .val (.double v39), .second, .val (.double FP.dconst0), .second, .val (.ref a), .val (.int (3 : Int32)), .val (.int (0 : Int32)), .unset, .unset] [(.int (0 : Int32)), (.ref a)])) rfl rfl (hb hby d2_66) _ (XS.dstore X0.here hx rfl (hb hby d2_67) rfl (l' := #[.val (.ref a), .val (.double v27_3), .second, .val (.double v39), .second, .val (.double FP.dconst0), .second, .val (.ref a), .val (.int (3 : Int32)), .val (.int (0 : Int32)), .val (.double zz), .second]) rfl (XS.dload X0.here hx rfl (hb hby d2_69) rfl  (XS.dload X0.here hx rfl (hb hby d2_71) rfl  (XS.dloadN X0.here hx rfl (hb hby d2_73) rfl  (kk)))))) ?_
  show Dn p e below s _ _ _ (s₁.setTop (mkF m 74 #[.val (.ref a), .val (.double v27_3), .second, .val (.double v39), .second, .val (.double FP.dconst0), .second, .val (.ref a), .val (.int (3 : Int32)), .val (.int (0 : Int32)), .val (.double zz), .second] [(.double v39), (.double zz), (.double FP.dconst0)]))
  have d74 : DS 1 (kq * 2 - ih) (FP.dsub zz v39) := DS.sub (k := 1) (d_zz.up 1) d39 (by show (kq * 2 - ih).natAbs ≤ _; omega) (by decide)
  refine Dn.st (fun _ kk => XS.dsubS X0.here hx rfl (hb hby d2_74) rfl d74.nn rfl (kk)) ?_
  show Dn p e below s _ _ _ (s₁.setTop (mkF m 75 #[.val (.ref a), .val (.double v27_3), .second, .val (.double v39), .second, .val (.double FP.dconst0), .second, .val (.ref a), .val (.int (3 : Int32)), .val (.int (0 : Int32)), .val (.double zz), .second] [(.double (FP.dsub zz v39)), (.double FP.dconst0)]))
  generalize hv74 : ((FP.dsub zz v39) : UInt64) = v74 at d74 ⊢
  show Dn p e below s _ _ _ (s₁.setTop (mkF m 75 #[.val (.ref a), .val (.double v27_3), .second, .val (.double v39), .second, .val (.double FP.dconst0), .second, .val (.ref a), .val (.int (3 : Int32)), .val (.int (0 : Int32)), .val (.double zz), .second] [(.double v74), (.double FP.dconst0)]))
  have d75 : DS 1 ((kq * 2 - ih) * 1) (FP.dadd FP.dconst0 v74) := DS.addc (k := 1) (DS.zero 1) d74 (by omega) (by omega) (by decide)
  refine Dn.st (fun _ kk => XS.daddS X0.here hx rfl (hb hby d2_75) rfl d75.nn rfl (kk)) ?_
  show Dn p e below s _ _ _ (s₁.setTop (mkF m 76 #[.val (.ref a), .val (.double v27_3), .second, .val (.double v39), .second, .val (.double FP.dconst0), .second, .val (.ref a), .val (.int (3 : Int32)), .val (.int (0 : Int32)), .val (.double zz), .second] [(.double (FP.dadd FP.dconst0 v74))]))
  generalize hv75 : ((FP.dadd FP.dconst0 v74) : UInt64) = v75 at d75 ⊢
  show Dn p e below s _ _ _ (s₁.setTop (mkF m 76 #[.val (.ref a), .val (.double v27_3), .second, .val (.double v39), .second, .val (.double FP.dconst0), .second, .val (.ref a), .val (.int (3 : Int32)), .val (.int (0 : Int32)), .val (.double zz), .second] [(.double v75)]))
  refine Dn.st (fun _ kk => XS.dstore X0.here hx rfl (hb hby d2_76) rfl (l' := #[.val (.ref a), .val (.double v27_3), .second, .val (.double v39), .second, .val (.double v75), .second, .val (.ref a), .val (.int (3 : Int32)), .val (.int (0 : Int32)), .val (.double zz), .second]) rfl (XS.iinc X0.here hx rfl (hb hby d2_78) rfl (l' := #[.val (.ref a), .val (.double v27_3), .second, .val (.double v39), .second, .val (.double v75), .second, .val (.ref a), .val (.int (3 : Int32)), .val (.int (1 : Int32)), .val (.double zz), .second]) rfl (XS.goto X0.here hx rfl (pc0 := 81) (pc' := 55) rfl (hb hby d2_81) (by decide) (by decide) (XS.iload X0.here hx rfl (hb hby d2_55) rfl  (XS.iload X0.here hx rfl (hb hby d2_57) rfl  (kk)))))) ?_
  show Dn p e below s _ _ _ (s₁.setTop (mkF m 59 #[.val (.ref a), .val (.double v27_3), .second, .val (.double v39), .second, .val (.double v75), .second, .val (.ref a), .val (.int (3 : Int32)), .val (.int (1 : Int32)), .val (.double zz), .second] [(.int (3 : Int32)), (.int (1 : Int32))]))
  have hc59_2 : (1 : Int32) < (3 : Int32) := by decide
  refine Dn.st (fun _ kk => XS.icmpNo X0.here hx rfl (hb hby d2_59) rfl (tlt hc59_2).2.1 (XS.aload X0.here hx rfl (hb hby d2_62) rfl rfl (XS.iload X0.here hx rfl (hb hby d2_64) rfl  (kk)))) ?_
  show Dn p e below s _ _ _ (s₁.setTop (mkF m 66 #[.val (.ref a), .val (.double v27_3), .second, .val (.double v39), .second, .val (.double v75), .second, .val (.ref a), .val (.int (3 : Int32)), .val (.int (1 : Int32)), .val (.double zz), .second] [(.int (1 : Int32)), (.ref a)]))
  have Vc_a_66_2 := Va
  obtain ⟨cl_a_66_2, Ar_a_66_2, q_a_66_2, S_a_66_2, N_a_66_2, H_a_66_2, G_a_66_2⟩ := Vc_a_66_2
  have hin66_2 : ¬ ((1 : Int32) < 0 ∨ cl_a_66_2.slots.size ≤ ((1 : Int32)).toNatClampNeg) := inb_of S_a_66_2 ⟨by decide, by decide⟩
  have hat66_2 : cl_a_66_2.slots[((1 : Int32)).toNatClampNeg]? = some (.double zz) := H_a_66_2.at hin66_2 rfl
  refine Dn.st (fun _ kk => X0.daload hx (j := (1 : Int32)) (v := (.double zz)) (by rw [e0]; exact Ar_a_66_2.1) (State.isArrayOf_alike hZ.alike Ar_a_66_2.2.1) Ar_a_66_2.2.2 hin66_2 hat66_2 (g := (mkF m 66 #[.val (.ref a), .val (.double v27_3), .second, .val (.double v39), .second, .val (.double v75), .second, .val (.ref a), .val (.int (3 : Int32)), .val (.int (1 : Int32)), .val (.double zz), .second] [(.int (1 : Int32)), (.ref a)])) rfl rfl (hb hby d2_66) _ (XS.dstore X0.here hx rfl (hb hby d2_67) rfl (l' := #[.val (.ref a), .val (.double v27_3), .second, .val (.double v39), .second, .val (.double v75), .second, .val (.ref a), .val (.int (3 : Int32)), .val (.int (1 : Int32)), .val (.double zz), .second]) rfl (XS.dload X0.here hx rfl (hb hby d2_69) rfl  (XS.dload X0.here hx rfl (hb hby d2_71) rfl  (XS.dloadN X0.here hx rfl (hb hby d2_73) rfl  (kk)))))) ?_
  show Dn p e below s _ _ _ (s₁.setTop (mkF m 74 #[.val (.ref a), .val (.double v27_3), .second, .val (.double v39), .second, .val (.double v75), .second, .val (.ref a), .val (.int (3 : Int32)), .val (.int (1 : Int32)), .val (.double zz), .second] [(.double v39), (.double zz), (.double v75)]))
  have d74_2 : DS 1 (kq * 2 - ih) (FP.dsub zz v39) := DS.sub (k := 1) (d_zz.up 1) d39 (by show (kq * 2 - ih).natAbs ≤ _; omega) (by decide)
  refine Dn.st (fun _ kk => XS.dsubS X0.here hx rfl (hb hby d2_74) rfl d74_2.nn rfl (kk)) ?_
  show Dn p e below s _ _ _ (s₁.setTop (mkF m 75 #[.val (.ref a), .val (.double v27_3), .second, .val (.double v39), .second, .val (.double v75), .second, .val (.ref a), .val (.int (3 : Int32)), .val (.int (1 : Int32)), .val (.double zz), .second] [(.double (FP.dsub zz v39)), (.double v75)]))
  generalize hv74_2 : ((FP.dsub zz v39) : UInt64) = v74_2 at d74_2 ⊢
  show Dn p e below s _ _ _ (s₁.setTop (mkF m 75 #[.val (.ref a), .val (.double v27_3), .second, .val (.double v39), .second, .val (.double v75), .second, .val (.ref a), .val (.int (3 : Int32)), .val (.int (1 : Int32)), .val (.double zz), .second] [(.double v74_2), (.double v75)]))
  have d75_2 : DS 1 ((kq * 2 - ih) * 2) (FP.dadd v75 v74_2) := DS.addc (k := 1) d75 d74_2 (by omega) (by omega) (by decide)
  refine Dn.st (fun _ kk => XS.daddS X0.here hx rfl (hb hby d2_75) rfl d75_2.nn rfl (kk)) ?_
  show Dn p e below s _ _ _ (s₁.setTop (mkF m 76 #[.val (.ref a), .val (.double v27_3), .second, .val (.double v39), .second, .val (.double v75), .second, .val (.ref a), .val (.int (3 : Int32)), .val (.int (1 : Int32)), .val (.double zz), .second] [(.double (FP.dadd v75 v74_2))]))
  generalize hv75_2 : ((FP.dadd v75 v74_2) : UInt64) = v75_2 at d75_2 ⊢
  show Dn p e below s _ _ _ (s₁.setTop (mkF m 76 #[.val (.ref a), .val (.double v27_3), .second, .val (.double v39), .second, .val (.double v75), .second, .val (.ref a), .val (.int (3 : Int32)), .val (.int (1 : Int32)), .val (.double zz), .second] [(.double v75_2)]))
  refine Dn.st (fun _ kk => XS.dstore X0.here hx rfl (hb hby d2_76) rfl (l' := #[.val (.ref a), .val (.double v27_3), .second, .val (.double v39), .second, .val (.double v75_2), .second, .val (.ref a), .val (.int (3 : Int32)), .val (.int (1 : Int32)), .val (.double zz), .second]) rfl (XS.iinc X0.here hx rfl (hb hby d2_78) rfl (l' := #[.val (.ref a), .val (.double v27_3), .second, .val (.double v39), .second, .val (.double v75_2), .second, .val (.ref a), .val (.int (3 : Int32)), .val (.int (2 : Int32)), .val (.double zz), .second]) rfl (XS.goto X0.here hx rfl (pc0 := 81) (pc' := 55) rfl (hb hby d2_81) (by decide) (by decide) (XS.iload X0.here hx rfl (hb hby d2_55) rfl  (XS.iload X0.here hx rfl (hb hby d2_57) rfl  (kk)))))) ?_
  show Dn p e below s _ _ _ (s₁.setTop (mkF m 59 #[.val (.ref a), .val (.double v27_3), .second, .val (.double v39), .second, .val (.double v75_2), .second, .val (.ref a), .val (.int (3 : Int32)), .val (.int (2 : Int32)), .val (.double zz), .second] [(.int (3 : Int32)), (.int (2 : Int32))]))
  have hc59_3 : (2 : Int32) < (3 : Int32) := by decide
  refine Dn.st (fun _ kk => XS.icmpNo X0.here hx rfl (hb hby d2_59) rfl (tlt hc59_3).2.1 (XS.aload X0.here hx rfl (hb hby d2_62) rfl rfl (XS.iload X0.here hx rfl (hb hby d2_64) rfl  (kk)))) ?_
  show Dn p e below s _ _ _ (s₁.setTop (mkF m 66 #[.val (.ref a), .val (.double v27_3), .second, .val (.double v39), .second, .val (.double v75_2), .second, .val (.ref a), .val (.int (3 : Int32)), .val (.int (2 : Int32)), .val (.double zz), .second] [(.int (2 : Int32)), (.ref a)]))
  have Vc_a_66_3 := Va
  obtain ⟨cl_a_66_3, Ar_a_66_3, q_a_66_3, S_a_66_3, N_a_66_3, H_a_66_3, G_a_66_3⟩ := Vc_a_66_3
  have hin66_3 : ¬ ((2 : Int32) < 0 ∨ cl_a_66_3.slots.size ≤ ((2 : Int32)).toNatClampNeg) := inb_of S_a_66_3 ⟨by decide, by decide⟩
  have hat66_3 : cl_a_66_3.slots[((2 : Int32)).toNatClampNeg]? = some (.double zz) := H_a_66_3.at hin66_3 rfl
  refine Dn.st (fun _ kk => X0.daload hx (j := (2 : Int32)) (v := (.double zz)) (by rw [e0]; exact Ar_a_66_3.1) (State.isArrayOf_alike hZ.alike Ar_a_66_3.2.1) Ar_a_66_3.2.2 hin66_3 hat66_3 (g := (mkF m 66 #[.val (.ref a), .val (.double v27_3), .second, .val (.double v39), .second, .val (.double v75_2), .second, .val (.ref a), .val (.int (3 : Int32)), .val (.int (2 : Int32)), .val (.double zz), .second] [(.int (2 : Int32)), (.ref a)])) rfl rfl (hb hby d2_66) _ (XS.dstore X0.here hx rfl (hb hby d2_67) rfl (l' := #[.val (.ref a), .val (.double v27_3), .second, .val (.double v39), .second, .val (.double v75_2), .second, .val (.ref a), .val (.int (3 : Int32)), .val (.int (2 : Int32)), .val (.double zz), .second]) rfl (XS.dload X0.here hx rfl (hb hby d2_69) rfl  (XS.dload X0.here hx rfl (hb hby d2_71) rfl  (XS.dloadN X0.here hx rfl (hb hby d2_73) rfl  (kk)))))) ?_
  show Dn p e below s _ _ _ (s₁.setTop (mkF m 74 #[.val (.ref a), .val (.double v27_3), .second, .val (.double v39), .second, .val (.double v75_2), .second, .val (.ref a), .val (.int (3 : Int32)), .val (.int (2 : Int32)), .val (.double zz), .second] [(.double v39), (.double zz), (.double v75_2)]))
  have d74_3 : DS 1 (kq * 2 - ih) (FP.dsub zz v39) := DS.sub (k := 1) (d_zz.up 1) d39 (by show (kq * 2 - ih).natAbs ≤ _; omega) (by decide)
  refine Dn.st (fun _ kk => XS.dsubS X0.here hx rfl (hb hby d2_74) rfl d74_3.nn rfl (kk)) ?_
  show Dn p e below s _ _ _ (s₁.setTop (mkF m 75 #[.val (.ref a), .val (.double v27_3), .second, .val (.double v39), .second, .val (.double v75_2), .second, .val (.ref a), .val (.int (3 : Int32)), .val (.int (2 : Int32)), .val (.double zz), .second] [(.double (FP.dsub zz v39)), (.double v75_2)]))
  generalize hv74_3 : ((FP.dsub zz v39) : UInt64) = v74_3 at d74_3 ⊢
  show Dn p e below s _ _ _ (s₁.setTop (mkF m 75 #[.val (.ref a), .val (.double v27_3), .second, .val (.double v39), .second, .val (.double v75_2), .second, .val (.ref a), .val (.int (3 : Int32)), .val (.int (2 : Int32)), .val (.double zz), .second] [(.double v74_3), (.double v75_2)]))
  have d75_3 : DS 1 ((kq * 2 - ih) * 3) (FP.dadd v75_2 v74_3) := DS.addc (k := 1) d75_2 d74_3 (by omega) (by omega) (by decide)
  refine Dn.st (fun _ kk => XS.daddS X0.here hx rfl (hb hby d2_75) rfl d75_3.nn rfl (kk)) ?_
  show Dn p e below s _ _ _ (s₁.setTop (mkF m 76 #[.val (.ref a), .val (.double v27_3), .second, .val (.double v39), .second, .val (.double v75_2), .second, .val (.ref a), .val (.int (3 : Int32)), .val (.int (2 : Int32)), .val (.double zz), .second] [(.double (FP.dadd v75_2 v74_3))]))
  generalize hv75_3 : ((FP.dadd v75_2 v74_3) : UInt64) = v75_3 at d75_3 ⊢
  show Dn p e below s _ _ _ (s₁.setTop (mkF m 76 #[.val (.ref a), .val (.double v27_3), .second, .val (.double v39), .second, .val (.double v75_2), .second, .val (.ref a), .val (.int (3 : Int32)), .val (.int (2 : Int32)), .val (.double zz), .second] [(.double v75_3)]))
  refine Dn.st (fun _ kk => XS.dstore X0.here hx rfl (hb hby d2_76) rfl (l' := #[.val (.ref a), .val (.double v27_3), .second, .val (.double v39), .second, .val (.double v75_3), .second, .val (.ref a), .val (.int (3 : Int32)), .val (.int (2 : Int32)), .val (.double zz), .second]) rfl (XS.iinc X0.here hx rfl (hb hby d2_78) rfl (l' := #[.val (.ref a), .val (.double v27_3), .second, .val (.double v39), .second, .val (.double v75_3), .second, .val (.ref a), .val (.int (3 : Int32)), .val (.int (3 : Int32)), .val (.double zz), .second]) rfl (XS.goto X0.here hx rfl (pc0 := 81) (pc' := 55) rfl (hb hby d2_81) (by decide) (by decide) (XS.iload X0.here hx rfl (hb hby d2_55) rfl  (XS.iload X0.here hx rfl (hb hby d2_57) rfl  (kk)))))) ?_
  show Dn p e below s _ _ _ (s₁.setTop (mkF m 59 #[.val (.ref a), .val (.double v27_3), .second, .val (.double v39), .second, .val (.double v75_3), .second, .val (.ref a), .val (.int (3 : Int32)), .val (.int (3 : Int32)), .val (.double zz), .second] [(.int (3 : Int32)), (.int (3 : Int32))]))
  have hc59_4 : ¬ ((3 : Int32) < (3 : Int32)) := by decide
  refine Dn.st (fun _ kk => XS.icmpYes X0.here hx rfl (pc0 := 59) (pc' := 84) rfl (hb hby d2_59) rfl (flt hc59_4).2.1 (by decide) (by decide) (XS.dloadN X0.here hx rfl (hb hby d2_84) rfl  (XS.dload X0.here hx rfl (hb hby d2_85) rfl  (XS.aloadN X0.here hx rfl (hb hby d2_87) rfl rfl (kk))))) ?_
  show Dn p e below s _ _ _ (s₁.setTop (mkF m 88 #[.val (.ref a), .val (.double v27_3), .second, .val (.double v39), .second, .val (.double v75_3), .second, .val (.ref a), .val (.int (3 : Int32)), .val (.int (3 : Int32)), .val (.double zz), .second] [(.ref a), (.double v75_3), (.double v39)]))
  have Vc_a_88 := Va
  obtain ⟨cl_a_88, Ar_a_88, q_a_88, S_a_88, N_a_88, H_a_88, G_a_88⟩ := Vc_a_88
  refine Dn.st (fun _ kk => X0.arraylength hx (by rw [e0]; exact Ar_a_88.1) (State.isArrayOf_alike hZ.alike Ar_a_88.2.1) (g := (mkF m 88 #[.val (.ref a), .val (.double v27_3), .second, .val (.double v39), .second, .val (.double v75_3), .second, .val (.ref a), .val (.int (3 : Int32)), .val (.int (3 : Int32)), .val (.double zz), .second] [(.ref a), (.double v75_3), (.double v39)])) rfl rfl (hb hby d2_88) _ (kk)) ?_
  show Dn p e below s _ _ _ (s₁.setTop (mkF m 89 #[.val (.ref a), .val (.double v27_3), .second, .val (.double v39), .second, .val (.double v75_3), .second, .val (.ref a), .val (.int (3 : Int32)), .val (.int (3 : Int32)), .val (.double zz), .second] [(.int cl_a_88.slots.size.toInt32), (.double v75_3), (.double v39)]))
  rw [len_of S_a_88 N_a_88]
  show Dn p e below s _ _ _ (s₁.setTop (mkF m 89 #[.val (.ref a), .val (.double v27_3), .second, .val (.double v39), .second, .val (.double v75_3), .second, .val (.ref a), .val (.int (3 : Int32)), .val (.int (3 : Int32)), .val (.double zz), .second] [(.int (3 : Int32)), (.double v75_3), (.double v39)]))
  have d89 := DS.i2d (3 : Int32)
  refine Dn.st (fun _ kk => XS.i2dS X0.here hx rfl (hb hby d2_89) rfl rfl (kk)) ?_
  show Dn p e below s _ _ _ (s₁.setTop (mkF m 90 #[.val (.ref a), .val (.double v27_3), .second, .val (.double v39), .second, .val (.double v75_3), .second, .val (.ref a), .val (.int (3 : Int32)), .val (.int (3 : Int32)), .val (.double zz), .second] [(.double (FP.i2d (3 : Int32))), (.double v75_3), (.double v39)]))
  generalize hv89 : ((FP.i2d (3 : Int32)) : UInt64) = v89 at d89 ⊢
  show Dn p e below s _ _ _ (s₁.setTop (mkF m 90 #[.val (.ref a), .val (.double v27_3), .second, .val (.double v39), .second, .val (.double v75_3), .second, .val (.ref a), .val (.int (3 : Int32)), .val (.int (3 : Int32)), .val (.double zz), .second] [(.double v89), (.double v75_3), (.double v39)]))
  have d90 : DS 1 (kq * 2 - ih) (FP.ddiv v75_3 v89) := DS.div (n := 1) (Q := (kq * 2 - ih)) d75_3 (DS.cast (i' := 3) d89 rfl (by decide)) (by decide) (by show _ * 2 = _ * 2; omega) (by omega) (by decide)
  refine Dn.st (fun _ kk => XS.ddivS X0.here hx rfl (hb hby d2_90) rfl d90.nn rfl (kk)) ?_
  show Dn p e below s _ _ _ (s₁.setTop (mkF m 91 #[.val (.ref a), .val (.double v27_3), .second, .val (.double v39), .second, .val (.double v75_3), .second, .val (.ref a), .val (.int (3 : Int32)), .val (.int (3 : Int32)), .val (.double zz), .second] [(.double (FP.ddiv v75_3 v89)), (.double v39)]))
  generalize hv90 : ((FP.ddiv v75_3 v89) : UInt64) = v90 at d90 ⊢
  show Dn p e below s _ _ _ (s₁.setTop (mkF m 91 #[.val (.ref a), .val (.double v27_3), .second, .val (.double v39), .second, .val (.double v75_3), .second, .val (.ref a), .val (.int (3 : Int32)), .val (.int (3 : Int32)), .val (.double zz), .second] [(.double v90), (.double v39)]))
  have d91 : DS 0 kq (FP.dadd v39 v90) := DS.add_half d39 d90 (by omega) (by omega) (by decide)
  refine Dn.st (fun _ kk => XS.daddS X0.here hx rfl (hb hby d2_91) rfl d91.nn rfl (kk)) ?_
  show Dn p e below s _ _ _ (s₁.setTop (mkF m 92 #[.val (.ref a), .val (.double v27_3), .second, .val (.double v39), .second, .val (.double v75_3), .second, .val (.ref a), .val (.int (3 : Int32)), .val (.int (3 : Int32)), .val (.double zz), .second] [(.double (FP.dadd v39 v90))]))
  generalize hv91 : ((FP.dadd v39 v90) : UInt64) = v91 at d91 ⊢
  show Dn p e below s _ _ _ (s₁.setTop (mkF m 92 #[.val (.ref a), .val (.double v27_3), .second, .val (.double v39), .second, .val (.double v75_3), .second, .val (.ref a), .val (.int (3 : Int32)), .val (.int (3 : Int32)), .val (.double zz), .second] [(.double v91)]))
  exact Dn.ret X0 hlk hx hret rfl (Or.inr (Or.inr (Or.inl ⟨rfl, rfl, _, rfl⟩))) (hb hby d2_92) (by rw [e0]; exact ⟨_, rfl, d91, N0, rfl⟩) (by decide) (by decide)

theorem ef2_rm2L_4 (m : MethodId) (x0 : Addr) : entryFrame m #[(.ref x0)] 12 = mkF m 0 #[.val (.ref x0), .unset, .unset, .unset, .unset, .unset, .unset, .unset, .unset, .unset, .unset, .unset] [] := by first | (simp [entryFrame, mkF, argsToLocals, Value.category]; done) | rfl
def Q2L_4 (Z : State) (a : Addr) (ka : ClassId) (zz : UInt64) (kq : Int) (h0 : Heap) (n0 : Nat) (v : Option Value) (h : Heap) (L : List Loc) : Prop := ∃ z, v = some (.double z) ∧ DS 0 kq z ∧ Fr n0 L ∧ h = h0
set_option maxRecDepth 65536 in
set_option maxHeartbeats 40000000 in
theorem rm2L_4 (l : Launch) (Z : State) (a0 : Array Value) (hw : ∀ d ∈ tables_1, d.before a0 Z = true) (ws : List Jvm.Cond) (a : Addr) (ka : ClassId) (zz : UInt64) (kq : Int) (h0 : Heap) (n0 : Nat) (Z0 : n0 ≤ h0.size) (Va : Arv Z h0 a ka .double 4 [(.double zz), (.double zz), (.double zz), (.double zz)] (.double 0)) (d_zz : DS 0 kq zz) (hkb : kq.natAbs < 2 ^ 53) (hl : 2251799813685248 < kq ∨ kq < -2251799813685248) :
    MetFree l (⟨"com/example/listino/listino/stats/Moments", "mean", "([D)D"⟩ : MethodName) (head1 (Jvm.Cond.code (⟨"com/example/listino/listino/stats/Moments", "mean", "([D)D"⟩ : MethodName) prog_51_method_2_code 12 (some .double) :: ws) ({ frames := 0, cells := 0, slots := 0, locals := 0 } : Room)) (fun aa UU => aa = #[(.ref a)] ∧ Z.Warmed39 UU.vm ∧ UU.heap = h0) (fun _ _ _ _ _ => True) (fun _ UU oo UU' => ∃ vv LL, oo = .returned vv ∧ Q2L_4 Z a ka zz kq h0 n0 vv UU'.heap LL ∧ FrameEnd UU oo UU' LL ({ frames := 0, cells := 0, slots := 0, locals := 0 } : Room).cells ({ frames := 0, cells := 0, slots := 0, locals := 0 } : Room).slots) := by
  refine MetFree.of_bodySF (plainFor_of_name pn1) hisR ?_
  intro p e s m args below meth c s₁ Bd hml0 hP hK
  obtain ⟨rfl, hZ, hh⟩ := hP
  have hx := Bd.exec
  have hby := Bd.bytes
  have hlk : meth.locks = false := BodyLoose.notSynchronized Bd
  have hret := Bd.returns
  have hml : c.maxLocals = 12 := hml0
  have hown : s.vm.findClass "com/example/listino/listino/stats/Moments" = some m.cls := findClass_of_methodNamed Bd.named
  have hnm := (name_of_methodNamed Bd.named Bd.method).1
  have X0 : Stand p l e ({ frames := 0, cells := 0, slots := 0, locals := 0 } : Room) s m #[(.ref a)] below meth c s₁ [] 0 0 := Stand.of_body Bd
  have e0 : s₁.heap = h0 := by rw [← hh, Bd.state]; rfl
  have N0 := Fr.nil n0
  show Dn p e below s (Q2L_4 Z a ka zz kq h0 n0) ({ frames := 0, cells := 0, slots := 0, locals := 0 } : Room).cells ({ frames := 0, cells := 0, slots := 0, locals := 0 } : Room).slots (s₁.setTop (entryFrame m #[(.ref a)] 12))
  refine Dn.st (fun _ kk => castTop (ef2_rm2L_4 m a) kk) ?_
  show Dn p e below s _ _ _ (s₁.setTop (mkF m 0 #[.val (.ref a), .unset, .unset, .unset, .unset, .unset, .unset, .unset, .unset, .unset, .unset, .unset] []))
  refine Dn.st (fun _ kk => XS.dconst0 X0.here hx rfl (hb hby d2_0) rfl (XS.dstoreN X0.here hx rfl (hb hby d2_1) rfl (l' := #[.val (.ref a), .val (.double FP.dconst0), .second, .unset, .unset, .unset, .unset, .unset, .unset, .unset, .unset, .unset]) rfl (XS.aloadN X0.here hx rfl (hb hby d2_2) rfl rfl (XS.astoreN X0.here hx rfl (hb hby d2_3) rfl rfl (l' := #[.val (.ref a), .val (.double FP.dconst0), .second, .val (.ref a), .unset, .unset, .unset, .unset, .unset, .unset, .unset, .unset]) rfl (XS.aloadN X0.here hx rfl (hb hby d2_4) rfl rfl (kk)))))) ?_
  show Dn p e below s _ _ _ (s₁.setTop (mkF m 5 #[.val (.ref a), .val (.double FP.dconst0), .second, .val (.ref a), .unset, .unset, .unset, .unset, .unset, .unset, .unset, .unset] [(.ref a)]))
  have Vc_a_5 := Va
  obtain ⟨cl_a_5, Ar_a_5, q_a_5, S_a_5, N_a_5, H_a_5, G_a_5⟩ := Vc_a_5
  refine Dn.st (fun _ kk => X0.arraylength hx (by rw [e0]; exact Ar_a_5.1) (State.isArrayOf_alike hZ.alike Ar_a_5.2.1) (g := (mkF m 5 #[.val (.ref a), .val (.double FP.dconst0), .second, .val (.ref a), .unset, .unset, .unset, .unset, .unset, .unset, .unset, .unset] [(.ref a)])) rfl rfl (hb hby d2_5) _ (kk)) ?_
  show Dn p e below s _ _ _ (s₁.setTop (mkF m 6 #[.val (.ref a), .val (.double FP.dconst0), .second, .val (.ref a), .unset, .unset, .unset, .unset, .unset, .unset, .unset, .unset] [(.int cl_a_5.slots.size.toInt32)]))
  rw [len_of S_a_5 N_a_5]
  show Dn p e below s _ _ _ (s₁.setTop (mkF m 6 #[.val (.ref a), .val (.double FP.dconst0), .second, .val (.ref a), .unset, .unset, .unset, .unset, .unset, .unset, .unset, .unset] [(.int (4 : Int32))]))
  refine Dn.st (fun _ kk => XS.istore X0.here hx rfl (hb hby d2_6) rfl (l' := #[.val (.ref a), .val (.double FP.dconst0), .second, .val (.ref a), .val (.int (4 : Int32)), .unset, .unset, .unset, .unset, .unset, .unset, .unset]) rfl (XS.iconst X0.here hx rfl (hb hby d2_8) (XS.istore X0.here hx rfl (hb hby d2_9) rfl (l' := #[.val (.ref a), .val (.double FP.dconst0), .second, .val (.ref a), .val (.int (4 : Int32)), .val (.int (0 : Int32)), .unset, .unset, .unset, .unset, .unset, .unset]) rfl (XS.iload X0.here hx rfl (hb hby d2_11) rfl  (XS.iload X0.here hx rfl (hb hby d2_13) rfl  (kk)))))) ?_
  show Dn p e below s _ _ _ (s₁.setTop (mkF m 15 #[.val (.ref a), .val (.double FP.dconst0), .second, .val (.ref a), .val (.int (4 : Int32)), .val (.int (0 : Int32)), .unset, .unset, .unset, .unset, .unset, .unset] [(.int (4 : Int32)), (.int (0 : Int32))]))
  have hc15 : (0 : Int32) < (4 : Int32) := by decide
  refine Dn.st (fun _ kk => XS.icmpNo X0.here hx rfl (hb hby d2_15) rfl (tlt hc15).2.1 (XS.aloadN X0.here hx rfl (hb hby d2_18) rfl rfl (XS.iload X0.here hx rfl (hb hby d2_19) rfl  (kk)))) ?_
  show Dn p e below s _ _ _ (s₁.setTop (mkF m 21 #[.val (.ref a), .val (.double FP.dconst0), .second, .val (.ref a), .val (.int (4 : Int32)), .val (.int (0 : Int32)), .unset, .unset, .unset, .unset, .unset, .unset] [(.int (0 : Int32)), (.ref a)]))
  have Vc_a_21 := Va
  obtain ⟨cl_a_21, Ar_a_21, q_a_21, S_a_21, N_a_21, H_a_21, G_a_21⟩ := Vc_a_21
  have hin21 : ¬ ((0 : Int32) < 0 ∨ cl_a_21.slots.size ≤ ((0 : Int32)).toNatClampNeg) := inb_of S_a_21 ⟨by decide, by decide⟩
  have hat21 : cl_a_21.slots[((0 : Int32)).toNatClampNeg]? = some (.double zz) := H_a_21.at hin21 rfl
  refine Dn.st (fun _ kk => X0.daload hx (j := (0 : Int32)) (v := (.double zz)) (by rw [e0]; exact Ar_a_21.1) (State.isArrayOf_alike hZ.alike Ar_a_21.2.1) Ar_a_21.2.2 hin21 hat21 (g := (mkF m 21 #[.val (.ref a), .val (.double FP.dconst0), .second, .val (.ref a), .val (.int (4 : Int32)), .val (.int (0 : Int32)), .unset, .unset, .unset, .unset, .unset, .unset] [(.int (0 : Int32)), (.ref a)])) rfl rfl (hb hby d2_21) _ (XS.dstore X0.here hx rfl (hb hby d2_22) rfl (l' := #[.val (.ref a), .val (.double FP.dconst0), .second, .val (.ref a), .val (.int (4 : Int32)), .val (.int (0 : Int32)), .val (.double zz), .second, .unset, .unset, .unset, .unset]) rfl (XS.dloadN X0.here hx rfl (hb hby d2_24) rfl  (XS.dload X0.here hx rfl (hb hby d2_25) rfl  (kk))))) ?_
  show Dn p e below s _ _ _ (s₁.setTop (mkF m 27 #[.val (.ref a), .val (.double FP.dconst0), .second, .val (.ref a), .val (.int (4 : Int32)), .val (.int (0 : Int32)), .val (.double zz), .second, .unset, .unset, .unset, .unset] [(.double zz), (.double FP.dconst0)]))
  have d27 : DS 0 kq (FP.dadd FP.dconst0 zz) := DS.addc dc_0 d_zz (by omega) (by omega) (by decide)
  refine Dn.st (fun _ kk => XS.daddS X0.here hx rfl (hb hby d2_27) rfl d27.nn rfl (kk)) ?_
  show Dn p e below s _ _ _ (s₁.setTop (mkF m 28 #[.val (.ref a), .val (.double FP.dconst0), .second, .val (.ref a), .val (.int (4 : Int32)), .val (.int (0 : Int32)), .val (.double zz), .second, .unset, .unset, .unset, .unset] [(.double (FP.dadd FP.dconst0 zz))]))
  generalize hv27 : ((FP.dadd FP.dconst0 zz) : UInt64) = v27 at d27 ⊢
  show Dn p e below s _ _ _ (s₁.setTop (mkF m 28 #[.val (.ref a), .val (.double FP.dconst0), .second, .val (.ref a), .val (.int (4 : Int32)), .val (.int (0 : Int32)), .val (.double zz), .second, .unset, .unset, .unset, .unset] [(.double v27)]))
  refine Dn.st (fun _ kk => XS.dstoreN X0.here hx rfl (hb hby d2_28) rfl (l' := #[.val (.ref a), .val (.double v27), .second, .val (.ref a), .val (.int (4 : Int32)), .val (.int (0 : Int32)), .val (.double zz), .second, .unset, .unset, .unset, .unset]) rfl (XS.iinc X0.here hx rfl (hb hby d2_29) rfl (l' := #[.val (.ref a), .val (.double v27), .second, .val (.ref a), .val (.int (4 : Int32)), .val (.int (1 : Int32)), .val (.double zz), .second, .unset, .unset, .unset, .unset]) rfl (XS.goto X0.here hx rfl (pc0 := 32) (pc' := 11) rfl (hb hby d2_32) (by decide) (by decide) (XS.iload X0.here hx rfl (hb hby d2_11) rfl  (XS.iload X0.here hx rfl (hb hby d2_13) rfl  (kk)))))) ?_
  show Dn p e below s _ _ _ (s₁.setTop (mkF m 15 #[.val (.ref a), .val (.double v27), .second, .val (.ref a), .val (.int (4 : Int32)), .val (.int (1 : Int32)), .val (.double zz), .second, .unset, .unset, .unset, .unset] [(.int (4 : Int32)), (.int (1 : Int32))]))
  have hc15_2 : (1 : Int32) < (4 : Int32) := by decide
  refine Dn.st (fun _ kk => XS.icmpNo X0.here hx rfl (hb hby d2_15) rfl (tlt hc15_2).2.1 (XS.aloadN X0.here hx rfl (hb hby d2_18) rfl rfl (XS.iload X0.here hx rfl (hb hby d2_19) rfl  (kk)))) ?_
  show Dn p e below s _ _ _ (s₁.setTop (mkF m 21 #[.val (.ref a), .val (.double v27), .second, .val (.ref a), .val (.int (4 : Int32)), .val (.int (1 : Int32)), .val (.double zz), .second, .unset, .unset, .unset, .unset] [(.int (1 : Int32)), (.ref a)]))
  have Vc_a_21_2 := Va
  obtain ⟨cl_a_21_2, Ar_a_21_2, q_a_21_2, S_a_21_2, N_a_21_2, H_a_21_2, G_a_21_2⟩ := Vc_a_21_2
  have hin21_2 : ¬ ((1 : Int32) < 0 ∨ cl_a_21_2.slots.size ≤ ((1 : Int32)).toNatClampNeg) := inb_of S_a_21_2 ⟨by decide, by decide⟩
  have hat21_2 : cl_a_21_2.slots[((1 : Int32)).toNatClampNeg]? = some (.double zz) := H_a_21_2.at hin21_2 rfl
  refine Dn.st (fun _ kk => X0.daload hx (j := (1 : Int32)) (v := (.double zz)) (by rw [e0]; exact Ar_a_21_2.1) (State.isArrayOf_alike hZ.alike Ar_a_21_2.2.1) Ar_a_21_2.2.2 hin21_2 hat21_2 (g := (mkF m 21 #[.val (.ref a), .val (.double v27), .second, .val (.ref a), .val (.int (4 : Int32)), .val (.int (1 : Int32)), .val (.double zz), .second, .unset, .unset, .unset, .unset] [(.int (1 : Int32)), (.ref a)])) rfl rfl (hb hby d2_21) _ (XS.dstore X0.here hx rfl (hb hby d2_22) rfl (l' := #[.val (.ref a), .val (.double v27), .second, .val (.ref a), .val (.int (4 : Int32)), .val (.int (1 : Int32)), .val (.double zz), .second, .unset, .unset, .unset, .unset]) rfl (XS.dloadN X0.here hx rfl (hb hby d2_24) rfl  (XS.dload X0.here hx rfl (hb hby d2_25) rfl  (kk))))) ?_
  show Dn p e below s _ _ _ (s₁.setTop (mkF m 27 #[.val (.ref a), .val (.double v27), .second, .val (.ref a), .val (.int (4 : Int32)), .val (.int (1 : Int32)), .val (.double zz), .second, .unset, .unset, .unset, .unset] [(.double zz), (.double v27)]))
  have g27_2 : DI 0 (2 * kq) (2 * kq) (FP.dadd v27 zz) := DI.addR (d27.di (by decide)) (d_zz.di (by decide)) (by omega) (by omega) (rep_two (rep_of (by decide) (by omega)) (by omega)) (rep_two (rep_of (by decide) (by omega)) (by omega))
  refine Dn.st (fun _ kk => XS.daddS X0.here hx rfl (hb hby d2_27) rfl g27_2.nn rfl (kk)) ?_
  show Dn p e below s _ _ _ (s₁.setTop (mkF m 28 #[.val (.ref a), .val (.double v27), .second, .val (.ref a), .val (.int (4 : Int32)), .val (.int (1 : Int32)), .val (.double zz), .second, .unset, .unset, .unset, .unset] [(.double (FP.dadd v27 zz))]))
  generalize hv27_2 : ((FP.dadd v27 zz) : UInt64) = v27_2
  rw [hv27_2] at g27_2
  show Dn p e below s _ _ _ (s₁.setTop (mkF m 28 #[.val (.ref a), .val (.double v27), .second, .val (.ref a), .val (.int (4 : Int32)), .val (.int (1 : Int32)), .val (.double zz), .second, .unset, .unset, .unset, .unset] [(.double v27_2)]))
  refine Dn.st (fun _ kk => XS.dstoreN X0.here hx rfl (hb hby d2_28) rfl (l' := #[.val (.ref a), .val (.double v27_2), .second, .val (.ref a), .val (.int (4 : Int32)), .val (.int (1 : Int32)), .val (.double zz), .second, .unset, .unset, .unset, .unset]) rfl (XS.iinc X0.here hx rfl (hb hby d2_29) rfl (l' := #[.val (.ref a), .val (.double v27_2), .second, .val (.ref a), .val (.int (4 : Int32)), .val (.int (2 : Int32)), .val (.double zz), .second, .unset, .unset, .unset, .unset]) rfl (XS.goto X0.here hx rfl (pc0 := 32) (pc' := 11) rfl (hb hby d2_32) (by decide) (by decide) (XS.iload X0.here hx rfl (hb hby d2_11) rfl  (XS.iload X0.here hx rfl (hb hby d2_13) rfl  (kk)))))) ?_
  show Dn p e below s _ _ _ (s₁.setTop (mkF m 15 #[.val (.ref a), .val (.double v27_2), .second, .val (.ref a), .val (.int (4 : Int32)), .val (.int (2 : Int32)), .val (.double zz), .second, .unset, .unset, .unset, .unset] [(.int (4 : Int32)), (.int (2 : Int32))]))
  have hc15_3 : (2 : Int32) < (4 : Int32) := by decide
  refine Dn.st (fun _ kk => XS.icmpNo X0.here hx rfl (hb hby d2_15) rfl (tlt hc15_3).2.1 (XS.aloadN X0.here hx rfl (hb hby d2_18) rfl rfl (XS.iload X0.here hx rfl (hb hby d2_19) rfl  (kk)))) ?_
  show Dn p e below s _ _ _ (s₁.setTop (mkF m 21 #[.val (.ref a), .val (.double v27_2), .second, .val (.ref a), .val (.int (4 : Int32)), .val (.int (2 : Int32)), .val (.double zz), .second, .unset, .unset, .unset, .unset] [(.int (2 : Int32)), (.ref a)]))
  have Vc_a_21_3 := Va
  obtain ⟨cl_a_21_3, Ar_a_21_3, q_a_21_3, S_a_21_3, N_a_21_3, H_a_21_3, G_a_21_3⟩ := Vc_a_21_3
  have hin21_3 : ¬ ((2 : Int32) < 0 ∨ cl_a_21_3.slots.size ≤ ((2 : Int32)).toNatClampNeg) := inb_of S_a_21_3 ⟨by decide, by decide⟩
  have hat21_3 : cl_a_21_3.slots[((2 : Int32)).toNatClampNeg]? = some (.double zz) := H_a_21_3.at hin21_3 rfl
  refine Dn.st (fun _ kk => X0.daload hx (j := (2 : Int32)) (v := (.double zz)) (by rw [e0]; exact Ar_a_21_3.1) (State.isArrayOf_alike hZ.alike Ar_a_21_3.2.1) Ar_a_21_3.2.2 hin21_3 hat21_3 (g := (mkF m 21 #[.val (.ref a), .val (.double v27_2), .second, .val (.ref a), .val (.int (4 : Int32)), .val (.int (2 : Int32)), .val (.double zz), .second, .unset, .unset, .unset, .unset] [(.int (2 : Int32)), (.ref a)])) rfl rfl (hb hby d2_21) _ (XS.dstore X0.here hx rfl (hb hby d2_22) rfl (l' := #[.val (.ref a), .val (.double v27_2), .second, .val (.ref a), .val (.int (4 : Int32)), .val (.int (2 : Int32)), .val (.double zz), .second, .unset, .unset, .unset, .unset]) rfl (XS.dloadN X0.here hx rfl (hb hby d2_24) rfl  (XS.dload X0.here hx rfl (hb hby d2_25) rfl  (kk))))) ?_
  show Dn p e below s _ _ _ (s₁.setTop (mkF m 27 #[.val (.ref a), .val (.double v27_2), .second, .val (.ref a), .val (.int (4 : Int32)), .val (.int (2 : Int32)), .val (.double zz), .second, .unset, .unset, .unset, .unset] [(.double zz), (.double v27_2)]))
  have g27_3 : DI 0 (2 * (2 * (3 * kq / 4))) (2 * (2 * ((3 * kq + 3) / 4))) (FP.dadd v27_2 zz) := DI.addR g27_2 (d_zz.di (by decide)) (by omega) (by omega) (own_rep4 (by omega)) (own_rep4 (by omega))
  refine Dn.st (fun _ kk => XS.daddS X0.here hx rfl (hb hby d2_27) rfl g27_3.nn rfl (kk)) ?_
  show Dn p e below s _ _ _ (s₁.setTop (mkF m 28 #[.val (.ref a), .val (.double v27_2), .second, .val (.ref a), .val (.int (4 : Int32)), .val (.int (2 : Int32)), .val (.double zz), .second, .unset, .unset, .unset, .unset] [(.double (FP.dadd v27_2 zz))]))
  generalize hv27_3 : ((FP.dadd v27_2 zz) : UInt64) = v27_3
  rw [hv27_3] at g27_3
  show Dn p e below s _ _ _ (s₁.setTop (mkF m 28 #[.val (.ref a), .val (.double v27_2), .second, .val (.ref a), .val (.int (4 : Int32)), .val (.int (2 : Int32)), .val (.double zz), .second, .unset, .unset, .unset, .unset] [(.double v27_3)]))
  refine Dn.st (fun _ kk => XS.dstoreN X0.here hx rfl (hb hby d2_28) rfl (l' := #[.val (.ref a), .val (.double v27_3), .second, .val (.ref a), .val (.int (4 : Int32)), .val (.int (2 : Int32)), .val (.double zz), .second, .unset, .unset, .unset, .unset]) rfl (XS.iinc X0.here hx rfl (hb hby d2_29) rfl (l' := #[.val (.ref a), .val (.double v27_3), .second, .val (.ref a), .val (.int (4 : Int32)), .val (.int (3 : Int32)), .val (.double zz), .second, .unset, .unset, .unset, .unset]) rfl (XS.goto X0.here hx rfl (pc0 := 32) (pc' := 11) rfl (hb hby d2_32) (by decide) (by decide) (XS.iload X0.here hx rfl (hb hby d2_11) rfl  (XS.iload X0.here hx rfl (hb hby d2_13) rfl  (kk)))))) ?_
  show Dn p e below s _ _ _ (s₁.setTop (mkF m 15 #[.val (.ref a), .val (.double v27_3), .second, .val (.ref a), .val (.int (4 : Int32)), .val (.int (3 : Int32)), .val (.double zz), .second, .unset, .unset, .unset, .unset] [(.int (4 : Int32)), (.int (3 : Int32))]))
  have hc15_4 : (3 : Int32) < (4 : Int32) := by decide
  refine Dn.st (fun _ kk => XS.icmpNo X0.here hx rfl (hb hby d2_15) rfl (tlt hc15_4).2.1 (XS.aloadN X0.here hx rfl (hb hby d2_18) rfl rfl (XS.iload X0.here hx rfl (hb hby d2_19) rfl  (kk)))) ?_
  show Dn p e below s _ _ _ (s₁.setTop (mkF m 21 #[.val (.ref a), .val (.double v27_3), .second, .val (.ref a), .val (.int (4 : Int32)), .val (.int (3 : Int32)), .val (.double zz), .second, .unset, .unset, .unset, .unset] [(.int (3 : Int32)), (.ref a)]))
  have Vc_a_21_4 := Va
  obtain ⟨cl_a_21_4, Ar_a_21_4, q_a_21_4, S_a_21_4, N_a_21_4, H_a_21_4, G_a_21_4⟩ := Vc_a_21_4
  have hin21_4 : ¬ ((3 : Int32) < 0 ∨ cl_a_21_4.slots.size ≤ ((3 : Int32)).toNatClampNeg) := inb_of S_a_21_4 ⟨by decide, by decide⟩
  have hat21_4 : cl_a_21_4.slots[((3 : Int32)).toNatClampNeg]? = some (.double zz) := H_a_21_4.at hin21_4 rfl
  refine Dn.st (fun _ kk => X0.daload hx (j := (3 : Int32)) (v := (.double zz)) (by rw [e0]; exact Ar_a_21_4.1) (State.isArrayOf_alike hZ.alike Ar_a_21_4.2.1) Ar_a_21_4.2.2 hin21_4 hat21_4 (g := (mkF m 21 #[.val (.ref a), .val (.double v27_3), .second, .val (.ref a), .val (.int (4 : Int32)), .val (.int (3 : Int32)), .val (.double zz), .second, .unset, .unset, .unset, .unset] [(.int (3 : Int32)), (.ref a)])) rfl rfl (hb hby d2_21) _ (XS.dstore X0.here hx rfl (hb hby d2_22) rfl (l' := #[.val (.ref a), .val (.double v27_3), .second, .val (.ref a), .val (.int (4 : Int32)), .val (.int (3 : Int32)), .val (.double zz), .second, .unset, .unset, .unset, .unset]) rfl (XS.dloadN X0.here hx rfl (hb hby d2_24) rfl  (XS.dload X0.here hx rfl (hb hby d2_25) rfl  (kk))))) ?_
  show Dn p e below s _ _ _ (s₁.setTop (mkF m 27 #[.val (.ref a), .val (.double v27_3), .second, .val (.ref a), .val (.int (4 : Int32)), .val (.int (3 : Int32)), .val (.double zz), .second, .unset, .unset, .unset, .unset] [(.double zz), (.double v27_3)]))
  have g27_4 : DI 0 (2 * (2 * (kq - 1))) (2 * (2 * (kq + 1))) (FP.dadd v27_3 zz) := DI.addR g27_3 (d_zz.di (by decide)) (by omega) (by omega) (own_rep4 (by omega)) (own_rep4 (by omega))
  refine Dn.st (fun _ kk => XS.daddS X0.here hx rfl (hb hby d2_27) rfl g27_4.nn rfl (kk)) ?_
  show Dn p e below s _ _ _ (s₁.setTop (mkF m 28 #[.val (.ref a), .val (.double v27_3), .second, .val (.ref a), .val (.int (4 : Int32)), .val (.int (3 : Int32)), .val (.double zz), .second, .unset, .unset, .unset, .unset] [(.double (FP.dadd v27_3 zz))]))
  generalize hv27_4 : ((FP.dadd v27_3 zz) : UInt64) = v27_4
  rw [hv27_4] at g27_4
  show Dn p e below s _ _ _ (s₁.setTop (mkF m 28 #[.val (.ref a), .val (.double v27_3), .second, .val (.ref a), .val (.int (4 : Int32)), .val (.int (3 : Int32)), .val (.double zz), .second, .unset, .unset, .unset, .unset] [(.double v27_4)]))
  refine Dn.st (fun _ kk => XS.dstoreN X0.here hx rfl (hb hby d2_28) rfl (l' := #[.val (.ref a), .val (.double v27_4), .second, .val (.ref a), .val (.int (4 : Int32)), .val (.int (3 : Int32)), .val (.double zz), .second, .unset, .unset, .unset, .unset]) rfl (XS.iinc X0.here hx rfl (hb hby d2_29) rfl (l' := #[.val (.ref a), .val (.double v27_4), .second, .val (.ref a), .val (.int (4 : Int32)), .val (.int (4 : Int32)), .val (.double zz), .second, .unset, .unset, .unset, .unset]) rfl (XS.goto X0.here hx rfl (pc0 := 32) (pc' := 11) rfl (hb hby d2_32) (by decide) (by decide) (XS.iload X0.here hx rfl (hb hby d2_11) rfl  (XS.iload X0.here hx rfl (hb hby d2_13) rfl  (kk)))))) ?_
  show Dn p e below s _ _ _ (s₁.setTop (mkF m 15 #[.val (.ref a), .val (.double v27_4), .second, .val (.ref a), .val (.int (4 : Int32)), .val (.int (4 : Int32)), .val (.double zz), .second, .unset, .unset, .unset, .unset] [(.int (4 : Int32)), (.int (4 : Int32))]))
  have hc15_5 : ¬ ((4 : Int32) < (4 : Int32)) := by decide
  refine Dn.st (fun _ kk => XS.icmpYes X0.here hx rfl (pc0 := 15) (pc' := 35) rfl (hb hby d2_15) rfl (flt hc15_5).2.1 (by decide) (by decide) (XS.dloadN X0.here hx rfl (hb hby d2_35) rfl  (XS.aloadN X0.here hx rfl (hb hby d2_36) rfl rfl (kk)))) ?_
  show Dn p e below s _ _ _ (s₁.setTop (mkF m 37 #[.val (.ref a), .val (.double v27_4), .second, .val (.ref a), .val (.int (4 : Int32)), .val (.int (4 : Int32)), .val (.double zz), .second, .unset, .unset, .unset, .unset] [(.ref a), (.double v27_4)]))
  have Vc_a_37 := Va
  obtain ⟨cl_a_37, Ar_a_37, q_a_37, S_a_37, N_a_37, H_a_37, G_a_37⟩ := Vc_a_37
  refine Dn.st (fun _ kk => X0.arraylength hx (by rw [e0]; exact Ar_a_37.1) (State.isArrayOf_alike hZ.alike Ar_a_37.2.1) (g := (mkF m 37 #[.val (.ref a), .val (.double v27_4), .second, .val (.ref a), .val (.int (4 : Int32)), .val (.int (4 : Int32)), .val (.double zz), .second, .unset, .unset, .unset, .unset] [(.ref a), (.double v27_4)])) rfl rfl (hb hby d2_37) _ (kk)) ?_
  show Dn p e below s _ _ _ (s₁.setTop (mkF m 38 #[.val (.ref a), .val (.double v27_4), .second, .val (.ref a), .val (.int (4 : Int32)), .val (.int (4 : Int32)), .val (.double zz), .second, .unset, .unset, .unset, .unset] [(.int cl_a_37.slots.size.toInt32), (.double v27_4)]))
  rw [len_of S_a_37 N_a_37]
  show Dn p e below s _ _ _ (s₁.setTop (mkF m 38 #[.val (.ref a), .val (.double v27_4), .second, .val (.ref a), .val (.int (4 : Int32)), .val (.int (4 : Int32)), .val (.double zz), .second, .unset, .unset, .unset, .unset] [(.int (4 : Int32)), (.double v27_4)]))
  have d38 := DS.i2d (4 : Int32)
  refine Dn.st (fun _ kk => XS.i2dS X0.here hx rfl (hb hby d2_38) rfl rfl (kk)) ?_
  show Dn p e below s _ _ _ (s₁.setTop (mkF m 39 #[.val (.ref a), .val (.double v27_4), .second, .val (.ref a), .val (.int (4 : Int32)), .val (.int (4 : Int32)), .val (.double zz), .second, .unset, .unset, .unset, .unset] [(.double (FP.i2d (4 : Int32))), (.double v27_4)]))
  generalize hv38 : ((FP.i2d (4 : Int32)) : UInt64) = v38 at d38 ⊢
  show Dn p e below s _ _ _ (s₁.setTop (mkF m 39 #[.val (.ref a), .val (.double v27_4), .second, .val (.ref a), .val (.int (4 : Int32)), .val (.int (4 : Int32)), .val (.double zz), .second, .unset, .unset, .unset, .unset] [(.double v38), (.double v27_4)]))
  have g39 : DI 0 (kq - 1) (kq + 1) (FP.ddiv v27_4 v38) := DI.div g27_4 (DS.cast (i' := 4) d38 rfl (by decide)) (by decide) (by omega) (by omega) (rep_of (by decide) (by omega)) (rep_of (by decide) (by omega))
  refine Dn.st (fun _ kk => XS.ddivS X0.here hx rfl (hb hby d2_39) rfl g39.nn rfl (kk)) ?_
  show Dn p e below s _ _ _ (s₁.setTop (mkF m 40 #[.val (.ref a), .val (.double v27_4), .second, .val (.ref a), .val (.int (4 : Int32)), .val (.int (4 : Int32)), .val (.double zz), .second, .unset, .unset, .unset, .unset] [(.double (FP.ddiv v27_4 v38))]))
  generalize hv39 : ((FP.ddiv v27_4 v38) : UInt64) = v39
  rw [hv39] at g39
  obtain ⟨ih, d39, hh1, hh2⟩ := di_half g39 (by omega)
  show Dn p e below s _ _ _ (s₁.setTop (mkF m 40 #[.val (.ref a), .val (.double v27_4), .second, .val (.ref a), .val (.int (4 : Int32)), .val (.int (4 : Int32)), .val (.double zz), .second, .unset, .unset, .unset, .unset] [(.double v39)]))
  refine Dn.st (fun _ kk => XS.dstoreN X0.here hx rfl (hb hby d2_40) rfl (l' := #[.val (.ref a), .val (.double v27_4), .second, .val (.double v39), .second, .val (.int (4 : Int32)), .val (.double zz), .second, .unset, .unset, .unset, .unset]) rfl (XS.dconst0 X0.here hx rfl (hb hby d2_41) rfl (XS.dstore X0.here hx rfl (hb hby d2_42) rfl (l' := #[.val (.ref a), .val (.double v27_4), .second, .val (.double v39), .second, .val (.double FP.dconst0), .second, .unset, .unset, .unset, .unset, .unset]) rfl (XS.aloadN X0.here hx rfl (hb hby d2_44) rfl rfl (XS.astore X0.here hx rfl (hb hby d2_45) rfl rfl (l' := #[.val (.ref a), .val (.double v27_4), .second, .val (.double v39), .second, .val (.double FP.dconst0), .second, .val (.ref a), .unset, .unset, .unset, .unset]) rfl (XS.aload X0.here hx rfl (hb hby d2_47) rfl rfl (kk))))))) ?_
  show Dn p e below s _ _ _ (s₁.setTop (mkF m 49 #[.val (.ref a), .val (.double v27_4), .second, .val (.double v39), .second, .val (.double FP.dconst0), .second, .val (.ref a), .unset, .unset, .unset, .unset] [(.ref a)]))
  have Vc_a_49 := Va
  obtain ⟨cl_a_49, Ar_a_49, q_a_49, S_a_49, N_a_49, H_a_49, G_a_49⟩ := Vc_a_49
  refine Dn.st (fun _ kk => X0.arraylength hx (by rw [e0]; exact Ar_a_49.1) (State.isArrayOf_alike hZ.alike Ar_a_49.2.1) (g := (mkF m 49 #[.val (.ref a), .val (.double v27_4), .second, .val (.double v39), .second, .val (.double FP.dconst0), .second, .val (.ref a), .unset, .unset, .unset, .unset] [(.ref a)])) rfl rfl (hb hby d2_49) _ (kk)) ?_
  show Dn p e below s _ _ _ (s₁.setTop (mkF m 50 #[.val (.ref a), .val (.double v27_4), .second, .val (.double v39), .second, .val (.double FP.dconst0), .second, .val (.ref a), .unset, .unset, .unset, .unset] [(.int cl_a_49.slots.size.toInt32)]))
  rw [len_of S_a_49 N_a_49]
  show Dn p e below s _ _ _ (s₁.setTop (mkF m 50 #[.val (.ref a), .val (.double v27_4), .second, .val (.double v39), .second, .val (.double FP.dconst0), .second, .val (.ref a), .unset, .unset, .unset, .unset] [(.int (4 : Int32))]))
  refine Dn.st (fun _ kk => XS.istore X0.here hx rfl (hb hby d2_50) rfl (l' := #[.val (.ref a), .val (.double v27_4), .second, .val (.double v39), .second, .val (.double FP.dconst0), .second, .val (.ref a), .val (.int (4 : Int32)), .unset, .unset, .unset]) rfl (XS.iconst X0.here hx rfl (hb hby d2_52) (XS.istore X0.here hx rfl (hb hby d2_53) rfl (l' := #[.val (.ref a), .val (.double v27_4), .second, .val (.double v39), .second, .val (.double FP.dconst0), .second, .val (.ref a), .val (.int (4 : Int32)), .val (.int (0 : Int32)), .unset, .unset]) rfl (XS.iload X0.here hx rfl (hb hby d2_55) rfl  (XS.iload X0.here hx rfl (hb hby d2_57) rfl  (kk)))))) ?_
  show Dn p e below s _ _ _ (s₁.setTop (mkF m 59 #[.val (.ref a), .val (.double v27_4), .second, .val (.double v39), .second, .val (.double FP.dconst0), .second, .val (.ref a), .val (.int (4 : Int32)), .val (.int (0 : Int32)), .unset, .unset] [(.int (4 : Int32)), (.int (0 : Int32))]))
  have hc59 : (0 : Int32) < (4 : Int32) := by decide
  refine Dn.st (fun _ kk => XS.icmpNo X0.here hx rfl (hb hby d2_59) rfl (tlt hc59).2.1 (XS.aload X0.here hx rfl (hb hby d2_62) rfl rfl (XS.iload X0.here hx rfl (hb hby d2_64) rfl  (kk)))) ?_
  show Dn p e below s _ _ _ (s₁.setTop (mkF m 66 #[.val (.ref a), .val (.double v27_4), .second, .val (.double v39), .second, .val (.double FP.dconst0), .second, .val (.ref a), .val (.int (4 : Int32)), .val (.int (0 : Int32)), .unset, .unset] [(.int (0 : Int32)), (.ref a)]))
  have Vc_a_66 := Va
  obtain ⟨cl_a_66, Ar_a_66, q_a_66, S_a_66, N_a_66, H_a_66, G_a_66⟩ := Vc_a_66
  have hin66 : ¬ ((0 : Int32) < 0 ∨ cl_a_66.slots.size ≤ ((0 : Int32)).toNatClampNeg) := inb_of S_a_66 ⟨by decide, by decide⟩
  have hat66 : cl_a_66.slots[((0 : Int32)).toNatClampNeg]? = some (.double zz) := H_a_66.at hin66 rfl
  refine Dn.st (fun _ kk => X0.daload hx (j := (0 : Int32)) (v := (.double zz)) (by rw [e0]; exact Ar_a_66.1) (State.isArrayOf_alike hZ.alike Ar_a_66.2.1) Ar_a_66.2.2 hin66 hat66 (g := (mkF m 66 #[.val (.ref a), .val (.double v27_4), .second, .val (.double v39), .second, .val (.double FP.dconst0), .second, .val (.ref a), .val (.int (4 : Int32)), .val (.int (0 : Int32)), .unset, .unset] [(.int (0 : Int32)), (.ref a)])) rfl rfl (hb hby d2_66) _ (XS.dstore X0.here hx rfl (hb hby d2_67) rfl (l' := #[.val (.ref a), .val (.double v27_4), .second, .val (.double v39), .second, .val (.double FP.dconst0), .second, .val (.ref a), .val (.int (4 : Int32)), .val (.int (0 : Int32)), .val (.double zz), .second]) rfl (XS.dload X0.here hx rfl (hb hby d2_69) rfl  (XS.dload X0.here hx rfl (hb hby d2_71) rfl  (XS.dloadN X0.here hx rfl (hb hby d2_73) rfl  (kk)))))) ?_
  show Dn p e below s _ _ _ (s₁.setTop (mkF m 74 #[.val (.ref a), .val (.double v27_4), .second, .val (.double v39), .second, .val (.double FP.dconst0), .second, .val (.ref a), .val (.int (4 : Int32)), .val (.int (0 : Int32)), .val (.double zz), .second] [(.double v39), (.double zz), (.double FP.dconst0)]))
  have d74 : DS 1 (kq * 2 - ih) (FP.dsub zz v39) := DS.sub (k := 1) (d_zz.up 1) d39 (by show (kq * 2 - ih).natAbs ≤ _; omega) (by decide)
  refine Dn.st (fun _ kk => XS.dsubS X0.here hx rfl (hb hby d2_74) rfl d74.nn rfl (kk)) ?_
  show Dn p e below s _ _ _ (s₁.setTop (mkF m 75 #[.val (.ref a), .val (.double v27_4), .second, .val (.double v39), .second, .val (.double FP.dconst0), .second, .val (.ref a), .val (.int (4 : Int32)), .val (.int (0 : Int32)), .val (.double zz), .second] [(.double (FP.dsub zz v39)), (.double FP.dconst0)]))
  generalize hv74 : ((FP.dsub zz v39) : UInt64) = v74 at d74 ⊢
  show Dn p e below s _ _ _ (s₁.setTop (mkF m 75 #[.val (.ref a), .val (.double v27_4), .second, .val (.double v39), .second, .val (.double FP.dconst0), .second, .val (.ref a), .val (.int (4 : Int32)), .val (.int (0 : Int32)), .val (.double zz), .second] [(.double v74), (.double FP.dconst0)]))
  have d75 : DS 1 ((kq * 2 - ih) * 1) (FP.dadd FP.dconst0 v74) := DS.addc (k := 1) (DS.zero 1) d74 (by omega) (by omega) (by decide)
  refine Dn.st (fun _ kk => XS.daddS X0.here hx rfl (hb hby d2_75) rfl d75.nn rfl (kk)) ?_
  show Dn p e below s _ _ _ (s₁.setTop (mkF m 76 #[.val (.ref a), .val (.double v27_4), .second, .val (.double v39), .second, .val (.double FP.dconst0), .second, .val (.ref a), .val (.int (4 : Int32)), .val (.int (0 : Int32)), .val (.double zz), .second] [(.double (FP.dadd FP.dconst0 v74))]))
  generalize hv75 : ((FP.dadd FP.dconst0 v74) : UInt64) = v75 at d75 ⊢
  show Dn p e below s _ _ _ (s₁.setTop (mkF m 76 #[.val (.ref a), .val (.double v27_4), .second, .val (.double v39), .second, .val (.double FP.dconst0), .second, .val (.ref a), .val (.int (4 : Int32)), .val (.int (0 : Int32)), .val (.double zz), .second] [(.double v75)]))
  refine Dn.st (fun _ kk => XS.dstore X0.here hx rfl (hb hby d2_76) rfl (l' := #[.val (.ref a), .val (.double v27_4), .second, .val (.double v39), .second, .val (.double v75), .second, .val (.ref a), .val (.int (4 : Int32)), .val (.int (0 : Int32)), .val (.double zz), .second]) rfl (XS.iinc X0.here hx rfl (hb hby d2_78) rfl (l' := #[.val (.ref a), .val (.double v27_4), .second, .val (.double v39), .second, .val (.double v75), .second, .val (.ref a), .val (.int (4 : Int32)), .val (.int (1 : Int32)), .val (.double zz), .second]) rfl (XS.goto X0.here hx rfl (pc0 := 81) (pc' := 55) rfl (hb hby d2_81) (by decide) (by decide) (XS.iload X0.here hx rfl (hb hby d2_55) rfl  (XS.iload X0.here hx rfl (hb hby d2_57) rfl  (kk)))))) ?_
  show Dn p e below s _ _ _ (s₁.setTop (mkF m 59 #[.val (.ref a), .val (.double v27_4), .second, .val (.double v39), .second, .val (.double v75), .second, .val (.ref a), .val (.int (4 : Int32)), .val (.int (1 : Int32)), .val (.double zz), .second] [(.int (4 : Int32)), (.int (1 : Int32))]))
  have hc59_2 : (1 : Int32) < (4 : Int32) := by decide
  refine Dn.st (fun _ kk => XS.icmpNo X0.here hx rfl (hb hby d2_59) rfl (tlt hc59_2).2.1 (XS.aload X0.here hx rfl (hb hby d2_62) rfl rfl (XS.iload X0.here hx rfl (hb hby d2_64) rfl  (kk)))) ?_
  show Dn p e below s _ _ _ (s₁.setTop (mkF m 66 #[.val (.ref a), .val (.double v27_4), .second, .val (.double v39), .second, .val (.double v75), .second, .val (.ref a), .val (.int (4 : Int32)), .val (.int (1 : Int32)), .val (.double zz), .second] [(.int (1 : Int32)), (.ref a)]))
  have Vc_a_66_2 := Va
  obtain ⟨cl_a_66_2, Ar_a_66_2, q_a_66_2, S_a_66_2, N_a_66_2, H_a_66_2, G_a_66_2⟩ := Vc_a_66_2
  have hin66_2 : ¬ ((1 : Int32) < 0 ∨ cl_a_66_2.slots.size ≤ ((1 : Int32)).toNatClampNeg) := inb_of S_a_66_2 ⟨by decide, by decide⟩
  have hat66_2 : cl_a_66_2.slots[((1 : Int32)).toNatClampNeg]? = some (.double zz) := H_a_66_2.at hin66_2 rfl
  refine Dn.st (fun _ kk => X0.daload hx (j := (1 : Int32)) (v := (.double zz)) (by rw [e0]; exact Ar_a_66_2.1) (State.isArrayOf_alike hZ.alike Ar_a_66_2.2.1) Ar_a_66_2.2.2 hin66_2 hat66_2 (g := (mkF m 66 #[.val (.ref a), .val (.double v27_4), .second, .val (.double v39), .second, .val (.double v75), .second, .val (.ref a), .val (.int (4 : Int32)), .val (.int (1 : Int32)), .val (.double zz), .second] [(.int (1 : Int32)), (.ref a)])) rfl rfl (hb hby d2_66) _ (XS.dstore X0.here hx rfl (hb hby d2_67) rfl (l' := #[.val (.ref a), .val (.double v27_4), .second, .val (.double v39), .second, .val (.double v75), .second, .val (.ref a), .val (.int (4 : Int32)), .val (.int (1 : Int32)), .val (.double zz), .second]) rfl (XS.dload X0.here hx rfl (hb hby d2_69) rfl  (XS.dload X0.here hx rfl (hb hby d2_71) rfl  (XS.dloadN X0.here hx rfl (hb hby d2_73) rfl  (kk)))))) ?_
  show Dn p e below s _ _ _ (s₁.setTop (mkF m 74 #[.val (.ref a), .val (.double v27_4), .second, .val (.double v39), .second, .val (.double v75), .second, .val (.ref a), .val (.int (4 : Int32)), .val (.int (1 : Int32)), .val (.double zz), .second] [(.double v39), (.double zz), (.double v75)]))
  have d74_2 : DS 1 (kq * 2 - ih) (FP.dsub zz v39) := DS.sub (k := 1) (d_zz.up 1) d39 (by show (kq * 2 - ih).natAbs ≤ _; omega) (by decide)
  refine Dn.st (fun _ kk => XS.dsubS X0.here hx rfl (hb hby d2_74) rfl d74_2.nn rfl (kk)) ?_
  show Dn p e below s _ _ _ (s₁.setTop (mkF m 75 #[.val (.ref a), .val (.double v27_4), .second, .val (.double v39), .second, .val (.double v75), .second, .val (.ref a), .val (.int (4 : Int32)), .val (.int (1 : Int32)), .val (.double zz), .second] [(.double (FP.dsub zz v39)), (.double v75)]))
  generalize hv74_2 : ((FP.dsub zz v39) : UInt64) = v74_2 at d74_2 ⊢
  show Dn p e below s _ _ _ (s₁.setTop (mkF m 75 #[.val (.ref a), .val (.double v27_4), .second, .val (.double v39), .second, .val (.double v75), .second, .val (.ref a), .val (.int (4 : Int32)), .val (.int (1 : Int32)), .val (.double zz), .second] [(.double v74_2), (.double v75)]))
  have d75_2 : DS 1 ((kq * 2 - ih) * 2) (FP.dadd v75 v74_2) := DS.addc (k := 1) d75 d74_2 (by omega) (by omega) (by decide)
  refine Dn.st (fun _ kk => XS.daddS X0.here hx rfl (hb hby d2_75) rfl d75_2.nn rfl (kk)) ?_
  show Dn p e below s _ _ _ (s₁.setTop (mkF m 76 #[.val (.ref a), .val (.double v27_4), .second, .val (.double v39), .second, .val (.double v75), .second, .val (.ref a), .val (.int (4 : Int32)), .val (.int (1 : Int32)), .val (.double zz), .second] [(.double (FP.dadd v75 v74_2))]))
  generalize hv75_2 : ((FP.dadd v75 v74_2) : UInt64) = v75_2 at d75_2 ⊢
  show Dn p e below s _ _ _ (s₁.setTop (mkF m 76 #[.val (.ref a), .val (.double v27_4), .second, .val (.double v39), .second, .val (.double v75), .second, .val (.ref a), .val (.int (4 : Int32)), .val (.int (1 : Int32)), .val (.double zz), .second] [(.double v75_2)]))
  refine Dn.st (fun _ kk => XS.dstore X0.here hx rfl (hb hby d2_76) rfl (l' := #[.val (.ref a), .val (.double v27_4), .second, .val (.double v39), .second, .val (.double v75_2), .second, .val (.ref a), .val (.int (4 : Int32)), .val (.int (1 : Int32)), .val (.double zz), .second]) rfl (XS.iinc X0.here hx rfl (hb hby d2_78) rfl (l' := #[.val (.ref a), .val (.double v27_4), .second, .val (.double v39), .second, .val (.double v75_2), .second, .val (.ref a), .val (.int (4 : Int32)), .val (.int (2 : Int32)), .val (.double zz), .second]) rfl (XS.goto X0.here hx rfl (pc0 := 81) (pc' := 55) rfl (hb hby d2_81) (by decide) (by decide) (XS.iload X0.here hx rfl (hb hby d2_55) rfl  (XS.iload X0.here hx rfl (hb hby d2_57) rfl  (kk)))))) ?_
  show Dn p e below s _ _ _ (s₁.setTop (mkF m 59 #[.val (.ref a), .val (.double v27_4), .second, .val (.double v39), .second, .val (.double v75_2), .second, .val (.ref a), .val (.int (4 : Int32)), .val (.int (2 : Int32)), .val (.double zz), .second] [(.int (4 : Int32)), (.int (2 : Int32))]))
  have hc59_3 : (2 : Int32) < (4 : Int32) := by decide
  refine Dn.st (fun _ kk => XS.icmpNo X0.here hx rfl (hb hby d2_59) rfl (tlt hc59_3).2.1 (XS.aload X0.here hx rfl (hb hby d2_62) rfl rfl (XS.iload X0.here hx rfl (hb hby d2_64) rfl  (kk)))) ?_
  show Dn p e below s _ _ _ (s₁.setTop (mkF m 66 #[.val (.ref a), .val (.double v27_4), .second, .val (.double v39), .second, .val (.double v75_2), .second, .val (.ref a), .val (.int (4 : Int32)), .val (.int (2 : Int32)), .val (.double zz), .second] [(.int (2 : Int32)), (.ref a)]))
  have Vc_a_66_3 := Va
  obtain ⟨cl_a_66_3, Ar_a_66_3, q_a_66_3, S_a_66_3, N_a_66_3, H_a_66_3, G_a_66_3⟩ := Vc_a_66_3
  have hin66_3 : ¬ ((2 : Int32) < 0 ∨ cl_a_66_3.slots.size ≤ ((2 : Int32)).toNatClampNeg) := inb_of S_a_66_3 ⟨by decide, by decide⟩
  have hat66_3 : cl_a_66_3.slots[((2 : Int32)).toNatClampNeg]? = some (.double zz) := H_a_66_3.at hin66_3 rfl
  refine Dn.st (fun _ kk => X0.daload hx (j := (2 : Int32)) (v := (.double zz)) (by rw [e0]; exact Ar_a_66_3.1) (State.isArrayOf_alike hZ.alike Ar_a_66_3.2.1) Ar_a_66_3.2.2 hin66_3 hat66_3 (g := (mkF m 66 #[.val (.ref a), .val (.double v27_4), .second, .val (.double v39), .second, .val (.double v75_2), .second, .val (.ref a), .val (.int (4 : Int32)), .val (.int (2 : Int32)), .val (.double zz), .second] [(.int (2 : Int32)), (.ref a)])) rfl rfl (hb hby d2_66) _ (XS.dstore X0.here hx rfl (hb hby d2_67) rfl (l' := #[.val (.ref a), .val (.double v27_4), .second, .val (.double v39), .second, .val (.double v75_2), .second, .val (.ref a), .val (.int (4 : Int32)), .val (.int (2 : Int32)), .val (.double zz), .second]) rfl (XS.dload X0.here hx rfl (hb hby d2_69) rfl  (XS.dload X0.here hx rfl (hb hby d2_71) rfl  (XS.dloadN X0.here hx rfl (hb hby d2_73) rfl  (kk)))))) ?_
  show Dn p e below s _ _ _ (s₁.setTop (mkF m 74 #[.val (.ref a), .val (.double v27_4), .second, .val (.double v39), .second, .val (.double v75_2), .second, .val (.ref a), .val (.int (4 : Int32)), .val (.int (2 : Int32)), .val (.double zz), .second] [(.double v39), (.double zz), (.double v75_2)]))
  have d74_3 : DS 1 (kq * 2 - ih) (FP.dsub zz v39) := DS.sub (k := 1) (d_zz.up 1) d39 (by show (kq * 2 - ih).natAbs ≤ _; omega) (by decide)
  refine Dn.st (fun _ kk => XS.dsubS X0.here hx rfl (hb hby d2_74) rfl d74_3.nn rfl (kk)) ?_
  show Dn p e below s _ _ _ (s₁.setTop (mkF m 75 #[.val (.ref a), .val (.double v27_4), .second, .val (.double v39), .second, .val (.double v75_2), .second, .val (.ref a), .val (.int (4 : Int32)), .val (.int (2 : Int32)), .val (.double zz), .second] [(.double (FP.dsub zz v39)), (.double v75_2)]))
  generalize hv74_3 : ((FP.dsub zz v39) : UInt64) = v74_3 at d74_3 ⊢
  show Dn p e below s _ _ _ (s₁.setTop (mkF m 75 #[.val (.ref a), .val (.double v27_4), .second, .val (.double v39), .second, .val (.double v75_2), .second, .val (.ref a), .val (.int (4 : Int32)), .val (.int (2 : Int32)), .val (.double zz), .second] [(.double v74_3), (.double v75_2)]))
  have d75_3 : DS 1 ((kq * 2 - ih) * 3) (FP.dadd v75_2 v74_3) := DS.addc (k := 1) d75_2 d74_3 (by omega) (by omega) (by decide)
  refine Dn.st (fun _ kk => XS.daddS X0.here hx rfl (hb hby d2_75) rfl d75_3.nn rfl (kk)) ?_
  show Dn p e below s _ _ _ (s₁.setTop (mkF m 76 #[.val (.ref a), .val (.double v27_4), .second, .val (.double v39), .second, .val (.double v75_2), .second, .val (.ref a), .val (.int (4 : Int32)), .val (.int (2 : Int32)), .val (.double zz), .second] [(.double (FP.dadd v75_2 v74_3))]))
  generalize hv75_3 : ((FP.dadd v75_2 v74_3) : UInt64) = v75_3 at d75_3 ⊢
  show Dn p e below s _ _ _ (s₁.setTop (mkF m 76 #[.val (.ref a), .val (.double v27_4), .second, .val (.double v39), .second, .val (.double v75_2), .second, .val (.ref a), .val (.int (4 : Int32)), .val (.int (2 : Int32)), .val (.double zz), .second] [(.double v75_3)]))
  refine Dn.st (fun _ kk => XS.dstore X0.here hx rfl (hb hby d2_76) rfl (l' := #[.val (.ref a), .val (.double v27_4), .second, .val (.double v39), .second, .val (.double v75_3), .second, .val (.ref a), .val (.int (4 : Int32)), .val (.int (2 : Int32)), .val (.double zz), .second]) rfl (XS.iinc X0.here hx rfl (hb hby d2_78) rfl (l' := #[.val (.ref a), .val (.double v27_4), .second, .val (.double v39), .second, .val (.double v75_3), .second, .val (.ref a), .val (.int (4 : Int32)), .val (.int (3 : Int32)), .val (.double zz), .second]) rfl (XS.goto X0.here hx rfl (pc0 := 81) (pc' := 55) rfl (hb hby d2_81) (by decide) (by decide) (XS.iload X0.here hx rfl (hb hby d2_55) rfl  (XS.iload X0.here hx rfl (hb hby d2_57) rfl  (kk)))))) ?_
  show Dn p e below s _ _ _ (s₁.setTop (mkF m 59 #[.val (.ref a), .val (.double v27_4), .second, .val (.double v39), .second, .val (.double v75_3), .second, .val (.ref a), .val (.int (4 : Int32)), .val (.int (3 : Int32)), .val (.double zz), .second] [(.int (4 : Int32)), (.int (3 : Int32))]))
  have hc59_4 : (3 : Int32) < (4 : Int32) := by decide
  refine Dn.st (fun _ kk => XS.icmpNo X0.here hx rfl (hb hby d2_59) rfl (tlt hc59_4).2.1 (XS.aload X0.here hx rfl (hb hby d2_62) rfl rfl (XS.iload X0.here hx rfl (hb hby d2_64) rfl  (kk)))) ?_
  show Dn p e below s _ _ _ (s₁.setTop (mkF m 66 #[.val (.ref a), .val (.double v27_4), .second, .val (.double v39), .second, .val (.double v75_3), .second, .val (.ref a), .val (.int (4 : Int32)), .val (.int (3 : Int32)), .val (.double zz), .second] [(.int (3 : Int32)), (.ref a)]))
  have Vc_a_66_4 := Va
  obtain ⟨cl_a_66_4, Ar_a_66_4, q_a_66_4, S_a_66_4, N_a_66_4, H_a_66_4, G_a_66_4⟩ := Vc_a_66_4
  have hin66_4 : ¬ ((3 : Int32) < 0 ∨ cl_a_66_4.slots.size ≤ ((3 : Int32)).toNatClampNeg) := inb_of S_a_66_4 ⟨by decide, by decide⟩
  have hat66_4 : cl_a_66_4.slots[((3 : Int32)).toNatClampNeg]? = some (.double zz) := H_a_66_4.at hin66_4 rfl
  refine Dn.st (fun _ kk => X0.daload hx (j := (3 : Int32)) (v := (.double zz)) (by rw [e0]; exact Ar_a_66_4.1) (State.isArrayOf_alike hZ.alike Ar_a_66_4.2.1) Ar_a_66_4.2.2 hin66_4 hat66_4 (g := (mkF m 66 #[.val (.ref a), .val (.double v27_4), .second, .val (.double v39), .second, .val (.double v75_3), .second, .val (.ref a), .val (.int (4 : Int32)), .val (.int (3 : Int32)), .val (.double zz), .second] [(.int (3 : Int32)), (.ref a)])) rfl rfl (hb hby d2_66) _ (XS.dstore X0.here hx rfl (hb hby d2_67) rfl (l' := #[.val (.ref a), .val (.double v27_4), .second, .val (.double v39), .second, .val (.double v75_3), .second, .val (.ref a), .val (.int (4 : Int32)), .val (.int (3 : Int32)), .val (.double zz), .second]) rfl (XS.dload X0.here hx rfl (hb hby d2_69) rfl  (XS.dload X0.here hx rfl (hb hby d2_71) rfl  (XS.dloadN X0.here hx rfl (hb hby d2_73) rfl  (kk)))))) ?_
  show Dn p e below s _ _ _ (s₁.setTop (mkF m 74 #[.val (.ref a), .val (.double v27_4), .second, .val (.double v39), .second, .val (.double v75_3), .second, .val (.ref a), .val (.int (4 : Int32)), .val (.int (3 : Int32)), .val (.double zz), .second] [(.double v39), (.double zz), (.double v75_3)]))
  have d74_4 : DS 1 (kq * 2 - ih) (FP.dsub zz v39) := DS.sub (k := 1) (d_zz.up 1) d39 (by show (kq * 2 - ih).natAbs ≤ _; omega) (by decide)
  refine Dn.st (fun _ kk => XS.dsubS X0.here hx rfl (hb hby d2_74) rfl d74_4.nn rfl (kk)) ?_
  show Dn p e below s _ _ _ (s₁.setTop (mkF m 75 #[.val (.ref a), .val (.double v27_4), .second, .val (.double v39), .second, .val (.double v75_3), .second, .val (.ref a), .val (.int (4 : Int32)), .val (.int (3 : Int32)), .val (.double zz), .second] [(.double (FP.dsub zz v39)), (.double v75_3)]))
  generalize hv74_4 : ((FP.dsub zz v39) : UInt64) = v74_4 at d74_4 ⊢
  show Dn p e below s _ _ _ (s₁.setTop (mkF m 75 #[.val (.ref a), .val (.double v27_4), .second, .val (.double v39), .second, .val (.double v75_3), .second, .val (.ref a), .val (.int (4 : Int32)), .val (.int (3 : Int32)), .val (.double zz), .second] [(.double v74_4), (.double v75_3)]))
  have d75_4 : DS 1 ((kq * 2 - ih) * 4) (FP.dadd v75_3 v74_4) := DS.addc (k := 1) d75_3 d74_4 (by omega) (by omega) (by decide)
  refine Dn.st (fun _ kk => XS.daddS X0.here hx rfl (hb hby d2_75) rfl d75_4.nn rfl (kk)) ?_
  show Dn p e below s _ _ _ (s₁.setTop (mkF m 76 #[.val (.ref a), .val (.double v27_4), .second, .val (.double v39), .second, .val (.double v75_3), .second, .val (.ref a), .val (.int (4 : Int32)), .val (.int (3 : Int32)), .val (.double zz), .second] [(.double (FP.dadd v75_3 v74_4))]))
  generalize hv75_4 : ((FP.dadd v75_3 v74_4) : UInt64) = v75_4 at d75_4 ⊢
  show Dn p e below s _ _ _ (s₁.setTop (mkF m 76 #[.val (.ref a), .val (.double v27_4), .second, .val (.double v39), .second, .val (.double v75_3), .second, .val (.ref a), .val (.int (4 : Int32)), .val (.int (3 : Int32)), .val (.double zz), .second] [(.double v75_4)]))
  refine Dn.st (fun _ kk => XS.dstore X0.here hx rfl (hb hby d2_76) rfl (l' := #[.val (.ref a), .val (.double v27_4), .second, .val (.double v39), .second, .val (.double v75_4), .second, .val (.ref a), .val (.int (4 : Int32)), .val (.int (3 : Int32)), .val (.double zz), .second]) rfl (XS.iinc X0.here hx rfl (hb hby d2_78) rfl (l' := #[.val (.ref a), .val (.double v27_4), .second, .val (.double v39), .second, .val (.double v75_4), .second, .val (.ref a), .val (.int (4 : Int32)), .val (.int (4 : Int32)), .val (.double zz), .second]) rfl (XS.goto X0.here hx rfl (pc0 := 81) (pc' := 55) rfl (hb hby d2_81) (by decide) (by decide) (XS.iload X0.here hx rfl (hb hby d2_55) rfl  (XS.iload X0.here hx rfl (hb hby d2_57) rfl  (kk)))))) ?_
  show Dn p e below s _ _ _ (s₁.setTop (mkF m 59 #[.val (.ref a), .val (.double v27_4), .second, .val (.double v39), .second, .val (.double v75_4), .second, .val (.ref a), .val (.int (4 : Int32)), .val (.int (4 : Int32)), .val (.double zz), .second] [(.int (4 : Int32)), (.int (4 : Int32))]))
  have hc59_5 : ¬ ((4 : Int32) < (4 : Int32)) := by decide
  refine Dn.st (fun _ kk => XS.icmpYes X0.here hx rfl (pc0 := 59) (pc' := 84) rfl (hb hby d2_59) rfl (flt hc59_5).2.1 (by decide) (by decide) (XS.dloadN X0.here hx rfl (hb hby d2_84) rfl  (XS.dload X0.here hx rfl (hb hby d2_85) rfl  (XS.aloadN X0.here hx rfl (hb hby d2_87) rfl rfl (kk))))) ?_
  show Dn p e below s _ _ _ (s₁.setTop (mkF m 88 #[.val (.ref a), .val (.double v27_4), .second, .val (.double v39), .second, .val (.double v75_4), .second, .val (.ref a), .val (.int (4 : Int32)), .val (.int (4 : Int32)), .val (.double zz), .second] [(.ref a), (.double v75_4), (.double v39)]))
  have Vc_a_88 := Va
  obtain ⟨cl_a_88, Ar_a_88, q_a_88, S_a_88, N_a_88, H_a_88, G_a_88⟩ := Vc_a_88
  refine Dn.st (fun _ kk => X0.arraylength hx (by rw [e0]; exact Ar_a_88.1) (State.isArrayOf_alike hZ.alike Ar_a_88.2.1) (g := (mkF m 88 #[.val (.ref a), .val (.double v27_4), .second, .val (.double v39), .second, .val (.double v75_4), .second, .val (.ref a), .val (.int (4 : Int32)), .val (.int (4 : Int32)), .val (.double zz), .second] [(.ref a), (.double v75_4), (.double v39)])) rfl rfl (hb hby d2_88) _ (kk)) ?_
  show Dn p e below s _ _ _ (s₁.setTop (mkF m 89 #[.val (.ref a), .val (.double v27_4), .second, .val (.double v39), .second, .val (.double v75_4), .second, .val (.ref a), .val (.int (4 : Int32)), .val (.int (4 : Int32)), .val (.double zz), .second] [(.int cl_a_88.slots.size.toInt32), (.double v75_4), (.double v39)]))
  rw [len_of S_a_88 N_a_88]
  show Dn p e below s _ _ _ (s₁.setTop (mkF m 89 #[.val (.ref a), .val (.double v27_4), .second, .val (.double v39), .second, .val (.double v75_4), .second, .val (.ref a), .val (.int (4 : Int32)), .val (.int (4 : Int32)), .val (.double zz), .second] [(.int (4 : Int32)), (.double v75_4), (.double v39)]))
  have d89 := DS.i2d (4 : Int32)
  refine Dn.st (fun _ kk => XS.i2dS X0.here hx rfl (hb hby d2_89) rfl rfl (kk)) ?_
  show Dn p e below s _ _ _ (s₁.setTop (mkF m 90 #[.val (.ref a), .val (.double v27_4), .second, .val (.double v39), .second, .val (.double v75_4), .second, .val (.ref a), .val (.int (4 : Int32)), .val (.int (4 : Int32)), .val (.double zz), .second] [(.double (FP.i2d (4 : Int32))), (.double v75_4), (.double v39)]))
  generalize hv89 : ((FP.i2d (4 : Int32)) : UInt64) = v89 at d89 ⊢
  show Dn p e below s _ _ _ (s₁.setTop (mkF m 90 #[.val (.ref a), .val (.double v27_4), .second, .val (.double v39), .second, .val (.double v75_4), .second, .val (.ref a), .val (.int (4 : Int32)), .val (.int (4 : Int32)), .val (.double zz), .second] [(.double v89), (.double v75_4), (.double v39)]))
  have d90 : DS 1 (kq * 2 - ih) (FP.ddiv v75_4 v89) := DS.div (n := 1) (Q := (kq * 2 - ih)) d75_4 (DS.cast (i' := 4) d89 rfl (by decide)) (by decide) (by show _ * 2 = _ * 2; omega) (by omega) (by decide)
  refine Dn.st (fun _ kk => XS.ddivS X0.here hx rfl (hb hby d2_90) rfl d90.nn rfl (kk)) ?_
  show Dn p e below s _ _ _ (s₁.setTop (mkF m 91 #[.val (.ref a), .val (.double v27_4), .second, .val (.double v39), .second, .val (.double v75_4), .second, .val (.ref a), .val (.int (4 : Int32)), .val (.int (4 : Int32)), .val (.double zz), .second] [(.double (FP.ddiv v75_4 v89)), (.double v39)]))
  generalize hv90 : ((FP.ddiv v75_4 v89) : UInt64) = v90 at d90 ⊢
  show Dn p e below s _ _ _ (s₁.setTop (mkF m 91 #[.val (.ref a), .val (.double v27_4), .second, .val (.double v39), .second, .val (.double v75_4), .second, .val (.ref a), .val (.int (4 : Int32)), .val (.int (4 : Int32)), .val (.double zz), .second] [(.double v90), (.double v39)]))
  have d91 : DS 0 kq (FP.dadd v39 v90) := DS.add_half d39 d90 (by omega) (by omega) (by decide)
  refine Dn.st (fun _ kk => XS.daddS X0.here hx rfl (hb hby d2_91) rfl d91.nn rfl (kk)) ?_
  show Dn p e below s _ _ _ (s₁.setTop (mkF m 92 #[.val (.ref a), .val (.double v27_4), .second, .val (.double v39), .second, .val (.double v75_4), .second, .val (.ref a), .val (.int (4 : Int32)), .val (.int (4 : Int32)), .val (.double zz), .second] [(.double (FP.dadd v39 v90))]))
  generalize hv91 : ((FP.dadd v39 v90) : UInt64) = v91 at d91 ⊢
  show Dn p e below s _ _ _ (s₁.setTop (mkF m 92 #[.val (.ref a), .val (.double v27_4), .second, .val (.double v39), .second, .val (.double v75_4), .second, .val (.ref a), .val (.int (4 : Int32)), .val (.int (4 : Int32)), .val (.double zz), .second] [(.double v91)]))
  exact Dn.ret X0 hlk hx hret rfl (Or.inr (Or.inr (Or.inl ⟨rfl, rfl, _, rfl⟩))) (hb hby d2_92) (by rw [e0]; exact ⟨_, rfl, d91, N0, rfl⟩) (by decide) (by decide)

theorem ef2_rm2I_3 (m : MethodId) (x0 : Addr) : entryFrame m #[(.ref x0)] 12 = mkF m 0 #[.val (.ref x0), .unset, .unset, .unset, .unset, .unset, .unset, .unset, .unset, .unset, .unset, .unset] [] := by first | (simp [entryFrame, mkF, argsToLocals, Value.category]; done) | rfl
def Q2I_3 (Z : State) (a : Addr) (ka : ClassId) (z0 z1 z2 : UInt64) (w0 w1 w2 tq eq : Int) (h0 : Heap) (n0 : Nat) (v : Option Value) (h : Heap) (L : List Loc) : Prop := ∃ z, v = some (.double z) ∧ DI 10 (1024 * tq + 1) (1024 * tq + 1023) z ∧ Fr n0 L ∧ h = h0
set_option maxRecDepth 65536 in
set_option maxHeartbeats 40000000 in
theorem rm2I_3 (l : Launch) (Z : State) (a0 : Array Value) (hw : ∀ d ∈ tables_1, d.before a0 Z = true) (ws : List Jvm.Cond) (a : Addr) (ka : ClassId) (z0 z1 z2 : UInt64) (w0 w1 w2 tq eq : Int) (h0 : Heap) (n0 : Nat) (Z0 : n0 ≤ h0.size) (Va : Arv Z h0 a ka .double 3 [(.double z0), (.double z1), (.double z2)] (.double 0)) (d_z0 : DS 0 w0 z0) (d_z1 : DS 0 w1 z1) (d_z2 : DS 0 w2 z2) (hb0 : -1048576 ≤ w0 ∧ w0 ≤ 1048576) (hb1 : -1048576 ≤ w1 ∧ w1 ≤ 1048576) (hb2 : -1048576 ≤ w2 ∧ w2 ≤ 1048576) (hS : w0 + w1 + w2 = 3 * tq + eq) (he : 1 ≤ eq ∧ eq ≤ 2) :
    MetFree l (⟨"com/example/listino/listino/stats/Moments", "mean", "([D)D"⟩ : MethodName) (head1 (Jvm.Cond.code (⟨"com/example/listino/listino/stats/Moments", "mean", "([D)D"⟩ : MethodName) prog_51_method_2_code 12 (some .double) :: ws) ({ frames := 0, cells := 0, slots := 0, locals := 0 } : Room)) (fun aa UU => aa = #[(.ref a)] ∧ Z.Warmed39 UU.vm ∧ UU.heap = h0) (fun _ _ _ _ _ => True) (fun _ UU oo UU' => ∃ vv LL, oo = .returned vv ∧ Q2I_3 Z a ka z0 z1 z2 w0 w1 w2 tq eq h0 n0 vv UU'.heap LL ∧ FrameEnd UU oo UU' LL ({ frames := 0, cells := 0, slots := 0, locals := 0 } : Room).cells ({ frames := 0, cells := 0, slots := 0, locals := 0 } : Room).slots) := by
  refine MetFree.of_bodySF (plainFor_of_name pn1) hisR ?_
  intro p e s m args below meth c s₁ Bd hml0 hP hK
  obtain ⟨rfl, hZ, hh⟩ := hP
  have hx := Bd.exec
  have hby := Bd.bytes
  have hlk : meth.locks = false := BodyLoose.notSynchronized Bd
  have hret := Bd.returns
  have hml : c.maxLocals = 12 := hml0
  have hown : s.vm.findClass "com/example/listino/listino/stats/Moments" = some m.cls := findClass_of_methodNamed Bd.named
  have hnm := (name_of_methodNamed Bd.named Bd.method).1
  have X0 : Stand p l e ({ frames := 0, cells := 0, slots := 0, locals := 0 } : Room) s m #[(.ref a)] below meth c s₁ [] 0 0 := Stand.of_body Bd
  have e0 : s₁.heap = h0 := by rw [← hh, Bd.state]; rfl
  have N0 := Fr.nil n0
  show Dn p e below s (Q2I_3 Z a ka z0 z1 z2 w0 w1 w2 tq eq h0 n0) ({ frames := 0, cells := 0, slots := 0, locals := 0 } : Room).cells ({ frames := 0, cells := 0, slots := 0, locals := 0 } : Room).slots (s₁.setTop (entryFrame m #[(.ref a)] 12))
  refine Dn.st (fun _ kk => castTop (ef2_rm2I_3 m a) kk) ?_
  show Dn p e below s _ _ _ (s₁.setTop (mkF m 0 #[.val (.ref a), .unset, .unset, .unset, .unset, .unset, .unset, .unset, .unset, .unset, .unset, .unset] []))
  refine Dn.st (fun _ kk => XS.dconst0 X0.here hx rfl (hb hby d2_0) rfl (XS.dstoreN X0.here hx rfl (hb hby d2_1) rfl (l' := #[.val (.ref a), .val (.double FP.dconst0), .second, .unset, .unset, .unset, .unset, .unset, .unset, .unset, .unset, .unset]) rfl (XS.aloadN X0.here hx rfl (hb hby d2_2) rfl rfl (XS.astoreN X0.here hx rfl (hb hby d2_3) rfl rfl (l' := #[.val (.ref a), .val (.double FP.dconst0), .second, .val (.ref a), .unset, .unset, .unset, .unset, .unset, .unset, .unset, .unset]) rfl (XS.aloadN X0.here hx rfl (hb hby d2_4) rfl rfl (kk)))))) ?_
  show Dn p e below s _ _ _ (s₁.setTop (mkF m 5 #[.val (.ref a), .val (.double FP.dconst0), .second, .val (.ref a), .unset, .unset, .unset, .unset, .unset, .unset, .unset, .unset] [(.ref a)]))
  have Vc_a_5 := Va
  obtain ⟨cl_a_5, Ar_a_5, q_a_5, S_a_5, N_a_5, H_a_5, G_a_5⟩ := Vc_a_5
  refine Dn.st (fun _ kk => X0.arraylength hx (by rw [e0]; exact Ar_a_5.1) (State.isArrayOf_alike hZ.alike Ar_a_5.2.1) (g := (mkF m 5 #[.val (.ref a), .val (.double FP.dconst0), .second, .val (.ref a), .unset, .unset, .unset, .unset, .unset, .unset, .unset, .unset] [(.ref a)])) rfl rfl (hb hby d2_5) _ (kk)) ?_
  show Dn p e below s _ _ _ (s₁.setTop (mkF m 6 #[.val (.ref a), .val (.double FP.dconst0), .second, .val (.ref a), .unset, .unset, .unset, .unset, .unset, .unset, .unset, .unset] [(.int cl_a_5.slots.size.toInt32)]))
  rw [len_of S_a_5 N_a_5]
  show Dn p e below s _ _ _ (s₁.setTop (mkF m 6 #[.val (.ref a), .val (.double FP.dconst0), .second, .val (.ref a), .unset, .unset, .unset, .unset, .unset, .unset, .unset, .unset] [(.int (3 : Int32))]))
  refine Dn.st (fun _ kk => XS.istore X0.here hx rfl (hb hby d2_6) rfl (l' := #[.val (.ref a), .val (.double FP.dconst0), .second, .val (.ref a), .val (.int (3 : Int32)), .unset, .unset, .unset, .unset, .unset, .unset, .unset]) rfl (XS.iconst X0.here hx rfl (hb hby d2_8) (XS.istore X0.here hx rfl (hb hby d2_9) rfl (l' := #[.val (.ref a), .val (.double FP.dconst0), .second, .val (.ref a), .val (.int (3 : Int32)), .val (.int (0 : Int32)), .unset, .unset, .unset, .unset, .unset, .unset]) rfl (XS.iload X0.here hx rfl (hb hby d2_11) rfl  (XS.iload X0.here hx rfl (hb hby d2_13) rfl  (kk)))))) ?_
  show Dn p e below s _ _ _ (s₁.setTop (mkF m 15 #[.val (.ref a), .val (.double FP.dconst0), .second, .val (.ref a), .val (.int (3 : Int32)), .val (.int (0 : Int32)), .unset, .unset, .unset, .unset, .unset, .unset] [(.int (3 : Int32)), (.int (0 : Int32))]))
  have hc15 : (0 : Int32) < (3 : Int32) := by decide
  refine Dn.st (fun _ kk => XS.icmpNo X0.here hx rfl (hb hby d2_15) rfl (tlt hc15).2.1 (XS.aloadN X0.here hx rfl (hb hby d2_18) rfl rfl (XS.iload X0.here hx rfl (hb hby d2_19) rfl  (kk)))) ?_
  show Dn p e below s _ _ _ (s₁.setTop (mkF m 21 #[.val (.ref a), .val (.double FP.dconst0), .second, .val (.ref a), .val (.int (3 : Int32)), .val (.int (0 : Int32)), .unset, .unset, .unset, .unset, .unset, .unset] [(.int (0 : Int32)), (.ref a)]))
  have Vc_a_21 := Va
  obtain ⟨cl_a_21, Ar_a_21, q_a_21, S_a_21, N_a_21, H_a_21, G_a_21⟩ := Vc_a_21
  have hin21 : ¬ ((0 : Int32) < 0 ∨ cl_a_21.slots.size ≤ ((0 : Int32)).toNatClampNeg) := inb_of S_a_21 ⟨by decide, by decide⟩
  have hat21 : cl_a_21.slots[((0 : Int32)).toNatClampNeg]? = some (.double z0) := H_a_21.at hin21 rfl
  refine Dn.st (fun _ kk => X0.daload hx (j := (0 : Int32)) (v := (.double z0)) (by rw [e0]; exact Ar_a_21.1) (State.isArrayOf_alike hZ.alike Ar_a_21.2.1) Ar_a_21.2.2 hin21 hat21 (g := (mkF m 21 #[.val (.ref a), .val (.double FP.dconst0), .second, .val (.ref a), .val (.int (3 : Int32)), .val (.int (0 : Int32)), .unset, .unset, .unset, .unset, .unset, .unset] [(.int (0 : Int32)), (.ref a)])) rfl rfl (hb hby d2_21) _ (XS.dstore X0.here hx rfl (hb hby d2_22) rfl (l' := #[.val (.ref a), .val (.double FP.dconst0), .second, .val (.ref a), .val (.int (3 : Int32)), .val (.int (0 : Int32)), .val (.double z0), .second, .unset, .unset, .unset, .unset]) rfl (XS.dloadN X0.here hx rfl (hb hby d2_24) rfl  (XS.dload X0.here hx rfl (hb hby d2_25) rfl  (kk))))) ?_
  show Dn p e below s _ _ _ (s₁.setTop (mkF m 27 #[.val (.ref a), .val (.double FP.dconst0), .second, .val (.ref a), .val (.int (3 : Int32)), .val (.int (0 : Int32)), .val (.double z0), .second, .unset, .unset, .unset, .unset] [(.double z0), (.double FP.dconst0)]))
  have d27 : DS 0 (0 + w0) (FP.dadd FP.dconst0 z0) := DS.add dc_0 d_z0 (by omega) (by decide)
  refine Dn.st (fun _ kk => XS.daddS X0.here hx rfl (hb hby d2_27) rfl d27.nn rfl (kk)) ?_
  show Dn p e below s _ _ _ (s₁.setTop (mkF m 28 #[.val (.ref a), .val (.double FP.dconst0), .second, .val (.ref a), .val (.int (3 : Int32)), .val (.int (0 : Int32)), .val (.double z0), .second, .unset, .unset, .unset, .unset] [(.double (FP.dadd FP.dconst0 z0))]))
  generalize hv27 : ((FP.dadd FP.dconst0 z0) : UInt64) = v27 at d27 ⊢
  show Dn p e below s _ _ _ (s₁.setTop (mkF m 28 #[.val (.ref a), .val (.double FP.dconst0), .second, .val (.ref a), .val (.int (3 : Int32)), .val (.int (0 : Int32)), .val (.double z0), .second, .unset, .unset, .unset, .unset] [(.double v27)]))
  refine Dn.st (fun _ kk => XS.dstoreN X0.here hx rfl (hb hby d2_28) rfl (l' := #[.val (.ref a), .val (.double v27), .second, .val (.ref a), .val (.int (3 : Int32)), .val (.int (0 : Int32)), .val (.double z0), .second, .unset, .unset, .unset, .unset]) rfl (XS.iinc X0.here hx rfl (hb hby d2_29) rfl (l' := #[.val (.ref a), .val (.double v27), .second, .val (.ref a), .val (.int (3 : Int32)), .val (.int (1 : Int32)), .val (.double z0), .second, .unset, .unset, .unset, .unset]) rfl (XS.goto X0.here hx rfl (pc0 := 32) (pc' := 11) rfl (hb hby d2_32) (by decide) (by decide) (XS.iload X0.here hx rfl (hb hby d2_11) rfl  (XS.iload X0.here hx rfl (hb hby d2_13) rfl  (kk)))))) ?_
  show Dn p e below s _ _ _ (s₁.setTop (mkF m 15 #[.val (.ref a), .val (.double v27), .second, .val (.ref a), .val (.int (3 : Int32)), .val (.int (1 : Int32)), .val (.double z0), .second, .unset, .unset, .unset, .unset] [(.int (3 : Int32)), (.int (1 : Int32))]))
  have hc15_2 : (1 : Int32) < (3 : Int32) := by decide
  refine Dn.st (fun _ kk => XS.icmpNo X0.here hx rfl (hb hby d2_15) rfl (tlt hc15_2).2.1 (XS.aloadN X0.here hx rfl (hb hby d2_18) rfl rfl (XS.iload X0.here hx rfl (hb hby d2_19) rfl  (kk)))) ?_
  show Dn p e below s _ _ _ (s₁.setTop (mkF m 21 #[.val (.ref a), .val (.double v27), .second, .val (.ref a), .val (.int (3 : Int32)), .val (.int (1 : Int32)), .val (.double z0), .second, .unset, .unset, .unset, .unset] [(.int (1 : Int32)), (.ref a)]))
  have Vc_a_21_2 := Va
  obtain ⟨cl_a_21_2, Ar_a_21_2, q_a_21_2, S_a_21_2, N_a_21_2, H_a_21_2, G_a_21_2⟩ := Vc_a_21_2
  have hin21_2 : ¬ ((1 : Int32) < 0 ∨ cl_a_21_2.slots.size ≤ ((1 : Int32)).toNatClampNeg) := inb_of S_a_21_2 ⟨by decide, by decide⟩
  have hat21_2 : cl_a_21_2.slots[((1 : Int32)).toNatClampNeg]? = some (.double z1) := H_a_21_2.at hin21_2 rfl
  refine Dn.st (fun _ kk => X0.daload hx (j := (1 : Int32)) (v := (.double z1)) (by rw [e0]; exact Ar_a_21_2.1) (State.isArrayOf_alike hZ.alike Ar_a_21_2.2.1) Ar_a_21_2.2.2 hin21_2 hat21_2 (g := (mkF m 21 #[.val (.ref a), .val (.double v27), .second, .val (.ref a), .val (.int (3 : Int32)), .val (.int (1 : Int32)), .val (.double z0), .second, .unset, .unset, .unset, .unset] [(.int (1 : Int32)), (.ref a)])) rfl rfl (hb hby d2_21) _ (XS.dstore X0.here hx rfl (hb hby d2_22) rfl (l' := #[.val (.ref a), .val (.double v27), .second, .val (.ref a), .val (.int (3 : Int32)), .val (.int (1 : Int32)), .val (.double z1), .second, .unset, .unset, .unset, .unset]) rfl (XS.dloadN X0.here hx rfl (hb hby d2_24) rfl  (XS.dload X0.here hx rfl (hb hby d2_25) rfl  (kk))))) ?_
  show Dn p e below s _ _ _ (s₁.setTop (mkF m 27 #[.val (.ref a), .val (.double v27), .second, .val (.ref a), .val (.int (3 : Int32)), .val (.int (1 : Int32)), .val (.double z1), .second, .unset, .unset, .unset, .unset] [(.double z1), (.double v27)]))
  have d27_2 : DS 0 ((0 + w0) + w1) (FP.dadd v27 z1) := DS.add d27 d_z1 (by omega) (by decide)
  refine Dn.st (fun _ kk => XS.daddS X0.here hx rfl (hb hby d2_27) rfl d27_2.nn rfl (kk)) ?_
  show Dn p e below s _ _ _ (s₁.setTop (mkF m 28 #[.val (.ref a), .val (.double v27), .second, .val (.ref a), .val (.int (3 : Int32)), .val (.int (1 : Int32)), .val (.double z1), .second, .unset, .unset, .unset, .unset] [(.double (FP.dadd v27 z1))]))
  generalize hv27_2 : ((FP.dadd v27 z1) : UInt64) = v27_2 at d27_2 ⊢
  show Dn p e below s _ _ _ (s₁.setTop (mkF m 28 #[.val (.ref a), .val (.double v27), .second, .val (.ref a), .val (.int (3 : Int32)), .val (.int (1 : Int32)), .val (.double z1), .second, .unset, .unset, .unset, .unset] [(.double v27_2)]))
  refine Dn.st (fun _ kk => XS.dstoreN X0.here hx rfl (hb hby d2_28) rfl (l' := #[.val (.ref a), .val (.double v27_2), .second, .val (.ref a), .val (.int (3 : Int32)), .val (.int (1 : Int32)), .val (.double z1), .second, .unset, .unset, .unset, .unset]) rfl (XS.iinc X0.here hx rfl (hb hby d2_29) rfl (l' := #[.val (.ref a), .val (.double v27_2), .second, .val (.ref a), .val (.int (3 : Int32)), .val (.int (2 : Int32)), .val (.double z1), .second, .unset, .unset, .unset, .unset]) rfl (XS.goto X0.here hx rfl (pc0 := 32) (pc' := 11) rfl (hb hby d2_32) (by decide) (by decide) (XS.iload X0.here hx rfl (hb hby d2_11) rfl  (XS.iload X0.here hx rfl (hb hby d2_13) rfl  (kk)))))) ?_
  show Dn p e below s _ _ _ (s₁.setTop (mkF m 15 #[.val (.ref a), .val (.double v27_2), .second, .val (.ref a), .val (.int (3 : Int32)), .val (.int (2 : Int32)), .val (.double z1), .second, .unset, .unset, .unset, .unset] [(.int (3 : Int32)), (.int (2 : Int32))]))
  have hc15_3 : (2 : Int32) < (3 : Int32) := by decide
  refine Dn.st (fun _ kk => XS.icmpNo X0.here hx rfl (hb hby d2_15) rfl (tlt hc15_3).2.1 (XS.aloadN X0.here hx rfl (hb hby d2_18) rfl rfl (XS.iload X0.here hx rfl (hb hby d2_19) rfl  (kk)))) ?_
  show Dn p e below s _ _ _ (s₁.setTop (mkF m 21 #[.val (.ref a), .val (.double v27_2), .second, .val (.ref a), .val (.int (3 : Int32)), .val (.int (2 : Int32)), .val (.double z1), .second, .unset, .unset, .unset, .unset] [(.int (2 : Int32)), (.ref a)]))
  have Vc_a_21_3 := Va
  obtain ⟨cl_a_21_3, Ar_a_21_3, q_a_21_3, S_a_21_3, N_a_21_3, H_a_21_3, G_a_21_3⟩ := Vc_a_21_3
  have hin21_3 : ¬ ((2 : Int32) < 0 ∨ cl_a_21_3.slots.size ≤ ((2 : Int32)).toNatClampNeg) := inb_of S_a_21_3 ⟨by decide, by decide⟩
  have hat21_3 : cl_a_21_3.slots[((2 : Int32)).toNatClampNeg]? = some (.double z2) := H_a_21_3.at hin21_3 rfl
  refine Dn.st (fun _ kk => X0.daload hx (j := (2 : Int32)) (v := (.double z2)) (by rw [e0]; exact Ar_a_21_3.1) (State.isArrayOf_alike hZ.alike Ar_a_21_3.2.1) Ar_a_21_3.2.2 hin21_3 hat21_3 (g := (mkF m 21 #[.val (.ref a), .val (.double v27_2), .second, .val (.ref a), .val (.int (3 : Int32)), .val (.int (2 : Int32)), .val (.double z1), .second, .unset, .unset, .unset, .unset] [(.int (2 : Int32)), (.ref a)])) rfl rfl (hb hby d2_21) _ (XS.dstore X0.here hx rfl (hb hby d2_22) rfl (l' := #[.val (.ref a), .val (.double v27_2), .second, .val (.ref a), .val (.int (3 : Int32)), .val (.int (2 : Int32)), .val (.double z2), .second, .unset, .unset, .unset, .unset]) rfl (XS.dloadN X0.here hx rfl (hb hby d2_24) rfl  (XS.dload X0.here hx rfl (hb hby d2_25) rfl  (kk))))) ?_
  show Dn p e below s _ _ _ (s₁.setTop (mkF m 27 #[.val (.ref a), .val (.double v27_2), .second, .val (.ref a), .val (.int (3 : Int32)), .val (.int (2 : Int32)), .val (.double z2), .second, .unset, .unset, .unset, .unset] [(.double z2), (.double v27_2)]))
  have d27_3 : DS 0 (((0 + w0) + w1) + w2) (FP.dadd v27_2 z2) := DS.add d27_2 d_z2 (by omega) (by decide)
  refine Dn.st (fun _ kk => XS.daddS X0.here hx rfl (hb hby d2_27) rfl d27_3.nn rfl (kk)) ?_
  show Dn p e below s _ _ _ (s₁.setTop (mkF m 28 #[.val (.ref a), .val (.double v27_2), .second, .val (.ref a), .val (.int (3 : Int32)), .val (.int (2 : Int32)), .val (.double z2), .second, .unset, .unset, .unset, .unset] [(.double (FP.dadd v27_2 z2))]))
  generalize hv27_3 : ((FP.dadd v27_2 z2) : UInt64) = v27_3 at d27_3 ⊢
  show Dn p e below s _ _ _ (s₁.setTop (mkF m 28 #[.val (.ref a), .val (.double v27_2), .second, .val (.ref a), .val (.int (3 : Int32)), .val (.int (2 : Int32)), .val (.double z2), .second, .unset, .unset, .unset, .unset] [(.double v27_3)]))
  refine Dn.st (fun _ kk => XS.dstoreN X0.here hx rfl (hb hby d2_28) rfl (l' := #[.val (.ref a), .val (.double v27_3), .second, .val (.ref a), .val (.int (3 : Int32)), .val (.int (2 : Int32)), .val (.double z2), .second, .unset, .unset, .unset, .unset]) rfl (XS.iinc X0.here hx rfl (hb hby d2_29) rfl (l' := #[.val (.ref a), .val (.double v27_3), .second, .val (.ref a), .val (.int (3 : Int32)), .val (.int (3 : Int32)), .val (.double z2), .second, .unset, .unset, .unset, .unset]) rfl (XS.goto X0.here hx rfl (pc0 := 32) (pc' := 11) rfl (hb hby d2_32) (by decide) (by decide) (XS.iload X0.here hx rfl (hb hby d2_11) rfl  (XS.iload X0.here hx rfl (hb hby d2_13) rfl  (kk)))))) ?_
  show Dn p e below s _ _ _ (s₁.setTop (mkF m 15 #[.val (.ref a), .val (.double v27_3), .second, .val (.ref a), .val (.int (3 : Int32)), .val (.int (3 : Int32)), .val (.double z2), .second, .unset, .unset, .unset, .unset] [(.int (3 : Int32)), (.int (3 : Int32))]))
  have hc15_4 : ¬ ((3 : Int32) < (3 : Int32)) := by decide
  refine Dn.st (fun _ kk => XS.icmpYes X0.here hx rfl (pc0 := 15) (pc' := 35) rfl (hb hby d2_15) rfl (flt hc15_4).2.1 (by decide) (by decide) (XS.dloadN X0.here hx rfl (hb hby d2_35) rfl  (XS.aloadN X0.here hx rfl (hb hby d2_36) rfl rfl (kk)))) ?_
  show Dn p e below s _ _ _ (s₁.setTop (mkF m 37 #[.val (.ref a), .val (.double v27_3), .second, .val (.ref a), .val (.int (3 : Int32)), .val (.int (3 : Int32)), .val (.double z2), .second, .unset, .unset, .unset, .unset] [(.ref a), (.double v27_3)]))
  have Vc_a_37 := Va
  obtain ⟨cl_a_37, Ar_a_37, q_a_37, S_a_37, N_a_37, H_a_37, G_a_37⟩ := Vc_a_37
  refine Dn.st (fun _ kk => X0.arraylength hx (by rw [e0]; exact Ar_a_37.1) (State.isArrayOf_alike hZ.alike Ar_a_37.2.1) (g := (mkF m 37 #[.val (.ref a), .val (.double v27_3), .second, .val (.ref a), .val (.int (3 : Int32)), .val (.int (3 : Int32)), .val (.double z2), .second, .unset, .unset, .unset, .unset] [(.ref a), (.double v27_3)])) rfl rfl (hb hby d2_37) _ (kk)) ?_
  show Dn p e below s _ _ _ (s₁.setTop (mkF m 38 #[.val (.ref a), .val (.double v27_3), .second, .val (.ref a), .val (.int (3 : Int32)), .val (.int (3 : Int32)), .val (.double z2), .second, .unset, .unset, .unset, .unset] [(.int cl_a_37.slots.size.toInt32), (.double v27_3)]))
  rw [len_of S_a_37 N_a_37]
  show Dn p e below s _ _ _ (s₁.setTop (mkF m 38 #[.val (.ref a), .val (.double v27_3), .second, .val (.ref a), .val (.int (3 : Int32)), .val (.int (3 : Int32)), .val (.double z2), .second, .unset, .unset, .unset, .unset] [(.int (3 : Int32)), (.double v27_3)]))
  have d38 := DS.i2d (3 : Int32)
  refine Dn.st (fun _ kk => XS.i2dS X0.here hx rfl (hb hby d2_38) rfl rfl (kk)) ?_
  show Dn p e below s _ _ _ (s₁.setTop (mkF m 39 #[.val (.ref a), .val (.double v27_3), .second, .val (.ref a), .val (.int (3 : Int32)), .val (.int (3 : Int32)), .val (.double z2), .second, .unset, .unset, .unset, .unset] [(.double (FP.i2d (3 : Int32))), (.double v27_3)]))
  generalize hv38 : ((FP.i2d (3 : Int32)) : UInt64) = v38 at d38 ⊢
  show Dn p e below s _ _ _ (s₁.setTop (mkF m 39 #[.val (.ref a), .val (.double v27_3), .second, .val (.ref a), .val (.int (3 : Int32)), .val (.int (3 : Int32)), .val (.double z2), .second, .unset, .unset, .unset, .unset] [(.double v38), (.double v27_3)]))
  have g39 : DI 10 (1024 * tq + 341 * eq) (1024 * tq + 342 * eq) (FP.ddiv v27_3 v38) := DI.div ((d27_3.up 10).di (by decide)) (DS.cast (i' := 3) d38 rfl (by decide)) (by decide) (by show _ ≤ _ * 1024; omega) (by show _ * 1024 ≤ _; omega) (rep_of (by decide) (by omega)) (rep_of (by decide) (by omega))
  refine Dn.st (fun _ kk => XS.ddivS X0.here hx rfl (hb hby d2_39) rfl g39.nn rfl (kk)) ?_
  show Dn p e below s _ _ _ (s₁.setTop (mkF m 40 #[.val (.ref a), .val (.double v27_3), .second, .val (.ref a), .val (.int (3 : Int32)), .val (.int (3 : Int32)), .val (.double z2), .second, .unset, .unset, .unset, .unset] [(.double (FP.ddiv v27_3 v38))]))
  generalize hv39 : ((FP.ddiv v27_3 v38) : UInt64) = v39
  rw [hv39] at g39
  show Dn p e below s _ _ _ (s₁.setTop (mkF m 40 #[.val (.ref a), .val (.double v27_3), .second, .val (.ref a), .val (.int (3 : Int32)), .val (.int (3 : Int32)), .val (.double z2), .second, .unset, .unset, .unset, .unset] [(.double v39)]))
  refine Dn.st (fun _ kk => XS.dstoreN X0.here hx rfl (hb hby d2_40) rfl (l' := #[.val (.ref a), .val (.double v27_3), .second, .val (.double v39), .second, .val (.int (3 : Int32)), .val (.double z2), .second, .unset, .unset, .unset, .unset]) rfl (XS.dconst0 X0.here hx rfl (hb hby d2_41) rfl (XS.dstore X0.here hx rfl (hb hby d2_42) rfl (l' := #[.val (.ref a), .val (.double v27_3), .second, .val (.double v39), .second, .val (.double FP.dconst0), .second, .unset, .unset, .unset, .unset, .unset]) rfl (XS.aloadN X0.here hx rfl (hb hby d2_44) rfl rfl (XS.astore X0.here hx rfl (hb hby d2_45) rfl rfl (l' := #[.val (.ref a), .val (.double v27_3), .second, .val (.double v39), .second, .val (.double FP.dconst0), .second, .val (.ref a), .unset, .unset, .unset, .unset]) rfl (XS.aload X0.here hx rfl (hb hby d2_47) rfl rfl (kk))))))) ?_
  show Dn p e below s _ _ _ (s₁.setTop (mkF m 49 #[.val (.ref a), .val (.double v27_3), .second, .val (.double v39), .second, .val (.double FP.dconst0), .second, .val (.ref a), .unset, .unset, .unset, .unset] [(.ref a)]))
  have Vc_a_49 := Va
  obtain ⟨cl_a_49, Ar_a_49, q_a_49, S_a_49, N_a_49, H_a_49, G_a_49⟩ := Vc_a_49
  refine Dn.st (fun _ kk => X0.arraylength hx (by rw [e0]; exact Ar_a_49.1) (State.isArrayOf_alike hZ.alike Ar_a_49.2.1) (g := (mkF m 49 #[.val (.ref a), .val (.double v27_3), .second, .val (.double v39), .second, .val (.double FP.dconst0), .second, .val (.ref a), .unset, .unset, .unset, .unset] [(.ref a)])) rfl rfl (hb hby d2_49) _ (kk)) ?_
  show Dn p e below s _ _ _ (s₁.setTop (mkF m 50 #[.val (.ref a), .val (.double v27_3), .second, .val (.double v39), .second, .val (.double FP.dconst0), .second, .val (.ref a), .unset, .unset, .unset, .unset] [(.int cl_a_49.slots.size.toInt32)]))
  rw [len_of S_a_49 N_a_49]
  show Dn p e below s _ _ _ (s₁.setTop (mkF m 50 #[.val (.ref a), .val (.double v27_3), .second, .val (.double v39), .second, .val (.double FP.dconst0), .second, .val (.ref a), .unset, .unset, .unset, .unset] [(.int (3 : Int32))]))
  refine Dn.st (fun _ kk => XS.istore X0.here hx rfl (hb hby d2_50) rfl (l' := #[.val (.ref a), .val (.double v27_3), .second, .val (.double v39), .second, .val (.double FP.dconst0), .second, .val (.ref a), .val (.int (3 : Int32)), .unset, .unset, .unset]) rfl (XS.iconst X0.here hx rfl (hb hby d2_52) (XS.istore X0.here hx rfl (hb hby d2_53) rfl (l' := #[.val (.ref a), .val (.double v27_3), .second, .val (.double v39), .second, .val (.double FP.dconst0), .second, .val (.ref a), .val (.int (3 : Int32)), .val (.int (0 : Int32)), .unset, .unset]) rfl (XS.iload X0.here hx rfl (hb hby d2_55) rfl  (XS.iload X0.here hx rfl (hb hby d2_57) rfl  (kk)))))) ?_
  show Dn p e below s _ _ _ (s₁.setTop (mkF m 59 #[.val (.ref a), .val (.double v27_3), .second, .val (.double v39), .second, .val (.double FP.dconst0), .second, .val (.ref a), .val (.int (3 : Int32)), .val (.int (0 : Int32)), .unset, .unset] [(.int (3 : Int32)), (.int (0 : Int32))]))
  have hc59 : (0 : Int32) < (3 : Int32) := by decide
  refine Dn.st (fun _ kk => XS.icmpNo X0.here hx rfl (hb hby d2_59) rfl (tlt hc59).2.1 (XS.aload X0.here hx rfl (hb hby d2_62) rfl rfl (XS.iload X0.here hx rfl (hb hby d2_64) rfl  (kk)))) ?_
  show Dn p e below s _ _ _ (s₁.setTop (mkF m 66 #[.val (.ref a), .val (.double v27_3), .second, .val (.double v39), .second, .val (.double FP.dconst0), .second, .val (.ref a), .val (.int (3 : Int32)), .val (.int (0 : Int32)), .unset, .unset] [(.int (0 : Int32)), (.ref a)]))
  have Vc_a_66 := Va
  obtain ⟨cl_a_66, Ar_a_66, q_a_66, S_a_66, N_a_66, H_a_66, G_a_66⟩ := Vc_a_66
  have hin66 : ¬ ((0 : Int32) < 0 ∨ cl_a_66.slots.size ≤ ((0 : Int32)).toNatClampNeg) := inb_of S_a_66 ⟨by decide, by decide⟩
  have hat66 : cl_a_66.slots[((0 : Int32)).toNatClampNeg]? = some (.double z0) := H_a_66.at hin66 rfl
  refine Dn.st (fun _ kk => X0.daload hx (j := (0 : Int32)) (v := (.double z0)) (by rw [e0]; exact Ar_a_66.1) (State.isArrayOf_alike hZ.alike Ar_a_66.2.1) Ar_a_66.2.2 hin66 hat66 (g := (mkF m 66 #[.val (.ref a), .val (.double v27_3), .second, .val (.double v39), .second, .val (.double FP.dconst0), .second, .val (.ref a), .val (.int (3 : Int32)), .val (.int (0 : Int32)), .unset, .unset] [(.int (0 : Int32)), (.ref a)])) rfl rfl (hb hby d2_66) _ (XS.dstore X0.here hx rfl (hb hby d2_67) rfl (l' := #[.val (.ref a), .val (.double v27_3), .second, .val (.double v39), .second, .val (.double FP.dconst0), .second, .val (.ref a), .val (.int (3 : Int32)), .val (.int (0 : Int32)), .val (.double z0), .second]) rfl (XS.dload X0.here hx rfl (hb hby d2_69) rfl  (XS.dload X0.here hx rfl (hb hby d2_71) rfl  (XS.dloadN X0.here hx rfl (hb hby d2_73) rfl  (kk)))))) ?_
  show Dn p e below s _ _ _ (s₁.setTop (mkF m 74 #[.val (.ref a), .val (.double v27_3), .second, .val (.double v39), .second, .val (.double FP.dconst0), .second, .val (.ref a), .val (.int (3 : Int32)), .val (.int (0 : Int32)), .val (.double z0), .second] [(.double v39), (.double z0), (.double FP.dconst0)]))
  have g74 : DI 10 (w0 * 1024 - (1024 * tq + 342 * eq)) (w0 * 1024 - (1024 * tq + 341 * eq)) (FP.dsub z0 v39) := DI.sub ((d_z0.up 10).di (by decide)) g39 (by decide) (by show (w0 * 1024 - (1024 * tq + 342 * eq)).natAbs ≤ _; omega) (by show (w0 * 1024 - (1024 * tq + 341 * eq)).natAbs ≤ _; omega)
  refine Dn.st (fun _ kk => XS.dsubS X0.here hx rfl (hb hby d2_74) rfl g74.nn rfl (kk)) ?_
  show Dn p e below s _ _ _ (s₁.setTop (mkF m 75 #[.val (.ref a), .val (.double v27_3), .second, .val (.double v39), .second, .val (.double FP.dconst0), .second, .val (.ref a), .val (.int (3 : Int32)), .val (.int (0 : Int32)), .val (.double z0), .second] [(.double (FP.dsub z0 v39)), (.double FP.dconst0)]))
  generalize hv74 : ((FP.dsub z0 v39) : UInt64) = v74
  rw [hv74] at g74
  show Dn p e below s _ _ _ (s₁.setTop (mkF m 75 #[.val (.ref a), .val (.double v27_3), .second, .val (.double v39), .second, .val (.double FP.dconst0), .second, .val (.ref a), .val (.int (3 : Int32)), .val (.int (0 : Int32)), .val (.double z0), .second] [(.double v74), (.double FP.dconst0)]))
  have g75 : DI 10 (w0 * 1024 - 1 * (1024 * tq + 342 * eq)) (w0 * 1024 - 1 * (1024 * tq + 341 * eq)) (FP.dadd FP.dconst0 v74) := DI.addR ((DS.zero 10).di (by decide)) g74 (by omega) (by omega) (rep_of (by decide) (by omega)) (rep_of (by decide) (by omega))
  refine Dn.st (fun _ kk => XS.daddS X0.here hx rfl (hb hby d2_75) rfl g75.nn rfl (kk)) ?_
  show Dn p e below s _ _ _ (s₁.setTop (mkF m 76 #[.val (.ref a), .val (.double v27_3), .second, .val (.double v39), .second, .val (.double FP.dconst0), .second, .val (.ref a), .val (.int (3 : Int32)), .val (.int (0 : Int32)), .val (.double z0), .second] [(.double (FP.dadd FP.dconst0 v74))]))
  generalize hv75 : ((FP.dadd FP.dconst0 v74) : UInt64) = v75
  rw [hv75] at g75
  show Dn p e below s _ _ _ (s₁.setTop (mkF m 76 #[.val (.ref a), .val (.double v27_3), .second, .val (.double v39), .second, .val (.double FP.dconst0), .second, .val (.ref a), .val (.int (3 : Int32)), .val (.int (0 : Int32)), .val (.double z0), .second] [(.double v75)]))
  refine Dn.st (fun _ kk => XS.dstore X0.here hx rfl (hb hby d2_76) rfl (l' := #[.val (.ref a), .val (.double v27_3), .second, .val (.double v39), .second, .val (.double v75), .second, .val (.ref a), .val (.int (3 : Int32)), .val (.int (0 : Int32)), .val (.double z0), .second]) rfl (XS.iinc X0.here hx rfl (hb hby d2_78) rfl (l' := #[.val (.ref a), .val (.double v27_3), .second, .val (.double v39), .second, .val (.double v75), .second, .val (.ref a), .val (.int (3 : Int32)), .val (.int (1 : Int32)), .val (.double z0), .second]) rfl (XS.goto X0.here hx rfl (pc0 := 81) (pc' := 55) rfl (hb hby d2_81) (by decide) (by decide) (XS.iload X0.here hx rfl (hb hby d2_55) rfl  (XS.iload X0.here hx rfl (hb hby d2_57) rfl  (kk)))))) ?_
  show Dn p e below s _ _ _ (s₁.setTop (mkF m 59 #[.val (.ref a), .val (.double v27_3), .second, .val (.double v39), .second, .val (.double v75), .second, .val (.ref a), .val (.int (3 : Int32)), .val (.int (1 : Int32)), .val (.double z0), .second] [(.int (3 : Int32)), (.int (1 : Int32))]))
  have hc59_2 : (1 : Int32) < (3 : Int32) := by decide
  refine Dn.st (fun _ kk => XS.icmpNo X0.here hx rfl (hb hby d2_59) rfl (tlt hc59_2).2.1 (XS.aload X0.here hx rfl (hb hby d2_62) rfl rfl (XS.iload X0.here hx rfl (hb hby d2_64) rfl  (kk)))) ?_
  show Dn p e below s _ _ _ (s₁.setTop (mkF m 66 #[.val (.ref a), .val (.double v27_3), .second, .val (.double v39), .second, .val (.double v75), .second, .val (.ref a), .val (.int (3 : Int32)), .val (.int (1 : Int32)), .val (.double z0), .second] [(.int (1 : Int32)), (.ref a)]))
  have Vc_a_66_2 := Va
  obtain ⟨cl_a_66_2, Ar_a_66_2, q_a_66_2, S_a_66_2, N_a_66_2, H_a_66_2, G_a_66_2⟩ := Vc_a_66_2
  have hin66_2 : ¬ ((1 : Int32) < 0 ∨ cl_a_66_2.slots.size ≤ ((1 : Int32)).toNatClampNeg) := inb_of S_a_66_2 ⟨by decide, by decide⟩
  have hat66_2 : cl_a_66_2.slots[((1 : Int32)).toNatClampNeg]? = some (.double z1) := H_a_66_2.at hin66_2 rfl
  refine Dn.st (fun _ kk => X0.daload hx (j := (1 : Int32)) (v := (.double z1)) (by rw [e0]; exact Ar_a_66_2.1) (State.isArrayOf_alike hZ.alike Ar_a_66_2.2.1) Ar_a_66_2.2.2 hin66_2 hat66_2 (g := (mkF m 66 #[.val (.ref a), .val (.double v27_3), .second, .val (.double v39), .second, .val (.double v75), .second, .val (.ref a), .val (.int (3 : Int32)), .val (.int (1 : Int32)), .val (.double z0), .second] [(.int (1 : Int32)), (.ref a)])) rfl rfl (hb hby d2_66) _ (XS.dstore X0.here hx rfl (hb hby d2_67) rfl (l' := #[.val (.ref a), .val (.double v27_3), .second, .val (.double v39), .second, .val (.double v75), .second, .val (.ref a), .val (.int (3 : Int32)), .val (.int (1 : Int32)), .val (.double z1), .second]) rfl (XS.dload X0.here hx rfl (hb hby d2_69) rfl  (XS.dload X0.here hx rfl (hb hby d2_71) rfl  (XS.dloadN X0.here hx rfl (hb hby d2_73) rfl  (kk)))))) ?_
  show Dn p e below s _ _ _ (s₁.setTop (mkF m 74 #[.val (.ref a), .val (.double v27_3), .second, .val (.double v39), .second, .val (.double v75), .second, .val (.ref a), .val (.int (3 : Int32)), .val (.int (1 : Int32)), .val (.double z1), .second] [(.double v39), (.double z1), (.double v75)]))
  have g74_2 : DI 10 (w1 * 1024 - (1024 * tq + 342 * eq)) (w1 * 1024 - (1024 * tq + 341 * eq)) (FP.dsub z1 v39) := DI.sub ((d_z1.up 10).di (by decide)) g39 (by decide) (by show (w1 * 1024 - (1024 * tq + 342 * eq)).natAbs ≤ _; omega) (by show (w1 * 1024 - (1024 * tq + 341 * eq)).natAbs ≤ _; omega)
  refine Dn.st (fun _ kk => XS.dsubS X0.here hx rfl (hb hby d2_74) rfl g74_2.nn rfl (kk)) ?_
  show Dn p e below s _ _ _ (s₁.setTop (mkF m 75 #[.val (.ref a), .val (.double v27_3), .second, .val (.double v39), .second, .val (.double v75), .second, .val (.ref a), .val (.int (3 : Int32)), .val (.int (1 : Int32)), .val (.double z1), .second] [(.double (FP.dsub z1 v39)), (.double v75)]))
  generalize hv74_2 : ((FP.dsub z1 v39) : UInt64) = v74_2
  rw [hv74_2] at g74_2
  show Dn p e below s _ _ _ (s₁.setTop (mkF m 75 #[.val (.ref a), .val (.double v27_3), .second, .val (.double v39), .second, .val (.double v75), .second, .val (.ref a), .val (.int (3 : Int32)), .val (.int (1 : Int32)), .val (.double z1), .second] [(.double v74_2), (.double v75)]))
  have g75_2 : DI 10 (w0 * 1024 + w1 * 1024 - 2 * (1024 * tq + 342 * eq)) (w0 * 1024 + w1 * 1024 - 2 * (1024 * tq + 341 * eq)) (FP.dadd v75 v74_2) := DI.addR g75 g74_2 (by omega) (by omega) (rep_of (by decide) (by omega)) (rep_of (by decide) (by omega))
  refine Dn.st (fun _ kk => XS.daddS X0.here hx rfl (hb hby d2_75) rfl g75_2.nn rfl (kk)) ?_
  show Dn p e below s _ _ _ (s₁.setTop (mkF m 76 #[.val (.ref a), .val (.double v27_3), .second, .val (.double v39), .second, .val (.double v75), .second, .val (.ref a), .val (.int (3 : Int32)), .val (.int (1 : Int32)), .val (.double z1), .second] [(.double (FP.dadd v75 v74_2))]))
  generalize hv75_2 : ((FP.dadd v75 v74_2) : UInt64) = v75_2
  rw [hv75_2] at g75_2
  show Dn p e below s _ _ _ (s₁.setTop (mkF m 76 #[.val (.ref a), .val (.double v27_3), .second, .val (.double v39), .second, .val (.double v75), .second, .val (.ref a), .val (.int (3 : Int32)), .val (.int (1 : Int32)), .val (.double z1), .second] [(.double v75_2)]))
  refine Dn.st (fun _ kk => XS.dstore X0.here hx rfl (hb hby d2_76) rfl (l' := #[.val (.ref a), .val (.double v27_3), .second, .val (.double v39), .second, .val (.double v75_2), .second, .val (.ref a), .val (.int (3 : Int32)), .val (.int (1 : Int32)), .val (.double z1), .second]) rfl (XS.iinc X0.here hx rfl (hb hby d2_78) rfl (l' := #[.val (.ref a), .val (.double v27_3), .second, .val (.double v39), .second, .val (.double v75_2), .second, .val (.ref a), .val (.int (3 : Int32)), .val (.int (2 : Int32)), .val (.double z1), .second]) rfl (XS.goto X0.here hx rfl (pc0 := 81) (pc' := 55) rfl (hb hby d2_81) (by decide) (by decide) (XS.iload X0.here hx rfl (hb hby d2_55) rfl  (XS.iload X0.here hx rfl (hb hby d2_57) rfl  (kk)))))) ?_
  show Dn p e below s _ _ _ (s₁.setTop (mkF m 59 #[.val (.ref a), .val (.double v27_3), .second, .val (.double v39), .second, .val (.double v75_2), .second, .val (.ref a), .val (.int (3 : Int32)), .val (.int (2 : Int32)), .val (.double z1), .second] [(.int (3 : Int32)), (.int (2 : Int32))]))
  have hc59_3 : (2 : Int32) < (3 : Int32) := by decide
  refine Dn.st (fun _ kk => XS.icmpNo X0.here hx rfl (hb hby d2_59) rfl (tlt hc59_3).2.1 (XS.aload X0.here hx rfl (hb hby d2_62) rfl rfl (XS.iload X0.here hx rfl (hb hby d2_64) rfl  (kk)))) ?_
  show Dn p e below s _ _ _ (s₁.setTop (mkF m 66 #[.val (.ref a), .val (.double v27_3), .second, .val (.double v39), .second, .val (.double v75_2), .second, .val (.ref a), .val (.int (3 : Int32)), .val (.int (2 : Int32)), .val (.double z1), .second] [(.int (2 : Int32)), (.ref a)]))
  have Vc_a_66_3 := Va
  obtain ⟨cl_a_66_3, Ar_a_66_3, q_a_66_3, S_a_66_3, N_a_66_3, H_a_66_3, G_a_66_3⟩ := Vc_a_66_3
  have hin66_3 : ¬ ((2 : Int32) < 0 ∨ cl_a_66_3.slots.size ≤ ((2 : Int32)).toNatClampNeg) := inb_of S_a_66_3 ⟨by decide, by decide⟩
  have hat66_3 : cl_a_66_3.slots[((2 : Int32)).toNatClampNeg]? = some (.double z2) := H_a_66_3.at hin66_3 rfl
  refine Dn.st (fun _ kk => X0.daload hx (j := (2 : Int32)) (v := (.double z2)) (by rw [e0]; exact Ar_a_66_3.1) (State.isArrayOf_alike hZ.alike Ar_a_66_3.2.1) Ar_a_66_3.2.2 hin66_3 hat66_3 (g := (mkF m 66 #[.val (.ref a), .val (.double v27_3), .second, .val (.double v39), .second, .val (.double v75_2), .second, .val (.ref a), .val (.int (3 : Int32)), .val (.int (2 : Int32)), .val (.double z1), .second] [(.int (2 : Int32)), (.ref a)])) rfl rfl (hb hby d2_66) _ (XS.dstore X0.here hx rfl (hb hby d2_67) rfl (l' := #[.val (.ref a), .val (.double v27_3), .second, .val (.double v39), .second, .val (.double v75_2), .second, .val (.ref a), .val (.int (3 : Int32)), .val (.int (2 : Int32)), .val (.double z2), .second]) rfl (XS.dload X0.here hx rfl (hb hby d2_69) rfl  (XS.dload X0.here hx rfl (hb hby d2_71) rfl  (XS.dloadN X0.here hx rfl (hb hby d2_73) rfl  (kk)))))) ?_
  show Dn p e below s _ _ _ (s₁.setTop (mkF m 74 #[.val (.ref a), .val (.double v27_3), .second, .val (.double v39), .second, .val (.double v75_2), .second, .val (.ref a), .val (.int (3 : Int32)), .val (.int (2 : Int32)), .val (.double z2), .second] [(.double v39), (.double z2), (.double v75_2)]))
  have g74_3 : DI 10 (w2 * 1024 - (1024 * tq + 342 * eq)) (w2 * 1024 - (1024 * tq + 341 * eq)) (FP.dsub z2 v39) := DI.sub ((d_z2.up 10).di (by decide)) g39 (by decide) (by show (w2 * 1024 - (1024 * tq + 342 * eq)).natAbs ≤ _; omega) (by show (w2 * 1024 - (1024 * tq + 341 * eq)).natAbs ≤ _; omega)
  refine Dn.st (fun _ kk => XS.dsubS X0.here hx rfl (hb hby d2_74) rfl g74_3.nn rfl (kk)) ?_
  show Dn p e below s _ _ _ (s₁.setTop (mkF m 75 #[.val (.ref a), .val (.double v27_3), .second, .val (.double v39), .second, .val (.double v75_2), .second, .val (.ref a), .val (.int (3 : Int32)), .val (.int (2 : Int32)), .val (.double z2), .second] [(.double (FP.dsub z2 v39)), (.double v75_2)]))
  generalize hv74_3 : ((FP.dsub z2 v39) : UInt64) = v74_3
  rw [hv74_3] at g74_3
  show Dn p e below s _ _ _ (s₁.setTop (mkF m 75 #[.val (.ref a), .val (.double v27_3), .second, .val (.double v39), .second, .val (.double v75_2), .second, .val (.ref a), .val (.int (3 : Int32)), .val (.int (2 : Int32)), .val (.double z2), .second] [(.double v74_3), (.double v75_2)]))
  have g75_3 : DI 10 (w0 * 1024 + w1 * 1024 + w2 * 1024 - 3 * (1024 * tq + 342 * eq)) (w0 * 1024 + w1 * 1024 + w2 * 1024 - 3 * (1024 * tq + 341 * eq)) (FP.dadd v75_2 v74_3) := DI.addR g75_2 g74_3 (by omega) (by omega) (rep_of (by decide) (by omega)) (rep_of (by decide) (by omega))
  refine Dn.st (fun _ kk => XS.daddS X0.here hx rfl (hb hby d2_75) rfl g75_3.nn rfl (kk)) ?_
  show Dn p e below s _ _ _ (s₁.setTop (mkF m 76 #[.val (.ref a), .val (.double v27_3), .second, .val (.double v39), .second, .val (.double v75_2), .second, .val (.ref a), .val (.int (3 : Int32)), .val (.int (2 : Int32)), .val (.double z2), .second] [(.double (FP.dadd v75_2 v74_3))]))
  generalize hv75_3 : ((FP.dadd v75_2 v74_3) : UInt64) = v75_3
  rw [hv75_3] at g75_3
  show Dn p e below s _ _ _ (s₁.setTop (mkF m 76 #[.val (.ref a), .val (.double v27_3), .second, .val (.double v39), .second, .val (.double v75_2), .second, .val (.ref a), .val (.int (3 : Int32)), .val (.int (2 : Int32)), .val (.double z2), .second] [(.double v75_3)]))
  refine Dn.st (fun _ kk => XS.dstore X0.here hx rfl (hb hby d2_76) rfl (l' := #[.val (.ref a), .val (.double v27_3), .second, .val (.double v39), .second, .val (.double v75_3), .second, .val (.ref a), .val (.int (3 : Int32)), .val (.int (2 : Int32)), .val (.double z2), .second]) rfl (XS.iinc X0.here hx rfl (hb hby d2_78) rfl (l' := #[.val (.ref a), .val (.double v27_3), .second, .val (.double v39), .second, .val (.double v75_3), .second, .val (.ref a), .val (.int (3 : Int32)), .val (.int (3 : Int32)), .val (.double z2), .second]) rfl (XS.goto X0.here hx rfl (pc0 := 81) (pc' := 55) rfl (hb hby d2_81) (by decide) (by decide) (XS.iload X0.here hx rfl (hb hby d2_55) rfl  (XS.iload X0.here hx rfl (hb hby d2_57) rfl  (kk)))))) ?_
  show Dn p e below s _ _ _ (s₁.setTop (mkF m 59 #[.val (.ref a), .val (.double v27_3), .second, .val (.double v39), .second, .val (.double v75_3), .second, .val (.ref a), .val (.int (3 : Int32)), .val (.int (3 : Int32)), .val (.double z2), .second] [(.int (3 : Int32)), (.int (3 : Int32))]))
  have hc59_4 : ¬ ((3 : Int32) < (3 : Int32)) := by decide
  refine Dn.st (fun _ kk => XS.icmpYes X0.here hx rfl (pc0 := 59) (pc' := 84) rfl (hb hby d2_59) rfl (flt hc59_4).2.1 (by decide) (by decide) (XS.dloadN X0.here hx rfl (hb hby d2_84) rfl  (XS.dload X0.here hx rfl (hb hby d2_85) rfl  (XS.aloadN X0.here hx rfl (hb hby d2_87) rfl rfl (kk))))) ?_
  show Dn p e below s _ _ _ (s₁.setTop (mkF m 88 #[.val (.ref a), .val (.double v27_3), .second, .val (.double v39), .second, .val (.double v75_3), .second, .val (.ref a), .val (.int (3 : Int32)), .val (.int (3 : Int32)), .val (.double z2), .second] [(.ref a), (.double v75_3), (.double v39)]))
  have Vc_a_88 := Va
  obtain ⟨cl_a_88, Ar_a_88, q_a_88, S_a_88, N_a_88, H_a_88, G_a_88⟩ := Vc_a_88
  refine Dn.st (fun _ kk => X0.arraylength hx (by rw [e0]; exact Ar_a_88.1) (State.isArrayOf_alike hZ.alike Ar_a_88.2.1) (g := (mkF m 88 #[.val (.ref a), .val (.double v27_3), .second, .val (.double v39), .second, .val (.double v75_3), .second, .val (.ref a), .val (.int (3 : Int32)), .val (.int (3 : Int32)), .val (.double z2), .second] [(.ref a), (.double v75_3), (.double v39)])) rfl rfl (hb hby d2_88) _ (kk)) ?_
  show Dn p e below s _ _ _ (s₁.setTop (mkF m 89 #[.val (.ref a), .val (.double v27_3), .second, .val (.double v39), .second, .val (.double v75_3), .second, .val (.ref a), .val (.int (3 : Int32)), .val (.int (3 : Int32)), .val (.double z2), .second] [(.int cl_a_88.slots.size.toInt32), (.double v75_3), (.double v39)]))
  rw [len_of S_a_88 N_a_88]
  show Dn p e below s _ _ _ (s₁.setTop (mkF m 89 #[.val (.ref a), .val (.double v27_3), .second, .val (.double v39), .second, .val (.double v75_3), .second, .val (.ref a), .val (.int (3 : Int32)), .val (.int (3 : Int32)), .val (.double z2), .second] [(.int (3 : Int32)), (.double v75_3), (.double v39)]))
  have d89 := DS.i2d (3 : Int32)
  refine Dn.st (fun _ kk => XS.i2dS X0.here hx rfl (hb hby d2_89) rfl rfl (kk)) ?_
  show Dn p e below s _ _ _ (s₁.setTop (mkF m 90 #[.val (.ref a), .val (.double v27_3), .second, .val (.double v39), .second, .val (.double v75_3), .second, .val (.ref a), .val (.int (3 : Int32)), .val (.int (3 : Int32)), .val (.double z2), .second] [(.double (FP.i2d (3 : Int32))), (.double v75_3), (.double v39)]))
  generalize hv89 : ((FP.i2d (3 : Int32)) : UInt64) = v89 at d89 ⊢
  show Dn p e below s _ _ _ (s₁.setTop (mkF m 90 #[.val (.ref a), .val (.double v27_3), .second, .val (.double v39), .second, .val (.double v75_3), .second, .val (.ref a), .val (.int (3 : Int32)), .val (.int (3 : Int32)), .val (.double z2), .second] [(.double v89), (.double v75_3), (.double v39)]))
  have g90 : DI 10 (-2) 1 (FP.ddiv v75_3 v89) := DI.div g75_3 (DS.cast (i' := 3) d89 rfl (by decide)) (by decide) (by omega) (by omega) (rep_of (by decide) (by omega)) (rep_of (by decide) (by omega))
  refine Dn.st (fun _ kk => XS.ddivS X0.here hx rfl (hb hby d2_90) rfl g90.nn rfl (kk)) ?_
  show Dn p e below s _ _ _ (s₁.setTop (mkF m 91 #[.val (.ref a), .val (.double v27_3), .second, .val (.double v39), .second, .val (.double v75_3), .second, .val (.ref a), .val (.int (3 : Int32)), .val (.int (3 : Int32)), .val (.double z2), .second] [(.double (FP.ddiv v75_3 v89)), (.double v39)]))
  generalize hv90 : ((FP.ddiv v75_3 v89) : UInt64) = v90
  rw [hv90] at g90
  show Dn p e below s _ _ _ (s₁.setTop (mkF m 91 #[.val (.ref a), .val (.double v27_3), .second, .val (.double v39), .second, .val (.double v75_3), .second, .val (.ref a), .val (.int (3 : Int32)), .val (.int (3 : Int32)), .val (.double z2), .second] [(.double v90), (.double v39)]))
  have g91 : DI 10 (1024 * tq + 1) (1024 * tq + 1023) (FP.dadd v39 v90) := DI.addR g39 g90 (by omega) (by omega) (rep_of (by decide) (by omega)) (rep_of (by decide) (by omega))
  refine Dn.st (fun _ kk => XS.daddS X0.here hx rfl (hb hby d2_91) rfl g91.nn rfl (kk)) ?_
  show Dn p e below s _ _ _ (s₁.setTop (mkF m 92 #[.val (.ref a), .val (.double v27_3), .second, .val (.double v39), .second, .val (.double v75_3), .second, .val (.ref a), .val (.int (3 : Int32)), .val (.int (3 : Int32)), .val (.double z2), .second] [(.double (FP.dadd v39 v90))]))
  generalize hv91 : ((FP.dadd v39 v90) : UInt64) = v91
  rw [hv91] at g91
  show Dn p e below s _ _ _ (s₁.setTop (mkF m 92 #[.val (.ref a), .val (.double v27_3), .second, .val (.double v39), .second, .val (.double v75_3), .second, .val (.ref a), .val (.int (3 : Int32)), .val (.int (3 : Int32)), .val (.double z2), .second] [(.double v91)]))
  exact Dn.ret X0 hlk hx hret rfl (Or.inr (Or.inr (Or.inl ⟨rfl, rfl, _, rfl⟩))) (hb hby d2_92) (by rw [e0]; exact ⟨_, rfl, g91, N0, rfl⟩) (by decide) (by decide)

theorem pd0 : parseMethodDescriptor "(IDDDD)[D" = some ⟨[.int, .double, .double, .double, .double], some (.array .double)⟩ := by decide +kernel
theorem pd1 : parseMethodDescriptor "([D)D" = some ⟨[(.array .double)], some .double⟩ := by decide +kernel
theorem ef0_rm0 (m : MethodId) (x0 : Int32) (x1 : Int64) (x2 : Int32) (x3 : Int32) (x4 : Int32) (x5 : Int32) : entryFrame m #[(.int x0), (.long x1), (.int x2), (.int x3), (.int x4), (.int x5)] maxLocals = mkF m 0 #[.val (.int x0), .val (.long x1), .second, .val (.int x2), .val (.int x3), .val (.int x4), .val (.int x5), .unset, .unset, .unset, .unset, .unset, .unset, .unset, .unset, .unset, .unset, .unset, .unset, .unset, .unset, .unset, .unset] [] := by first | (simp [entryFrame, mkF, argsToLocals, Value.category, maxLocals]; done) | rfl
def Q0 (Z : State) (p0 : Int32) (p1 : Int64) (p2 : Int32) (p3 : Int32) (p4 : Int32) (p5 : Int32) (h0 : Heap) (n0 : Nat) (v : Option Value) (h : Heap) (L : List Loc) : Prop := v = some (.int 1) ∧ Fr n0 L
set_option maxRecDepth 65536 in
set_option maxHeartbeats 40000000 in
theorem rm0 (l : Launch) (Z : State) (a0 : Array Value) (hw : ∀ d ∈ tables_1, d.before a0 Z = true) (ws : List Jvm.Cond) (p0 : Int32) (p1 : Int64) (p2 : Int32) (p3 : Int32) (p4 : Int32) (p5 : Int32) (h0 : Heap) (n0 : Nat) (Z0 : n0 ≤ h0.size) :
    MetFree l x (head1 (Jvm.Cond.code x code maxLocals ret :: ws) room_1) (fun aa UU => aa = #[(.int p0), (.long p1), (.int p2), (.int p3), (.int p4), (.int p5)] ∧ Z.Warmed39 UU.vm ∧ UU.heap = h0) (fun _ _ _ _ _ => True) (fun _ UU oo UU' => ∃ vv LL, oo = .returned vv ∧ Q0 Z p0 p1 p2 p3 p4 p5 h0 n0 vv UU'.heap LL ∧ FrameEnd UU oo UU' LL 16 128) := by
  refine MetFree.of_bodySF (plainFor_of_name pn0) hisR ?_
  intro p e s m args below meth c s₁ Bd hml0 hP hK
  obtain ⟨rfl, hZ, hh⟩ := hP
  have hx := Bd.exec
  have hby := Bd.bytes
  have hlk : meth.locks = false := BodyLoose.notSynchronized Bd
  have hret := Bd.returns
  have hml : c.maxLocals = 23 := hml0
  have hown : s.vm.findClass "com/example/listino/listino/stats/MomentsMeanPinLaw" = some m.cls := findClass_of_methodNamed Bd.named
  have hnm := (name_of_methodNamed Bd.named Bd.method).1
  have X0 : Stand p l e room_1 s m #[(.int p0), (.long p1), (.int p2), (.int p3), (.int p4), (.int p5)] below meth c s₁ [] 0 0 := Stand.of_body Bd
  have e0 : s₁.heap = h0 := by rw [← hh, Bd.state]; rfl
  have N0 := Fr.nil n0
  have r_p0 := rng32 p0
  have r_p1 := rng64 p1
  have r_p2 := rng32 p2
  have r_p3 := rng32 p3
  have r_p4 := rng32 p4
  have r_p5 := rng32 p5
  show Dn p e below s (Q0 Z p0 p1 p2 p3 p4 p5 h0 n0) 16 128 (s₁.setTop (entryFrame m #[(.int p0), (.long p1), (.int p2), (.int p3), (.int p4), (.int p5)] maxLocals))
  refine Dn.st (fun _ kk => castTop (ef0_rm0 m p0 p1 p2 p3 p4 p5) kk) ?_
  show Dn p e below s _ _ _ (s₁.setTop (mkF m 0 #[.val (.int p0), .val (.long p1), .second, .val (.int p2), .val (.int p3), .val (.int p4), .val (.int p5), .unset, .unset, .unset, .unset, .unset, .unset, .unset, .unset, .unset, .unset, .unset, .unset, .unset, .unset, .unset, .unset] []))
  refine Dn.st (fun _ kk => XS.iconst X0.here hx rfl (hb hby at_0) (XS.iloadN X0.here hx rfl (hb hby at_1) rfl  (XS.iconst X0.here hx rfl (hb hby at_2) (XS.iushr X0.here hx rfl (hb hby at_3) rfl (kk))))) ?_
  show Dn p e below s _ _ _ (s₁.setTop (mkF m 4 #[.val (.int p0), .val (.long p1), .second, .val (.int p2), .val (.int p3), .val (.int p4), .val (.int p5), .unset, .unset, .unset, .unset, .unset, .unset, .unset, .unset, .unset, .unset, .unset, .unset, .unset, .unset, .unset, .unset] [(.int ((p0.toUInt32 >>> ((1 : Int32) &&& 31).toUInt32).toInt32)), (.int (1 : Int32))]))
  generalize hv3 : (((p0.toUInt32 >>> ((1 : Int32) &&& 31).toUInt32).toInt32) : Int32) = v3
  have q3 : v3.toInt = (p0.toInt % 4294967296) / 2 := by have qq := c_iushr p0 (1 : Int32) 1 (by decide) (by decide); rw [hv3] at qq; exact qq
  have r3 := rng32 v3
  show Dn p e below s _ _ _ (s₁.setTop (mkF m 4 #[.val (.int p0), .val (.long p1), .second, .val (.int p2), .val (.int p3), .val (.int p4), .val (.int p5), .unset, .unset, .unset, .unset, .unset, .unset, .unset, .unset, .unset, .unset, .unset, .unset, .unset, .unset, .unset, .unset] [(.int v3), (.int (1 : Int32))]))
  refine Dn.st (fun _ kk => XS.iconst X0.here hx rfl (hb hby at_4) (XS.iand X0.here hx rfl (hb hby at_5) rfl (kk))) ?_
  show Dn p e below s _ _ _ (s₁.setTop (mkF m 6 #[.val (.int p0), .val (.long p1), .second, .val (.int p2), .val (.int p3), .val (.int p4), .val (.int p5), .unset, .unset, .unset, .unset, .unset, .unset, .unset, .unset, .unset, .unset, .unset, .unset, .unset, .unset, .unset, .unset] [(.int (v3 &&& (3 : Int32))), (.int (1 : Int32))]))
  generalize hv5 : ((v3 &&& (3 : Int32)) : Int32) = v5
  have q5 : v5.toInt = v3.toInt % 4 := by have qq := c_mask v3 (3 : Int32) 2 (by decide) (by decide); rw [hv5] at qq; exact qq
  have r5 := rng32 v5
  show Dn p e below s _ _ _ (s₁.setTop (mkF m 6 #[.val (.int p0), .val (.long p1), .second, .val (.int p2), .val (.int p3), .val (.int p4), .val (.int p5), .unset, .unset, .unset, .unset, .unset, .unset, .unset, .unset, .unset, .unset, .unset, .unset, .unset, .unset, .unset, .unset] [(.int v5), (.int (1 : Int32))]))
  refine Dn.st (fun _ kk => XS.iadd X0.here hx rfl (hb hby at_6) rfl (kk)) ?_
  show Dn p e below s _ _ _ (s₁.setTop (mkF m 7 #[.val (.int p0), .val (.long p1), .second, .val (.int p2), .val (.int p3), .val (.int p4), .val (.int p5), .unset, .unset, .unset, .unset, .unset, .unset, .unset, .unset, .unset, .unset, .unset, .unset, .unset, .unset, .unset, .unset] [(.int ((1 : Int32) + v5))]))
  generalize hv6 : (((1 : Int32) + v5) : Int32) = v6
  have q6 : (v6.toInt - (1 + v5.toInt)) % 4294967296 = 0 := by have qq := c_iadd (1 : Int32) v5; rw [hv6] at qq; exact qq
  have r6 := rng32 v6
  show Dn p e below s _ _ _ (s₁.setTop (mkF m 7 #[.val (.int p0), .val (.long p1), .second, .val (.int p2), .val (.int p3), .val (.int p4), .val (.int p5), .unset, .unset, .unset, .unset, .unset, .unset, .unset, .unset, .unset, .unset, .unset, .unset, .unset, .unset, .unset, .unset] [(.int v6)]))
  rcases own_c4 (v := v6) (by omega) (by omega) with hk7 | hk7 | hk7 | hk7
  · subst hk7
    show Dn p e below s _ _ _ (s₁.setTop (mkF m 7 #[.val (.int p0), .val (.long p1), .second, .val (.int p2), .val (.int p3), .val (.int p4), .val (.int p5), .unset, .unset, .unset, .unset, .unset, .unset, .unset, .unset, .unset, .unset, .unset, .unset, .unset, .unset, .unset, .unset] [(.int (1 : Int32))]))
    refine Dn.st (fun _ kk => XS.istore X0.here hx rfl (hb hby at_7) rfl (l' := #[.val (.int p0), .val (.long p1), .second, .val (.int p2), .val (.int p3), .val (.int p4), .val (.int p5), .val (.int (1 : Int32)), .unset, .unset, .unset, .unset, .unset, .unset, .unset, .unset, .unset, .unset, .unset, .unset, .unset, .unset, .unset]) rfl (XS.iloadN X0.here hx rfl (hb hby at_9) rfl  (XS.iconst X0.here hx rfl (hb hby at_10) (XS.iand X0.here hx rfl (hb hby at_11) rfl (kk))))) ?_
    show Dn p e below s _ _ _ (s₁.setTop (mkF m 12 #[.val (.int p0), .val (.long p1), .second, .val (.int p2), .val (.int p3), .val (.int p4), .val (.int p5), .val (.int (1 : Int32)), .unset, .unset, .unset, .unset, .unset, .unset, .unset, .unset, .unset, .unset, .unset, .unset, .unset, .unset, .unset] [(.int (p0 &&& (1 : Int32)))]))
    generalize hv11 : ((p0 &&& (1 : Int32)) : Int32) = v11
    have q11 : v11.toInt = p0.toInt % 2 := by have qq := c_mask p0 (1 : Int32) 1 (by decide) (by decide); rw [hv11] at qq; exact qq
    have r11 := rng32 v11
    show Dn p e below s _ _ _ (s₁.setTop (mkF m 12 #[.val (.int p0), .val (.long p1), .second, .val (.int p2), .val (.int p3), .val (.int p4), .val (.int p5), .val (.int (1 : Int32)), .unset, .unset, .unset, .unset, .unset, .unset, .unset, .unset, .unset, .unset, .unset, .unset, .unset, .unset, .unset] [(.int v11)]))
    by_cases hc12 : v11 = (0 : Int32)
    · have hi12 : v11.toInt = 0 := congrArg Int32.toInt hc12
      refine Dn.st (fun _ kk => XS.ifYes X0.here hx rfl (pc0 := 12) (pc' := 19) rfl (hb hby at_12) rfl ((if0 _ _).trans (teq hc12).1) (by decide) (by decide) (XS.iconst X0.here hx rfl (hb hby at_19) (XS.istore X0.here hx rfl (hb hby at_20) rfl (l' := #[.val (.int p0), .val (.long p1), .second, .val (.int p2), .val (.int p3), .val (.int p4), .val (.int p5), .val (.int (1 : Int32)), .val (.int (0 : Int32)), .unset, .unset, .unset, .unset, .unset, .unset, .unset, .unset, .unset, .unset, .unset, .unset, .unset, .unset]) rfl (XS.iload X0.here hx rfl (hb hby at_22) rfl  (kk))))) ?_
      show Dn p e below s _ _ _ (s₁.setTop (mkF m 24 #[.val (.int p0), .val (.long p1), .second, .val (.int p2), .val (.int p3), .val (.int p4), .val (.int p5), .val (.int (1 : Int32)), .val (.int (0 : Int32)), .unset, .unset, .unset, .unset, .unset, .unset, .unset, .unset, .unset, .unset, .unset, .unset, .unset, .unset] [(.int (0 : Int32))]))
      have hc24 : (0 : Int32) = (0 : Int32) := by decide
      refine Dn.st (fun _ kk => XS.ifYes X0.here hx rfl (pc0 := 24) (pc' := 71) rfl (hb hby at_24) rfl ((if0 _ _).trans (teq hc24).1) (by decide) (by decide) (XS.iloadN X0.here hx rfl (hb hby at_71) rfl  (XS.bipush X0.here hx rfl (hb hby at_72) (XS.ishl X0.here hx rfl (hb hby at_74) rfl (kk))))) ?_
      show Dn p e below s _ _ _ (s₁.setTop (mkF m 75 #[.val (.int p0), .val (.long p1), .second, .val (.int p2), .val (.int p3), .val (.int p4), .val (.int p5), .val (.int (1 : Int32)), .val (.int (0 : Int32)), .unset, .unset, .unset, .unset, .unset, .unset, .unset, .unset, .unset, .unset, .unset, .unset, .unset, .unset] [(.int (p2 <<< ((12 : Int32) &&& 31)))]))
      generalize hv74 : ((p2 <<< ((12 : Int32) &&& 31)) : Int32) = v74
      have q74 : (v74.toInt - p2.toInt * 4096) % 4294967296 = 0 := by have qq := c_ishl p2 (12 : Int32) 12 (by decide); rw [hv74] at qq; exact qq
      have r74 := rng32 v74
      show Dn p e below s _ _ _ (s₁.setTop (mkF m 75 #[.val (.int p0), .val (.long p1), .second, .val (.int p2), .val (.int p3), .val (.int p4), .val (.int p5), .val (.int (1 : Int32)), .val (.int (0 : Int32)), .unset, .unset, .unset, .unset, .unset, .unset, .unset, .unset, .unset, .unset, .unset, .unset, .unset, .unset] [(.int v74)]))
      refine Dn.st (fun _ kk => XS.bipush X0.here hx rfl (hb hby at_75) (XS.ishr X0.here hx rfl (hb hby at_77) rfl (kk))) ?_
      show Dn p e below s _ _ _ (s₁.setTop (mkF m 78 #[.val (.int p0), .val (.long p1), .second, .val (.int p2), .val (.int p3), .val (.int p4), .val (.int p5), .val (.int (1 : Int32)), .val (.int (0 : Int32)), .unset, .unset, .unset, .unset, .unset, .unset, .unset, .unset, .unset, .unset, .unset, .unset, .unset, .unset] [(.int (v74 >>> ((12 : Int32) &&& 31)))]))
      generalize hv77 : ((v74 >>> ((12 : Int32) &&& 31)) : Int32) = v77
      have q77 : v77.toInt = v74.toInt / 4096 := by have qq := c_ishr v74 (12 : Int32) 12 (by decide); rw [hv77] at qq; exact qq
      have r77 := rng32 v77
      show Dn p e below s _ _ _ (s₁.setTop (mkF m 78 #[.val (.int p0), .val (.long p1), .second, .val (.int p2), .val (.int p3), .val (.int p4), .val (.int p5), .val (.int (1 : Int32)), .val (.int (0 : Int32)), .unset, .unset, .unset, .unset, .unset, .unset, .unset, .unset, .unset, .unset, .unset, .unset, .unset, .unset] [(.int v77)]))
      refine Dn.st (fun _ kk => XS.i2l X0.here hx rfl (hb hby at_78) rfl (kk)) ?_
      show Dn p e below s _ _ _ (s₁.setTop (mkF m 79 #[.val (.int p0), .val (.long p1), .second, .val (.int p2), .val (.int p3), .val (.int p4), .val (.int p5), .val (.int (1 : Int32)), .val (.int (0 : Int32)), .unset, .unset, .unset, .unset, .unset, .unset, .unset, .unset, .unset, .unset, .unset, .unset, .unset, .unset] [(.long (v77.toInt64))]))
      generalize hv78 : ((v77.toInt64) : Int64) = v78
      have q78 : v78.toInt = v77.toInt := by have qq := c_i2l v77; rw [hv78] at qq; exact qq
      have r78 := rng64 v78
      show Dn p e below s _ _ _ (s₁.setTop (mkF m 79 #[.val (.int p0), .val (.long p1), .second, .val (.int p2), .val (.int p3), .val (.int p4), .val (.int p5), .val (.int (1 : Int32)), .val (.int (0 : Int32)), .unset, .unset, .unset, .unset, .unset, .unset, .unset, .unset, .unset, .unset, .unset, .unset, .unset, .unset] [(.long v78)]))
      refine Dn.st (fun _ kk => XS.lstore X0.here hx rfl (hb hby at_79) rfl (l' := #[.val (.int p0), .val (.long p1), .second, .val (.int p2), .val (.int p3), .val (.int p4), .val (.int p5), .val (.int (1 : Int32)), .val (.int (0 : Int32)), .val (.long v78), .second, .unset, .unset, .unset, .unset, .unset, .unset, .unset, .unset, .unset, .unset, .unset, .unset]) rfl (XS.iload X0.here hx rfl (hb hby at_81) rfl  (XS.bipush X0.here hx rfl (hb hby at_83) (XS.ishl X0.here hx rfl (hb hby at_85) rfl (kk))))) ?_
      show Dn p e below s _ _ _ (s₁.setTop (mkF m 86 #[.val (.int p0), .val (.long p1), .second, .val (.int p2), .val (.int p3), .val (.int p4), .val (.int p5), .val (.int (1 : Int32)), .val (.int (0 : Int32)), .val (.long v78), .second, .unset, .unset, .unset, .unset, .unset, .unset, .unset, .unset, .unset, .unset, .unset, .unset] [(.int (p3 <<< ((12 : Int32) &&& 31)))]))
      generalize hv85 : ((p3 <<< ((12 : Int32) &&& 31)) : Int32) = v85
      have q85 : (v85.toInt - p3.toInt * 4096) % 4294967296 = 0 := by have qq := c_ishl p3 (12 : Int32) 12 (by decide); rw [hv85] at qq; exact qq
      have r85 := rng32 v85
      show Dn p e below s _ _ _ (s₁.setTop (mkF m 86 #[.val (.int p0), .val (.long p1), .second, .val (.int p2), .val (.int p3), .val (.int p4), .val (.int p5), .val (.int (1 : Int32)), .val (.int (0 : Int32)), .val (.long v78), .second, .unset, .unset, .unset, .unset, .unset, .unset, .unset, .unset, .unset, .unset, .unset, .unset] [(.int v85)]))
      refine Dn.st (fun _ kk => XS.bipush X0.here hx rfl (hb hby at_86) (XS.ishr X0.here hx rfl (hb hby at_88) rfl (kk))) ?_
      show Dn p e below s _ _ _ (s₁.setTop (mkF m 89 #[.val (.int p0), .val (.long p1), .second, .val (.int p2), .val (.int p3), .val (.int p4), .val (.int p5), .val (.int (1 : Int32)), .val (.int (0 : Int32)), .val (.long v78), .second, .unset, .unset, .unset, .unset, .unset, .unset, .unset, .unset, .unset, .unset, .unset, .unset] [(.int (v85 >>> ((12 : Int32) &&& 31)))]))
      generalize hv88 : ((v85 >>> ((12 : Int32) &&& 31)) : Int32) = v88
      have q88 : v88.toInt = v85.toInt / 4096 := by have qq := c_ishr v85 (12 : Int32) 12 (by decide); rw [hv88] at qq; exact qq
      have r88 := rng32 v88
      show Dn p e below s _ _ _ (s₁.setTop (mkF m 89 #[.val (.int p0), .val (.long p1), .second, .val (.int p2), .val (.int p3), .val (.int p4), .val (.int p5), .val (.int (1 : Int32)), .val (.int (0 : Int32)), .val (.long v78), .second, .unset, .unset, .unset, .unset, .unset, .unset, .unset, .unset, .unset, .unset, .unset, .unset] [(.int v88)]))
      refine Dn.st (fun _ kk => XS.i2l X0.here hx rfl (hb hby at_89) rfl (kk)) ?_
      show Dn p e below s _ _ _ (s₁.setTop (mkF m 90 #[.val (.int p0), .val (.long p1), .second, .val (.int p2), .val (.int p3), .val (.int p4), .val (.int p5), .val (.int (1 : Int32)), .val (.int (0 : Int32)), .val (.long v78), .second, .unset, .unset, .unset, .unset, .unset, .unset, .unset, .unset, .unset, .unset, .unset, .unset] [(.long (v88.toInt64))]))
      generalize hv89 : ((v88.toInt64) : Int64) = v89
      have q89 : v89.toInt = v88.toInt := by have qq := c_i2l v88; rw [hv89] at qq; exact qq
      have r89 := rng64 v89
      show Dn p e below s _ _ _ (s₁.setTop (mkF m 90 #[.val (.int p0), .val (.long p1), .second, .val (.int p2), .val (.int p3), .val (.int p4), .val (.int p5), .val (.int (1 : Int32)), .val (.int (0 : Int32)), .val (.long v78), .second, .unset, .unset, .unset, .unset, .unset, .unset, .unset, .unset, .unset, .unset, .unset, .unset] [(.long v89)]))
      refine Dn.st (fun _ kk => XS.lstore X0.here hx rfl (hb hby at_90) rfl (l' := #[.val (.int p0), .val (.long p1), .second, .val (.int p2), .val (.int p3), .val (.int p4), .val (.int p5), .val (.int (1 : Int32)), .val (.int (0 : Int32)), .val (.long v78), .second, .val (.long v89), .second, .unset, .unset, .unset, .unset, .unset, .unset, .unset, .unset, .unset, .unset]) rfl (XS.iload X0.here hx rfl (hb hby at_92) rfl  (XS.bipush X0.here hx rfl (hb hby at_94) (XS.ishl X0.here hx rfl (hb hby at_96) rfl (kk))))) ?_
      show Dn p e below s _ _ _ (s₁.setTop (mkF m 97 #[.val (.int p0), .val (.long p1), .second, .val (.int p2), .val (.int p3), .val (.int p4), .val (.int p5), .val (.int (1 : Int32)), .val (.int (0 : Int32)), .val (.long v78), .second, .val (.long v89), .second, .unset, .unset, .unset, .unset, .unset, .unset, .unset, .unset, .unset, .unset] [(.int (p4 <<< ((12 : Int32) &&& 31)))]))
      generalize hv96 : ((p4 <<< ((12 : Int32) &&& 31)) : Int32) = v96
      have q96 : (v96.toInt - p4.toInt * 4096) % 4294967296 = 0 := by have qq := c_ishl p4 (12 : Int32) 12 (by decide); rw [hv96] at qq; exact qq
      have r96 := rng32 v96
      show Dn p e below s _ _ _ (s₁.setTop (mkF m 97 #[.val (.int p0), .val (.long p1), .second, .val (.int p2), .val (.int p3), .val (.int p4), .val (.int p5), .val (.int (1 : Int32)), .val (.int (0 : Int32)), .val (.long v78), .second, .val (.long v89), .second, .unset, .unset, .unset, .unset, .unset, .unset, .unset, .unset, .unset, .unset] [(.int v96)]))
      refine Dn.st (fun _ kk => XS.bipush X0.here hx rfl (hb hby at_97) (XS.ishr X0.here hx rfl (hb hby at_99) rfl (kk))) ?_
      show Dn p e below s _ _ _ (s₁.setTop (mkF m 100 #[.val (.int p0), .val (.long p1), .second, .val (.int p2), .val (.int p3), .val (.int p4), .val (.int p5), .val (.int (1 : Int32)), .val (.int (0 : Int32)), .val (.long v78), .second, .val (.long v89), .second, .unset, .unset, .unset, .unset, .unset, .unset, .unset, .unset, .unset, .unset] [(.int (v96 >>> ((12 : Int32) &&& 31)))]))
      generalize hv99 : ((v96 >>> ((12 : Int32) &&& 31)) : Int32) = v99
      have q99 : v99.toInt = v96.toInt / 4096 := by have qq := c_ishr v96 (12 : Int32) 12 (by decide); rw [hv99] at qq; exact qq
      have r99 := rng32 v99
      show Dn p e below s _ _ _ (s₁.setTop (mkF m 100 #[.val (.int p0), .val (.long p1), .second, .val (.int p2), .val (.int p3), .val (.int p4), .val (.int p5), .val (.int (1 : Int32)), .val (.int (0 : Int32)), .val (.long v78), .second, .val (.long v89), .second, .unset, .unset, .unset, .unset, .unset, .unset, .unset, .unset, .unset, .unset] [(.int v99)]))
      refine Dn.st (fun _ kk => XS.i2l X0.here hx rfl (hb hby at_100) rfl (kk)) ?_
      show Dn p e below s _ _ _ (s₁.setTop (mkF m 101 #[.val (.int p0), .val (.long p1), .second, .val (.int p2), .val (.int p3), .val (.int p4), .val (.int p5), .val (.int (1 : Int32)), .val (.int (0 : Int32)), .val (.long v78), .second, .val (.long v89), .second, .unset, .unset, .unset, .unset, .unset, .unset, .unset, .unset, .unset, .unset] [(.long (v99.toInt64))]))
      generalize hv100 : ((v99.toInt64) : Int64) = v100
      have q100 : v100.toInt = v99.toInt := by have qq := c_i2l v99; rw [hv100] at qq; exact qq
      have r100 := rng64 v100
      show Dn p e below s _ _ _ (s₁.setTop (mkF m 101 #[.val (.int p0), .val (.long p1), .second, .val (.int p2), .val (.int p3), .val (.int p4), .val (.int p5), .val (.int (1 : Int32)), .val (.int (0 : Int32)), .val (.long v78), .second, .val (.long v89), .second, .unset, .unset, .unset, .unset, .unset, .unset, .unset, .unset, .unset, .unset] [(.long v100)]))
      refine Dn.st (fun _ kk => XS.lstore X0.here hx rfl (hb hby at_101) rfl (l' := #[.val (.int p0), .val (.long p1), .second, .val (.int p2), .val (.int p3), .val (.int p4), .val (.int p5), .val (.int (1 : Int32)), .val (.int (0 : Int32)), .val (.long v78), .second, .val (.long v89), .second, .val (.long v100), .second, .unset, .unset, .unset, .unset, .unset, .unset, .unset, .unset]) rfl (XS.iload X0.here hx rfl (hb hby at_103) rfl  (XS.bipush X0.here hx rfl (hb hby at_105) (XS.ishl X0.here hx rfl (hb hby at_107) rfl (kk))))) ?_
      show Dn p e below s _ _ _ (s₁.setTop (mkF m 108 #[.val (.int p0), .val (.long p1), .second, .val (.int p2), .val (.int p3), .val (.int p4), .val (.int p5), .val (.int (1 : Int32)), .val (.int (0 : Int32)), .val (.long v78), .second, .val (.long v89), .second, .val (.long v100), .second, .unset, .unset, .unset, .unset, .unset, .unset, .unset, .unset] [(.int (p5 <<< ((12 : Int32) &&& 31)))]))
      generalize hv107 : ((p5 <<< ((12 : Int32) &&& 31)) : Int32) = v107
      have q107 : (v107.toInt - p5.toInt * 4096) % 4294967296 = 0 := by have qq := c_ishl p5 (12 : Int32) 12 (by decide); rw [hv107] at qq; exact qq
      have r107 := rng32 v107
      show Dn p e below s _ _ _ (s₁.setTop (mkF m 108 #[.val (.int p0), .val (.long p1), .second, .val (.int p2), .val (.int p3), .val (.int p4), .val (.int p5), .val (.int (1 : Int32)), .val (.int (0 : Int32)), .val (.long v78), .second, .val (.long v89), .second, .val (.long v100), .second, .unset, .unset, .unset, .unset, .unset, .unset, .unset, .unset] [(.int v107)]))
      refine Dn.st (fun _ kk => XS.bipush X0.here hx rfl (hb hby at_108) (XS.ishr X0.here hx rfl (hb hby at_110) rfl (kk))) ?_
      show Dn p e below s _ _ _ (s₁.setTop (mkF m 111 #[.val (.int p0), .val (.long p1), .second, .val (.int p2), .val (.int p3), .val (.int p4), .val (.int p5), .val (.int (1 : Int32)), .val (.int (0 : Int32)), .val (.long v78), .second, .val (.long v89), .second, .val (.long v100), .second, .unset, .unset, .unset, .unset, .unset, .unset, .unset, .unset] [(.int (v107 >>> ((12 : Int32) &&& 31)))]))
      generalize hv110 : ((v107 >>> ((12 : Int32) &&& 31)) : Int32) = v110
      have q110 : v110.toInt = v107.toInt / 4096 := by have qq := c_ishr v107 (12 : Int32) 12 (by decide); rw [hv110] at qq; exact qq
      have r110 := rng32 v110
      show Dn p e below s _ _ _ (s₁.setTop (mkF m 111 #[.val (.int p0), .val (.long p1), .second, .val (.int p2), .val (.int p3), .val (.int p4), .val (.int p5), .val (.int (1 : Int32)), .val (.int (0 : Int32)), .val (.long v78), .second, .val (.long v89), .second, .val (.long v100), .second, .unset, .unset, .unset, .unset, .unset, .unset, .unset, .unset] [(.int v110)]))
      refine Dn.st (fun _ kk => XS.i2l X0.here hx rfl (hb hby at_111) rfl (kk)) ?_
      show Dn p e below s _ _ _ (s₁.setTop (mkF m 112 #[.val (.int p0), .val (.long p1), .second, .val (.int p2), .val (.int p3), .val (.int p4), .val (.int p5), .val (.int (1 : Int32)), .val (.int (0 : Int32)), .val (.long v78), .second, .val (.long v89), .second, .val (.long v100), .second, .unset, .unset, .unset, .unset, .unset, .unset, .unset, .unset] [(.long (v110.toInt64))]))
      generalize hv111 : ((v110.toInt64) : Int64) = v111
      have q111 : v111.toInt = v110.toInt := by have qq := c_i2l v110; rw [hv111] at qq; exact qq
      have r111 := rng64 v111
      show Dn p e below s _ _ _ (s₁.setTop (mkF m 112 #[.val (.int p0), .val (.long p1), .second, .val (.int p2), .val (.int p3), .val (.int p4), .val (.int p5), .val (.int (1 : Int32)), .val (.int (0 : Int32)), .val (.long v78), .second, .val (.long v89), .second, .val (.long v100), .second, .unset, .unset, .unset, .unset, .unset, .unset, .unset, .unset] [(.long v111)]))
      refine Dn.st (fun _ kk => XS.lstore X0.here hx rfl (hb hby at_112) rfl (l' := #[.val (.int p0), .val (.long p1), .second, .val (.int p2), .val (.int p3), .val (.int p4), .val (.int p5), .val (.int (1 : Int32)), .val (.int (0 : Int32)), .val (.long v78), .second, .val (.long v89), .second, .val (.long v100), .second, .val (.long v111), .second, .unset, .unset, .unset, .unset, .unset, .unset]) rfl (XS.lload X0.here hx rfl (hb hby at_114) rfl  (XS.lstore X0.here hx rfl (hb hby at_116) rfl (l' := #[.val (.int p0), .val (.long p1), .second, .val (.int p2), .val (.int p3), .val (.int p4), .val (.int p5), .val (.int (1 : Int32)), .val (.int (0 : Int32)), .val (.long v78), .second, .val (.long v89), .second, .val (.long v100), .second, .val (.long v111), .second, .val (.long v78), .second, .unset, .unset, .unset, .unset]) rfl (XS.iload X0.here hx rfl (hb hby at_118) rfl  (XS.iconst X0.here hx rfl (hb hby at_120) (kk)))))) ?_
      show Dn p e below s _ _ _ (s₁.setTop (mkF m 121 #[.val (.int p0), .val (.long p1), .second, .val (.int p2), .val (.int p3), .val (.int p4), .val (.int p5), .val (.int (1 : Int32)), .val (.int (0 : Int32)), .val (.long v78), .second, .val (.long v89), .second, .val (.long v100), .second, .val (.long v111), .second, .val (.long v78), .second, .unset, .unset, .unset, .unset] [(.int (2 : Int32)), (.int (1 : Int32))]))
      have hc121 : (1 : Int32) < (2 : Int32) := by decide
      refine Dn.st (fun _ kk => XS.icmpYes X0.here hx rfl (pc0 := 121) (pc' := 131) rfl (hb hby at_121) rfl (tlt hc121).1 (by decide) (by decide) (XS.iload X0.here hx rfl (hb hby at_131) rfl  (XS.iconst X0.here hx rfl (hb hby at_133) (kk)))) ?_
      show Dn p e below s _ _ _ (s₁.setTop (mkF m 134 #[.val (.int p0), .val (.long p1), .second, .val (.int p2), .val (.int p3), .val (.int p4), .val (.int p5), .val (.int (1 : Int32)), .val (.int (0 : Int32)), .val (.long v78), .second, .val (.long v89), .second, .val (.long v100), .second, .val (.long v111), .second, .val (.long v78), .second, .unset, .unset, .unset, .unset] [(.int (3 : Int32)), (.int (1 : Int32))]))
      have hc134 : (1 : Int32) < (3 : Int32) := by decide
      refine Dn.st (fun _ kk => XS.icmpYes X0.here hx rfl (pc0 := 134) (pc' := 144) rfl (hb hby at_134) rfl (tlt hc134).1 (by decide) (by decide) (XS.iload X0.here hx rfl (hb hby at_144) rfl  (XS.iconst X0.here hx rfl (hb hby at_146) (kk)))) ?_
      show Dn p e below s _ _ _ (s₁.setTop (mkF m 147 #[.val (.int p0), .val (.long p1), .second, .val (.int p2), .val (.int p3), .val (.int p4), .val (.int p5), .val (.int (1 : Int32)), .val (.int (0 : Int32)), .val (.long v78), .second, .val (.long v89), .second, .val (.long v100), .second, .val (.long v111), .second, .val (.long v78), .second, .unset, .unset, .unset, .unset] [(.int (4 : Int32)), (.int (1 : Int32))]))
      have hc147 : (1 : Int32) < (4 : Int32) := by decide
      refine Dn.st (fun _ kk => XS.icmpYes X0.here hx rfl (pc0 := 147) (pc' := 157) rfl (hb hby at_147) rfl (tlt hc147).1 (by decide) (by decide) (XS.iload X0.here hx rfl (hb hby at_157) rfl  (XS.lload X0.here hx rfl (hb hby at_159) rfl  (kk)))) ?_
      show Dn p e below s _ _ _ (s₁.setTop (mkF m 161 #[.val (.int p0), .val (.long p1), .second, .val (.int p2), .val (.int p3), .val (.int p4), .val (.int p5), .val (.int (1 : Int32)), .val (.int (0 : Int32)), .val (.long v78), .second, .val (.long v89), .second, .val (.long v100), .second, .val (.long v111), .second, .val (.long v78), .second, .unset, .unset, .unset, .unset] [(.long v78), (.int (1 : Int32))]))
      have d161 := DS.l2d (v := v78) (by omega)
      refine Dn.st (fun _ kk => XS.l2dS X0.here hx rfl (hb hby at_161) rfl rfl (kk)) ?_
      show Dn p e below s _ _ _ (s₁.setTop (mkF m 162 #[.val (.int p0), .val (.long p1), .second, .val (.int p2), .val (.int p3), .val (.int p4), .val (.int p5), .val (.int (1 : Int32)), .val (.int (0 : Int32)), .val (.long v78), .second, .val (.long v89), .second, .val (.long v100), .second, .val (.long v111), .second, .val (.long v78), .second, .unset, .unset, .unset, .unset] [(.double (FP.l2d v78)), (.int (1 : Int32))]))
      generalize hv161 : ((FP.l2d v78) : UInt64) = v161 at d161 ⊢
      show Dn p e below s _ _ _ (s₁.setTop (mkF m 162 #[.val (.int p0), .val (.long p1), .second, .val (.int p2), .val (.int p3), .val (.int p4), .val (.int p5), .val (.int (1 : Int32)), .val (.int (0 : Int32)), .val (.long v78), .second, .val (.long v89), .second, .val (.long v100), .second, .val (.long v111), .second, .val (.long v78), .second, .unset, .unset, .unset, .unset] [(.double v161), (.int (1 : Int32))]))
      refine Dn.st (fun _ kk => XS.lload X0.here hx rfl (hb hby at_162) rfl  (kk)) ?_
      show Dn p e below s _ _ _ (s₁.setTop (mkF m 164 #[.val (.int p0), .val (.long p1), .second, .val (.int p2), .val (.int p3), .val (.int p4), .val (.int p5), .val (.int (1 : Int32)), .val (.int (0 : Int32)), .val (.long v78), .second, .val (.long v89), .second, .val (.long v100), .second, .val (.long v111), .second, .val (.long v78), .second, .unset, .unset, .unset, .unset] [(.long v89), (.double v161), (.int (1 : Int32))]))
      have d164 := DS.l2d (v := v89) (by omega)
      refine Dn.st (fun _ kk => XS.l2dS X0.here hx rfl (hb hby at_164) rfl rfl (kk)) ?_
      show Dn p e below s _ _ _ (s₁.setTop (mkF m 165 #[.val (.int p0), .val (.long p1), .second, .val (.int p2), .val (.int p3), .val (.int p4), .val (.int p5), .val (.int (1 : Int32)), .val (.int (0 : Int32)), .val (.long v78), .second, .val (.long v89), .second, .val (.long v100), .second, .val (.long v111), .second, .val (.long v78), .second, .unset, .unset, .unset, .unset] [(.double (FP.l2d v89)), (.double v161), (.int (1 : Int32))]))
      generalize hv164 : ((FP.l2d v89) : UInt64) = v164 at d164 ⊢
      show Dn p e below s _ _ _ (s₁.setTop (mkF m 165 #[.val (.int p0), .val (.long p1), .second, .val (.int p2), .val (.int p3), .val (.int p4), .val (.int p5), .val (.int (1 : Int32)), .val (.int (0 : Int32)), .val (.long v78), .second, .val (.long v89), .second, .val (.long v100), .second, .val (.long v111), .second, .val (.long v78), .second, .unset, .unset, .unset, .unset] [(.double v164), (.double v161), (.int (1 : Int32))]))
      refine Dn.st (fun _ kk => XS.lload X0.here hx rfl (hb hby at_165) rfl  (kk)) ?_
      show Dn p e below s _ _ _ (s₁.setTop (mkF m 167 #[.val (.int p0), .val (.long p1), .second, .val (.int p2), .val (.int p3), .val (.int p4), .val (.int p5), .val (.int (1 : Int32)), .val (.int (0 : Int32)), .val (.long v78), .second, .val (.long v89), .second, .val (.long v100), .second, .val (.long v111), .second, .val (.long v78), .second, .unset, .unset, .unset, .unset] [(.long v100), (.double v164), (.double v161), (.int (1 : Int32))]))
      have d167 := DS.l2d (v := v100) (by omega)
      refine Dn.st (fun _ kk => XS.l2dS X0.here hx rfl (hb hby at_167) rfl rfl (kk)) ?_
      show Dn p e below s _ _ _ (s₁.setTop (mkF m 168 #[.val (.int p0), .val (.long p1), .second, .val (.int p2), .val (.int p3), .val (.int p4), .val (.int p5), .val (.int (1 : Int32)), .val (.int (0 : Int32)), .val (.long v78), .second, .val (.long v89), .second, .val (.long v100), .second, .val (.long v111), .second, .val (.long v78), .second, .unset, .unset, .unset, .unset] [(.double (FP.l2d v100)), (.double v164), (.double v161), (.int (1 : Int32))]))
      generalize hv167 : ((FP.l2d v100) : UInt64) = v167 at d167 ⊢
      show Dn p e below s _ _ _ (s₁.setTop (mkF m 168 #[.val (.int p0), .val (.long p1), .second, .val (.int p2), .val (.int p3), .val (.int p4), .val (.int p5), .val (.int (1 : Int32)), .val (.int (0 : Int32)), .val (.long v78), .second, .val (.long v89), .second, .val (.long v100), .second, .val (.long v111), .second, .val (.long v78), .second, .unset, .unset, .unset, .unset] [(.double v167), (.double v164), (.double v161), (.int (1 : Int32))]))
      refine Dn.st (fun _ kk => XS.lload X0.here hx rfl (hb hby at_168) rfl  (kk)) ?_
      show Dn p e below s _ _ _ (s₁.setTop (mkF m 170 #[.val (.int p0), .val (.long p1), .second, .val (.int p2), .val (.int p3), .val (.int p4), .val (.int p5), .val (.int (1 : Int32)), .val (.int (0 : Int32)), .val (.long v78), .second, .val (.long v89), .second, .val (.long v100), .second, .val (.long v111), .second, .val (.long v78), .second, .unset, .unset, .unset, .unset] [(.long v111), (.double v167), (.double v164), (.double v161), (.int (1 : Int32))]))
      have d170 := DS.l2d (v := v111) (by omega)
      refine Dn.st (fun _ kk => XS.l2dS X0.here hx rfl (hb hby at_170) rfl rfl (kk)) ?_
      show Dn p e below s _ _ _ (s₁.setTop (mkF m 171 #[.val (.int p0), .val (.long p1), .second, .val (.int p2), .val (.int p3), .val (.int p4), .val (.int p5), .val (.int (1 : Int32)), .val (.int (0 : Int32)), .val (.long v78), .second, .val (.long v89), .second, .val (.long v100), .second, .val (.long v111), .second, .val (.long v78), .second, .unset, .unset, .unset, .unset] [(.double (FP.l2d v111)), (.double v167), (.double v164), (.double v161), (.int (1 : Int32))]))
      generalize hv170 : ((FP.l2d v111) : UInt64) = v170 at d170 ⊢
      show Dn p e below s _ _ _ (s₁.setTop (mkF m 171 #[.val (.int p0), .val (.long p1), .second, .val (.int p2), .val (.int p3), .val (.int p4), .val (.int p5), .val (.int (1 : Int32)), .val (.int (0 : Int32)), .val (.long v78), .second, .val (.long v89), .second, .val (.long v100), .second, .val (.long v111), .second, .val (.long v78), .second, .unset, .unset, .unset, .unset] [(.double v170), (.double v167), (.double v164), (.double v161), (.int (1 : Int32))]))
      obtain ⟨_, _, ⟨T171, L171, k171, n171⟩, -, X171, ⟨Lc171, hQ171, l171, y171, z171⟩, st171⟩ := Jvm.LawKit.callS X0 hx (y := (⟨"com/example/listino/listino/stats/MomentsMeanPinLaw", "build", "(IDDDD)[D"⟩ : MethodName)) hown (mvT hZ (hw _ (List.mem_of_getElem? (i := 0) rfl))) (mvT hZ (hw _ (List.mem_of_getElem? (i := 1) rfl))) (mvT hZ (hw _ (List.mem_of_getElem? (i := 2) rfl))) (mvT hZ (hw _ (List.mem_of_getElem? (i := 3) rfl))) (by decide) (backOf (W := 0) (rm1_1 l Z a0 hw []  v161 v164 v167 v170 h0 n0 Z0 ) hZ (hw _ (List.mem_of_getElem? (i := 3) rfl)) (hw _ (List.mem_of_getElem? (i := 2) rfl)) (by decide) (by decide)) (g := (mkF m 171 #[.val (.int p0), .val (.long p1), .second, .val (.int p2), .val (.int p3), .val (.int p4), .val (.int p5), .val (.int (1 : Int32)), .val (.int (0 : Int32)), .val (.long v78), .second, .val (.long v89), .second, .val (.long v100), .second, .val (.long v111), .second, .val (.long v78), .second, .unset, .unset, .unset, .unset] [(.double v170), (.double v167), (.double v164), (.double v161), (.int (1 : Int32))])) rfl (by rw [hml]; rfl) (argsL := [(.int (1 : Int32)), (.double v161), (.double v164), (.double v167), (.double v170)]) (rest := []) (lenOf pd0 rfl) rfl (by show 2 * 0 + _ ≤ _; exact Nat.le_of_eq rfl) (hb hby at_171) (fun _ _ => ⟨rfl, e0, (by decide : 0 + 1 ≤ _), (by decide : 0 + 1 ≤ _)⟩)
      dsimp only [Pt.U, Pt.locs, Pt.cells, Pt.slots] at X171 l171 y171 z171 st171 hQ171
      subst l171 y171 z171
      obtain ⟨bb171, kb171, rfl, gz171, Nq171, K171, V_bb171⟩ := hQ171
      have N171 := Fr.app N0 Nq171
      refine Dn.st st171 ?_
      have Z171 : n0 ≤ T171.heap.size := Nat.le_trans Z0 K171.1
      show Dn p e below s _ _ _ (T171.setTop (mkF m 174 #[.val (.int p0), .val (.long p1), .second, .val (.int p2), .val (.int p3), .val (.int p4), .val (.int p5), .val (.int (1 : Int32)), .val (.int (0 : Int32)), .val (.long v78), .second, .val (.long v89), .second, .val (.long v100), .second, .val (.long v111), .second, .val (.long v78), .second, .unset, .unset, .unset, .unset] [(.ref bb171)]))
      obtain ⟨_, _, ⟨T174, L174, k174, n174⟩, -, X174, ⟨Lc174, hQ174, l174, y174, z174⟩, st174⟩ := Jvm.LawKit.callS X171 hx (y := (⟨"com/example/listino/listino/stats/Moments", "mean", "([D)D"⟩ : MethodName)) hown (mvT hZ (hw _ (List.mem_of_getElem? (i := 5) rfl))) (mvT hZ (hw _ (List.mem_of_getElem? (i := 6) rfl))) (mvT hZ (hw _ (List.mem_of_getElem? (i := 7) rfl))) (mvT hZ (hw _ (List.mem_of_getElem? (i := 8) rfl))) (by decide) (backOf (W := 0) (rm2E_1 l Z a0 hw [] bb171 kb171 v161 v78.toInt (v78.toInt * 4) T171.heap n0 Z171 V_bb171 d161 ⟨by omega, by omega⟩ (by omega)) hZ (hw _ (List.mem_of_getElem? (i := 8) rfl)) (hw _ (List.mem_of_getElem? (i := 7) rfl)) (by decide) (by decide)) (g := (mkF m 174 #[.val (.int p0), .val (.long p1), .second, .val (.int p2), .val (.int p3), .val (.int p4), .val (.int p5), .val (.int (1 : Int32)), .val (.int (0 : Int32)), .val (.long v78), .second, .val (.long v89), .second, .val (.long v100), .second, .val (.long v111), .second, .val (.long v78), .second, .unset, .unset, .unset, .unset] [(.ref bb171)])) rfl (by rw [hml]; rfl) (argsL := [(.ref bb171)]) (rest := []) (lenOf pd1 rfl) rfl (by show 2 * 0 + _ ≤ _; exact Nat.le_of_eq rfl) (hb hby at_174) (fun _ _ => ⟨rfl, rfl, (by decide : 1 + 0 ≤ _), (by decide : 1 + 0 ≤ _)⟩)
      dsimp only [Pt.U, Pt.locs, Pt.cells, Pt.slots] at X174 l174 y174 z174 st174 hQ174
      subst l174 y174 z174
      obtain ⟨z174, rfl, d174, Nq174, hh174⟩ := hQ174
      have N174 := Fr.app N171 Nq174
      refine Dn.st st174 ?_
      show Dn p e below s _ _ _ (T174.setTop (mkF m 177 #[.val (.int p0), .val (.long p1), .second, .val (.int p2), .val (.int p3), .val (.int p4), .val (.int p5), .val (.int (1 : Int32)), .val (.int (0 : Int32)), .val (.long v78), .second, .val (.long v89), .second, .val (.long v100), .second, .val (.long v111), .second, .val (.long v78), .second, .unset, .unset, .unset, .unset] [(.double z174)]))
      refine Dn.st (fun _ kk => XS.dstore X174.here hx rfl (hb hby at_177) rfl (l' := #[.val (.int p0), .val (.long p1), .second, .val (.int p2), .val (.int p3), .val (.int p4), .val (.int p5), .val (.int (1 : Int32)), .val (.int (0 : Int32)), .val (.long v78), .second, .val (.long v89), .second, .val (.long v100), .second, .val (.long v111), .second, .val (.long v78), .second, .val (.double z174), .second, .unset, .unset]) rfl (XS.iload X174.here hx rfl (hb hby at_179) rfl  (XS.iconst X174.here hx rfl (hb hby at_181) (kk)))) ?_
      show Dn p e below s _ _ _ (T174.setTop (mkF m 182 #[.val (.int p0), .val (.long p1), .second, .val (.int p2), .val (.int p3), .val (.int p4), .val (.int p5), .val (.int (1 : Int32)), .val (.int (0 : Int32)), .val (.long v78), .second, .val (.long v89), .second, .val (.long v100), .second, .val (.long v111), .second, .val (.long v78), .second, .val (.double z174), .second, .unset, .unset] [(.int (3 : Int32)), (.int (1 : Int32))]))
      have hc182 : ¬ ((1 : Int32) = (3 : Int32)) := by decide
      refine Dn.st (fun _ kk => XS.icmpYes X174.here hx rfl (pc0 := 182) (pc' := 196) rfl (hb hby at_182) rfl (feq hc182).2 (by decide) (by decide) (XS.dload X174.here hx rfl (hb hby at_196) rfl  (XS.lload X174.here hx rfl (hb hby at_198) rfl  (kk)))) ?_
      show Dn p e below s _ _ _ (T174.setTop (mkF m 200 #[.val (.int p0), .val (.long p1), .second, .val (.int p2), .val (.int p3), .val (.int p4), .val (.int p5), .val (.int (1 : Int32)), .val (.int (0 : Int32)), .val (.long v78), .second, .val (.long v89), .second, .val (.long v100), .second, .val (.long v111), .second, .val (.long v78), .second, .val (.double z174), .second, .unset, .unset] [(.long v78), (.double z174)]))
      have d200 := DS.l2d (v := v78) (by omega)
      refine Dn.st (fun _ kk => XS.l2dS X174.here hx rfl (hb hby at_200) rfl rfl (kk)) ?_
      show Dn p e below s _ _ _ (T174.setTop (mkF m 201 #[.val (.int p0), .val (.long p1), .second, .val (.int p2), .val (.int p3), .val (.int p4), .val (.int p5), .val (.int (1 : Int32)), .val (.int (0 : Int32)), .val (.long v78), .second, .val (.long v89), .second, .val (.long v100), .second, .val (.long v111), .second, .val (.long v78), .second, .val (.double z174), .second, .unset, .unset] [(.double (FP.l2d v78)), (.double z174)]))
      generalize hv200 : ((FP.l2d v78) : UInt64) = v200 at d200 ⊢
      show Dn p e below s _ _ _ (T174.setTop (mkF m 201 #[.val (.int p0), .val (.long p1), .second, .val (.int p2), .val (.int p3), .val (.int p4), .val (.int p5), .val (.int (1 : Int32)), .val (.int (0 : Int32)), .val (.long v78), .second, .val (.long v89), .second, .val (.long v100), .second, .val (.long v111), .second, .val (.long v78), .second, .val (.double z174), .second, .unset, .unset] [(.double v200), (.double z174)]))
      refine Dn.st (fun _ kk => XS.iload X174.here hx rfl (hb hby at_201) rfl  (kk)) ?_
      show Dn p e below s _ _ _ (T174.setTop (mkF m 203 #[.val (.int p0), .val (.long p1), .second, .val (.int p2), .val (.int p3), .val (.int p4), .val (.int p5), .val (.int (1 : Int32)), .val (.int (0 : Int32)), .val (.long v78), .second, .val (.long v89), .second, .val (.long v100), .second, .val (.long v111), .second, .val (.long v78), .second, .val (.double z174), .second, .unset, .unset] [(.int (1 : Int32)), (.double v200), (.double z174)]))
      have d203 := DS.i2d (1 : Int32)
      refine Dn.st (fun _ kk => XS.i2dS X174.here hx rfl (hb hby at_203) rfl rfl (kk)) ?_
      show Dn p e below s _ _ _ (T174.setTop (mkF m 204 #[.val (.int p0), .val (.long p1), .second, .val (.int p2), .val (.int p3), .val (.int p4), .val (.int p5), .val (.int (1 : Int32)), .val (.int (0 : Int32)), .val (.long v78), .second, .val (.long v89), .second, .val (.long v100), .second, .val (.long v111), .second, .val (.long v78), .second, .val (.double z174), .second, .unset, .unset] [(.double (FP.i2d (1 : Int32))), (.double v200), (.double z174)]))
      generalize hv203 : ((FP.i2d (1 : Int32)) : UInt64) = v203 at d203 ⊢
      show Dn p e below s _ _ _ (T174.setTop (mkF m 204 #[.val (.int p0), .val (.long p1), .second, .val (.int p2), .val (.int p3), .val (.int p4), .val (.int p5), .val (.int (1 : Int32)), .val (.int (0 : Int32)), .val (.long v78), .second, .val (.long v89), .second, .val (.long v100), .second, .val (.long v111), .second, .val (.long v78), .second, .val (.double z174), .second, .unset, .unset] [(.double v203), (.double v200), (.double z174)]))
      have d204 : DS 2 (v78.toInt * 4) (FP.ddiv v200 v203) := DS.div (n := 2) (Q := (v78.toInt * 4)) d200 (DS.cast (i' := 1) d203 rfl (by decide)) (by decide) (by show _ * 4 = _ * 1; omega) (by omega) (by decide)
      refine Dn.st (fun _ kk => XS.ddivS X174.here hx rfl (hb hby at_204) rfl d204.nn rfl (kk)) ?_
      show Dn p e below s _ _ _ (T174.setTop (mkF m 205 #[.val (.int p0), .val (.long p1), .second, .val (.int p2), .val (.int p3), .val (.int p4), .val (.int p5), .val (.int (1 : Int32)), .val (.int (0 : Int32)), .val (.long v78), .second, .val (.long v89), .second, .val (.long v100), .second, .val (.long v111), .second, .val (.long v78), .second, .val (.double z174), .second, .unset, .unset] [(.double (FP.ddiv v200 v203)), (.double z174)]))
      generalize hv204 : ((FP.ddiv v200 v203) : UInt64) = v204 at d204 ⊢
      show Dn p e below s _ _ _ (T174.setTop (mkF m 205 #[.val (.int p0), .val (.long p1), .second, .val (.int p2), .val (.int p3), .val (.int p4), .val (.int p5), .val (.int (1 : Int32)), .val (.int (0 : Int32)), .val (.long v78), .second, .val (.long v89), .second, .val (.long v100), .second, .val (.long v111), .second, .val (.long v78), .second, .val (.double z174), .second, .unset, .unset] [(.double v204), (.double z174)]))
      refine Dn.st (fun _ kk => XS.dcmpS X174.here hx rfl (hb hby at_205) rfl (DS.cmpV d174 d204 _) (kk)) ?_
      show Dn p e below s _ _ _ (T174.setTop (mkF m 206 #[.val (.int p0), .val (.long p1), .second, .val (.int p2), .val (.int p3), .val (.int p4), .val (.int p5), .val (.int (1 : Int32)), .val (.int (0 : Int32)), .val (.long v78), .second, .val (.long v89), .second, .val (.long v100), .second, .val (.long v111), .second, .val (.long v78), .second, .val (.double z174), .second, .unset, .unset] [(.int (c3 (v78.toInt * 4) (v78.toInt * 4)))]))
      have hc206 : (c3 (v78.toInt * 4) (v78.toInt * 4)) = (0 : Int32) := (c3_eq _ _).mpr rfl
      refine Dn.st (fun _ kk => XS.ifNo X174.here hx rfl (hb hby at_206) rfl ((if0 _ _).trans (teq hc206).2) (XS.iconst X174.here hx rfl (hb hby at_209) (XS.goto X174.here hx rfl (pc0 := 210) (pc' := 214) rfl (hb hby at_210) (by decide) (by decide) (kk)))) ?_
      show Dn p e below s _ _ _ (T174.setTop (mkF m 214 #[.val (.int p0), .val (.long p1), .second, .val (.int p2), .val (.int p3), .val (.int p4), .val (.int p5), .val (.int (1 : Int32)), .val (.int (0 : Int32)), .val (.long v78), .second, .val (.long v89), .second, .val (.long v100), .second, .val (.long v111), .second, .val (.long v78), .second, .val (.double z174), .second, .unset, .unset] [(.int (1 : Int32))]))
      exact Dn.ret X174 hlk hx hret rfl (Or.inl ⟨rfl, Or.inr (Or.inl rfl), _, rfl⟩) (hb hby at_214) (by rw [hh174]; exact ⟨rfl, N174⟩) (by decide) (by decide)
    · have hi12 : ¬ v11.toInt = 0 := fun qq => hc12 (Int32.toInt_inj.mp qq)
      refine Dn.st (fun _ kk => XS.ifNo X0.here hx rfl (hb hby at_12) rfl ((if0 _ _).trans (feq hc12).1) (XS.iconst X0.here hx rfl (hb hby at_15) (XS.goto X0.here hx rfl (pc0 := 16) (pc' := 20) rfl (hb hby at_16) (by decide) (by decide) (XS.istore X0.here hx rfl (hb hby at_20) rfl (l' := #[.val (.int p0), .val (.long p1), .second, .val (.int p2), .val (.int p3), .val (.int p4), .val (.int p5), .val (.int (1 : Int32)), .val (.int (1 : Int32)), .unset, .unset, .unset, .unset, .unset, .unset, .unset, .unset, .unset, .unset, .unset, .unset, .unset, .unset]) rfl (XS.iload X0.here hx rfl (hb hby at_22) rfl  (kk)))))) ?_
      show Dn p e below s _ _ _ (s₁.setTop (mkF m 24 #[.val (.int p0), .val (.long p1), .second, .val (.int p2), .val (.int p3), .val (.int p4), .val (.int p5), .val (.int (1 : Int32)), .val (.int (1 : Int32)), .unset, .unset, .unset, .unset, .unset, .unset, .unset, .unset, .unset, .unset, .unset, .unset, .unset, .unset] [(.int (1 : Int32))]))
      have hc24 : ¬ ((1 : Int32) = (0 : Int32)) := by decide
      refine Dn.st (fun _ kk => XS.ifNo X0.here hx rfl (hb hby at_24) rfl ((if0 _ _).trans (feq hc24).1) (XS.lloadN X0.here hx rfl (hb hby at_27) rfl  (X0.ldc2Long hx hown (mvT hZ (hw _ (List.mem_of_getElem? (i := 9) rfl))) (g := (mkF m 28 #[.val (.int p0), .val (.long p1), .second, .val (.int p2), .val (.int p3), .val (.int p4), .val (.int p5), .val (.int (1 : Int32)), .val (.int (1 : Int32)), .unset, .unset, .unset, .unset, .unset, .unset, .unset, .unset, .unset, .unset, .unset, .unset, .unset, .unset] [(.long p1)])) rfl (hb hby at_28) _ (XS.lrem X0.here hx rfl (hb hby at_31) rfl (by decide) (kk))))) ?_
      show Dn p e below s _ _ _ (s₁.setTop (mkF m 32 #[.val (.int p0), .val (.long p1), .second, .val (.int p2), .val (.int p3), .val (.int p4), .val (.int p5), .val (.int (1 : Int32)), .val (.int (1 : Int32)), .unset, .unset, .unset, .unset, .unset, .unset, .unset, .unset, .unset, .unset, .unset, .unset, .unset, .unset] [(.long (p1 - (p1 / (9007199254740992 : Int64)) * (9007199254740992 : Int64)))]))
      generalize hv31 : ((p1 - (p1 / (9007199254740992 : Int64)) * (9007199254740992 : Int64)) : Int64) = v31
      have q31 : (0 ≤ p1.toInt → v31.toInt = p1.toInt % 9007199254740992) ∧ (p1.toInt < 0 → v31.toInt = -((-p1.toInt) % 9007199254740992)) := by have qq := c_lrem p1 (9007199254740992 : Int64) 9007199254740992 rfl; rw [hv31] at qq; exact qq
      have r31 := rng64 v31
      show Dn p e below s _ _ _ (s₁.setTop (mkF m 32 #[.val (.int p0), .val (.long p1), .second, .val (.int p2), .val (.int p3), .val (.int p4), .val (.int p5), .val (.int (1 : Int32)), .val (.int (1 : Int32)), .unset, .unset, .unset, .unset, .unset, .unset, .unset, .unset, .unset, .unset, .unset, .unset, .unset, .unset] [(.long v31)]))
      refine Dn.st (fun _ kk => XS.lstore X0.here hx rfl (hb hby at_32) rfl (l' := #[.val (.int p0), .val (.long p1), .second, .val (.int p2), .val (.int p3), .val (.int p4), .val (.int p5), .val (.int (1 : Int32)), .val (.int (1 : Int32)), .val (.long v31), .second, .unset, .unset, .unset, .unset, .unset, .unset, .unset, .unset, .unset, .unset, .unset, .unset]) rfl (XS.lload X0.here hx rfl (hb hby at_34) rfl  (kk))) ?_
      show Dn p e below s _ _ _ (s₁.setTop (mkF m 36 #[.val (.int p0), .val (.long p1), .second, .val (.int p2), .val (.int p3), .val (.int p4), .val (.int p5), .val (.int (1 : Int32)), .val (.int (1 : Int32)), .val (.long v31), .second, .unset, .unset, .unset, .unset, .unset, .unset, .unset, .unset, .unset, .unset, .unset, .unset] [(.long v31)]))
      have d36 := DS.l2d (v := v31) (by omega)
      refine Dn.st (fun _ kk => XS.l2dS X0.here hx rfl (hb hby at_36) rfl rfl (kk)) ?_
      show Dn p e below s _ _ _ (s₁.setTop (mkF m 37 #[.val (.int p0), .val (.long p1), .second, .val (.int p2), .val (.int p3), .val (.int p4), .val (.int p5), .val (.int (1 : Int32)), .val (.int (1 : Int32)), .val (.long v31), .second, .unset, .unset, .unset, .unset, .unset, .unset, .unset, .unset, .unset, .unset, .unset, .unset] [(.double (FP.l2d v31))]))
      generalize hv36 : ((FP.l2d v31) : UInt64) = v36 at d36 ⊢
      show Dn p e below s _ _ _ (s₁.setTop (mkF m 37 #[.val (.int p0), .val (.long p1), .second, .val (.int p2), .val (.int p3), .val (.int p4), .val (.int p5), .val (.int (1 : Int32)), .val (.int (1 : Int32)), .val (.long v31), .second, .unset, .unset, .unset, .unset, .unset, .unset, .unset, .unset, .unset, .unset, .unset, .unset] [(.double v36)]))
      refine Dn.st (fun _ kk => XS.dstore X0.here hx rfl (hb hby at_37) rfl (l' := #[.val (.int p0), .val (.long p1), .second, .val (.int p2), .val (.int p3), .val (.int p4), .val (.int p5), .val (.int (1 : Int32)), .val (.int (1 : Int32)), .val (.long v31), .second, .val (.double v36), .second, .unset, .unset, .unset, .unset, .unset, .unset, .unset, .unset, .unset, .unset]) rfl (XS.iload X0.here hx rfl (hb hby at_39) rfl  (XS.dload X0.here hx rfl (hb hby at_41) rfl  (XS.dload X0.here hx rfl (hb hby at_43) rfl  (XS.dload X0.here hx rfl (hb hby at_45) rfl  (XS.dload X0.here hx rfl (hb hby at_47) rfl  (kk))))))) ?_
      show Dn p e below s _ _ _ (s₁.setTop (mkF m 49 #[.val (.int p0), .val (.long p1), .second, .val (.int p2), .val (.int p3), .val (.int p4), .val (.int p5), .val (.int (1 : Int32)), .val (.int (1 : Int32)), .val (.long v31), .second, .val (.double v36), .second, .unset, .unset, .unset, .unset, .unset, .unset, .unset, .unset, .unset, .unset] [(.double v36), (.double v36), (.double v36), (.double v36), (.int (1 : Int32))]))
      obtain ⟨_, _, ⟨T49, L49, k49, n49⟩, -, X49, ⟨Lc49, hQ49, l49, y49, z49⟩, st49⟩ := Jvm.LawKit.callS X0 hx (y := (⟨"com/example/listino/listino/stats/MomentsMeanPinLaw", "build", "(IDDDD)[D"⟩ : MethodName)) hown (mvT hZ (hw _ (List.mem_of_getElem? (i := 0) rfl))) (mvT hZ (hw _ (List.mem_of_getElem? (i := 1) rfl))) (mvT hZ (hw _ (List.mem_of_getElem? (i := 2) rfl))) (mvT hZ (hw _ (List.mem_of_getElem? (i := 3) rfl))) (by decide) (backOf (W := 0) (rm1_1 l Z a0 hw []  v36 v36 v36 v36 h0 n0 Z0 ) hZ (hw _ (List.mem_of_getElem? (i := 3) rfl)) (hw _ (List.mem_of_getElem? (i := 2) rfl)) (by decide) (by decide)) (g := (mkF m 49 #[.val (.int p0), .val (.long p1), .second, .val (.int p2), .val (.int p3), .val (.int p4), .val (.int p5), .val (.int (1 : Int32)), .val (.int (1 : Int32)), .val (.long v31), .second, .val (.double v36), .second, .unset, .unset, .unset, .unset, .unset, .unset, .unset, .unset, .unset, .unset] [(.double v36), (.double v36), (.double v36), (.double v36), (.int (1 : Int32))])) rfl (by rw [hml]; rfl) (argsL := [(.int (1 : Int32)), (.double v36), (.double v36), (.double v36), (.double v36)]) (rest := []) (lenOf pd0 rfl) rfl (by show 2 * 0 + _ ≤ _; exact Nat.le_of_eq rfl) (hb hby at_49) (fun _ _ => ⟨rfl, e0, (by decide : 0 + 1 ≤ _), (by decide : 0 + 1 ≤ _)⟩)
      dsimp only [Pt.U, Pt.locs, Pt.cells, Pt.slots] at X49 l49 y49 z49 st49 hQ49
      subst l49 y49 z49
      obtain ⟨bb49, kb49, rfl, gz49, Nq49, K49, V_bb49⟩ := hQ49
      have N49 := Fr.app N0 Nq49
      refine Dn.st st49 ?_
      have Z49 : n0 ≤ T49.heap.size := Nat.le_trans Z0 K49.1
      show Dn p e below s _ _ _ (T49.setTop (mkF m 52 #[.val (.int p0), .val (.long p1), .second, .val (.int p2), .val (.int p3), .val (.int p4), .val (.int p5), .val (.int (1 : Int32)), .val (.int (1 : Int32)), .val (.long v31), .second, .val (.double v36), .second, .unset, .unset, .unset, .unset, .unset, .unset, .unset, .unset, .unset, .unset] [(.ref bb49)]))
      obtain ⟨_, _, ⟨T52, L52, k52, n52⟩, -, X52, ⟨Lc52, hQ52, l52, y52, z52⟩, st52⟩ := Jvm.LawKit.callS X49 hx (y := (⟨"com/example/listino/listino/stats/Moments", "mean", "([D)D"⟩ : MethodName)) hown (mvT hZ (hw _ (List.mem_of_getElem? (i := 5) rfl))) (mvT hZ (hw _ (List.mem_of_getElem? (i := 6) rfl))) (mvT hZ (hw _ (List.mem_of_getElem? (i := 7) rfl))) (mvT hZ (hw _ (List.mem_of_getElem? (i := 8) rfl))) (by decide) (backOf (W := 0) (rm2S_1 l Z a0 hw [] bb49 kb49 v36 v31.toInt T49.heap n0 Z49 V_bb49 d36 (by omega)) hZ (hw _ (List.mem_of_getElem? (i := 8) rfl)) (hw _ (List.mem_of_getElem? (i := 7) rfl)) (by decide) (by decide)) (g := (mkF m 52 #[.val (.int p0), .val (.long p1), .second, .val (.int p2), .val (.int p3), .val (.int p4), .val (.int p5), .val (.int (1 : Int32)), .val (.int (1 : Int32)), .val (.long v31), .second, .val (.double v36), .second, .unset, .unset, .unset, .unset, .unset, .unset, .unset, .unset, .unset, .unset] [(.ref bb49)])) rfl (by rw [hml]; rfl) (argsL := [(.ref bb49)]) (rest := []) (lenOf pd1 rfl) rfl (by show 2 * 0 + _ ≤ _; exact Nat.le_of_eq rfl) (hb hby at_52) (fun _ _ => ⟨rfl, rfl, (by decide : 1 + 0 ≤ _), (by decide : 1 + 0 ≤ _)⟩)
      dsimp only [Pt.U, Pt.locs, Pt.cells, Pt.slots] at X52 l52 y52 z52 st52 hQ52
      subst l52 y52 z52
      obtain ⟨z52, rfl, d52, Nq52, hh52⟩ := hQ52
      have N52 := Fr.app N49 Nq52
      refine Dn.st st52 ?_
      show Dn p e below s _ _ _ (T52.setTop (mkF m 55 #[.val (.int p0), .val (.long p1), .second, .val (.int p2), .val (.int p3), .val (.int p4), .val (.int p5), .val (.int (1 : Int32)), .val (.int (1 : Int32)), .val (.long v31), .second, .val (.double v36), .second, .unset, .unset, .unset, .unset, .unset, .unset, .unset, .unset, .unset, .unset] [(.double z52)]))
      refine Dn.st (fun _ kk => XS.dstore X52.here hx rfl (hb hby at_55) rfl (l' := #[.val (.int p0), .val (.long p1), .second, .val (.int p2), .val (.int p3), .val (.int p4), .val (.int p5), .val (.int (1 : Int32)), .val (.int (1 : Int32)), .val (.long v31), .second, .val (.double v36), .second, .val (.double z52), .second, .unset, .unset, .unset, .unset, .unset, .unset, .unset, .unset]) rfl (XS.dload X52.here hx rfl (hb hby at_57) rfl  (XS.dload X52.here hx rfl (hb hby at_59) rfl  (XS.dcmpS X52.here hx rfl (hb hby at_61) rfl (DS.cmpV d52 d36 _) (kk))))) ?_
      show Dn p e below s _ _ _ (T52.setTop (mkF m 62 #[.val (.int p0), .val (.long p1), .second, .val (.int p2), .val (.int p3), .val (.int p4), .val (.int p5), .val (.int (1 : Int32)), .val (.int (1 : Int32)), .val (.long v31), .second, .val (.double v36), .second, .val (.double z52), .second, .unset, .unset, .unset, .unset, .unset, .unset, .unset, .unset] [(.int (c3 v31.toInt v31.toInt))]))
      have hc62 : (c3 v31.toInt v31.toInt) = (0 : Int32) := (c3_eq _ _).mpr rfl
      refine Dn.st (fun _ kk => XS.ifNo X52.here hx rfl (hb hby at_62) rfl ((if0 _ _).trans (teq hc62).2) (XS.iconst X52.here hx rfl (hb hby at_65) (XS.goto X52.here hx rfl (pc0 := 66) (pc' := 70) rfl (hb hby at_66) (by decide) (by decide) (kk)))) ?_
      show Dn p e below s _ _ _ (T52.setTop (mkF m 70 #[.val (.int p0), .val (.long p1), .second, .val (.int p2), .val (.int p3), .val (.int p4), .val (.int p5), .val (.int (1 : Int32)), .val (.int (1 : Int32)), .val (.long v31), .second, .val (.double v36), .second, .val (.double z52), .second, .unset, .unset, .unset, .unset, .unset, .unset, .unset, .unset] [(.int (1 : Int32))]))
      exact Dn.ret X52 hlk hx hret rfl (Or.inl ⟨rfl, Or.inr (Or.inl rfl), _, rfl⟩) (hb hby at_70) (by rw [hh52]; exact ⟨rfl, N52⟩) (by decide) (by decide)
  · subst hk7
    show Dn p e below s _ _ _ (s₁.setTop (mkF m 7 #[.val (.int p0), .val (.long p1), .second, .val (.int p2), .val (.int p3), .val (.int p4), .val (.int p5), .unset, .unset, .unset, .unset, .unset, .unset, .unset, .unset, .unset, .unset, .unset, .unset, .unset, .unset, .unset, .unset] [(.int (2 : Int32))]))
    refine Dn.st (fun _ kk => XS.istore X0.here hx rfl (hb hby at_7) rfl (l' := #[.val (.int p0), .val (.long p1), .second, .val (.int p2), .val (.int p3), .val (.int p4), .val (.int p5), .val (.int (2 : Int32)), .unset, .unset, .unset, .unset, .unset, .unset, .unset, .unset, .unset, .unset, .unset, .unset, .unset, .unset, .unset]) rfl (XS.iloadN X0.here hx rfl (hb hby at_9) rfl  (XS.iconst X0.here hx rfl (hb hby at_10) (XS.iand X0.here hx rfl (hb hby at_11) rfl (kk))))) ?_
    show Dn p e below s _ _ _ (s₁.setTop (mkF m 12 #[.val (.int p0), .val (.long p1), .second, .val (.int p2), .val (.int p3), .val (.int p4), .val (.int p5), .val (.int (2 : Int32)), .unset, .unset, .unset, .unset, .unset, .unset, .unset, .unset, .unset, .unset, .unset, .unset, .unset, .unset, .unset] [(.int (p0 &&& (1 : Int32)))]))
    generalize hv11 : ((p0 &&& (1 : Int32)) : Int32) = v11
    have q11 : v11.toInt = p0.toInt % 2 := by have qq := c_mask p0 (1 : Int32) 1 (by decide) (by decide); rw [hv11] at qq; exact qq
    have r11 := rng32 v11
    show Dn p e below s _ _ _ (s₁.setTop (mkF m 12 #[.val (.int p0), .val (.long p1), .second, .val (.int p2), .val (.int p3), .val (.int p4), .val (.int p5), .val (.int (2 : Int32)), .unset, .unset, .unset, .unset, .unset, .unset, .unset, .unset, .unset, .unset, .unset, .unset, .unset, .unset, .unset] [(.int v11)]))
    by_cases hc12 : v11 = (0 : Int32)
    · have hi12 : v11.toInt = 0 := congrArg Int32.toInt hc12
      refine Dn.st (fun _ kk => XS.ifYes X0.here hx rfl (pc0 := 12) (pc' := 19) rfl (hb hby at_12) rfl ((if0 _ _).trans (teq hc12).1) (by decide) (by decide) (XS.iconst X0.here hx rfl (hb hby at_19) (XS.istore X0.here hx rfl (hb hby at_20) rfl (l' := #[.val (.int p0), .val (.long p1), .second, .val (.int p2), .val (.int p3), .val (.int p4), .val (.int p5), .val (.int (2 : Int32)), .val (.int (0 : Int32)), .unset, .unset, .unset, .unset, .unset, .unset, .unset, .unset, .unset, .unset, .unset, .unset, .unset, .unset]) rfl (XS.iload X0.here hx rfl (hb hby at_22) rfl  (kk))))) ?_
      show Dn p e below s _ _ _ (s₁.setTop (mkF m 24 #[.val (.int p0), .val (.long p1), .second, .val (.int p2), .val (.int p3), .val (.int p4), .val (.int p5), .val (.int (2 : Int32)), .val (.int (0 : Int32)), .unset, .unset, .unset, .unset, .unset, .unset, .unset, .unset, .unset, .unset, .unset, .unset, .unset, .unset] [(.int (0 : Int32))]))
      have hc24 : (0 : Int32) = (0 : Int32) := by decide
      refine Dn.st (fun _ kk => XS.ifYes X0.here hx rfl (pc0 := 24) (pc' := 71) rfl (hb hby at_24) rfl ((if0 _ _).trans (teq hc24).1) (by decide) (by decide) (XS.iloadN X0.here hx rfl (hb hby at_71) rfl  (XS.bipush X0.here hx rfl (hb hby at_72) (XS.ishl X0.here hx rfl (hb hby at_74) rfl (kk))))) ?_
      show Dn p e below s _ _ _ (s₁.setTop (mkF m 75 #[.val (.int p0), .val (.long p1), .second, .val (.int p2), .val (.int p3), .val (.int p4), .val (.int p5), .val (.int (2 : Int32)), .val (.int (0 : Int32)), .unset, .unset, .unset, .unset, .unset, .unset, .unset, .unset, .unset, .unset, .unset, .unset, .unset, .unset] [(.int (p2 <<< ((12 : Int32) &&& 31)))]))
      generalize hv74 : ((p2 <<< ((12 : Int32) &&& 31)) : Int32) = v74
      have q74 : (v74.toInt - p2.toInt * 4096) % 4294967296 = 0 := by have qq := c_ishl p2 (12 : Int32) 12 (by decide); rw [hv74] at qq; exact qq
      have r74 := rng32 v74
      show Dn p e below s _ _ _ (s₁.setTop (mkF m 75 #[.val (.int p0), .val (.long p1), .second, .val (.int p2), .val (.int p3), .val (.int p4), .val (.int p5), .val (.int (2 : Int32)), .val (.int (0 : Int32)), .unset, .unset, .unset, .unset, .unset, .unset, .unset, .unset, .unset, .unset, .unset, .unset, .unset, .unset] [(.int v74)]))
      refine Dn.st (fun _ kk => XS.bipush X0.here hx rfl (hb hby at_75) (XS.ishr X0.here hx rfl (hb hby at_77) rfl (kk))) ?_
      show Dn p e below s _ _ _ (s₁.setTop (mkF m 78 #[.val (.int p0), .val (.long p1), .second, .val (.int p2), .val (.int p3), .val (.int p4), .val (.int p5), .val (.int (2 : Int32)), .val (.int (0 : Int32)), .unset, .unset, .unset, .unset, .unset, .unset, .unset, .unset, .unset, .unset, .unset, .unset, .unset, .unset] [(.int (v74 >>> ((12 : Int32) &&& 31)))]))
      generalize hv77 : ((v74 >>> ((12 : Int32) &&& 31)) : Int32) = v77
      have q77 : v77.toInt = v74.toInt / 4096 := by have qq := c_ishr v74 (12 : Int32) 12 (by decide); rw [hv77] at qq; exact qq
      have r77 := rng32 v77
      show Dn p e below s _ _ _ (s₁.setTop (mkF m 78 #[.val (.int p0), .val (.long p1), .second, .val (.int p2), .val (.int p3), .val (.int p4), .val (.int p5), .val (.int (2 : Int32)), .val (.int (0 : Int32)), .unset, .unset, .unset, .unset, .unset, .unset, .unset, .unset, .unset, .unset, .unset, .unset, .unset, .unset] [(.int v77)]))
      refine Dn.st (fun _ kk => XS.i2l X0.here hx rfl (hb hby at_78) rfl (kk)) ?_
      show Dn p e below s _ _ _ (s₁.setTop (mkF m 79 #[.val (.int p0), .val (.long p1), .second, .val (.int p2), .val (.int p3), .val (.int p4), .val (.int p5), .val (.int (2 : Int32)), .val (.int (0 : Int32)), .unset, .unset, .unset, .unset, .unset, .unset, .unset, .unset, .unset, .unset, .unset, .unset, .unset, .unset] [(.long (v77.toInt64))]))
      generalize hv78 : ((v77.toInt64) : Int64) = v78
      have q78 : v78.toInt = v77.toInt := by have qq := c_i2l v77; rw [hv78] at qq; exact qq
      have r78 := rng64 v78
      show Dn p e below s _ _ _ (s₁.setTop (mkF m 79 #[.val (.int p0), .val (.long p1), .second, .val (.int p2), .val (.int p3), .val (.int p4), .val (.int p5), .val (.int (2 : Int32)), .val (.int (0 : Int32)), .unset, .unset, .unset, .unset, .unset, .unset, .unset, .unset, .unset, .unset, .unset, .unset, .unset, .unset] [(.long v78)]))
      refine Dn.st (fun _ kk => XS.lstore X0.here hx rfl (hb hby at_79) rfl (l' := #[.val (.int p0), .val (.long p1), .second, .val (.int p2), .val (.int p3), .val (.int p4), .val (.int p5), .val (.int (2 : Int32)), .val (.int (0 : Int32)), .val (.long v78), .second, .unset, .unset, .unset, .unset, .unset, .unset, .unset, .unset, .unset, .unset, .unset, .unset]) rfl (XS.iload X0.here hx rfl (hb hby at_81) rfl  (XS.bipush X0.here hx rfl (hb hby at_83) (XS.ishl X0.here hx rfl (hb hby at_85) rfl (kk))))) ?_
      show Dn p e below s _ _ _ (s₁.setTop (mkF m 86 #[.val (.int p0), .val (.long p1), .second, .val (.int p2), .val (.int p3), .val (.int p4), .val (.int p5), .val (.int (2 : Int32)), .val (.int (0 : Int32)), .val (.long v78), .second, .unset, .unset, .unset, .unset, .unset, .unset, .unset, .unset, .unset, .unset, .unset, .unset] [(.int (p3 <<< ((12 : Int32) &&& 31)))]))
      generalize hv85 : ((p3 <<< ((12 : Int32) &&& 31)) : Int32) = v85
      have q85 : (v85.toInt - p3.toInt * 4096) % 4294967296 = 0 := by have qq := c_ishl p3 (12 : Int32) 12 (by decide); rw [hv85] at qq; exact qq
      have r85 := rng32 v85
      show Dn p e below s _ _ _ (s₁.setTop (mkF m 86 #[.val (.int p0), .val (.long p1), .second, .val (.int p2), .val (.int p3), .val (.int p4), .val (.int p5), .val (.int (2 : Int32)), .val (.int (0 : Int32)), .val (.long v78), .second, .unset, .unset, .unset, .unset, .unset, .unset, .unset, .unset, .unset, .unset, .unset, .unset] [(.int v85)]))
      refine Dn.st (fun _ kk => XS.bipush X0.here hx rfl (hb hby at_86) (XS.ishr X0.here hx rfl (hb hby at_88) rfl (kk))) ?_
      show Dn p e below s _ _ _ (s₁.setTop (mkF m 89 #[.val (.int p0), .val (.long p1), .second, .val (.int p2), .val (.int p3), .val (.int p4), .val (.int p5), .val (.int (2 : Int32)), .val (.int (0 : Int32)), .val (.long v78), .second, .unset, .unset, .unset, .unset, .unset, .unset, .unset, .unset, .unset, .unset, .unset, .unset] [(.int (v85 >>> ((12 : Int32) &&& 31)))]))
      generalize hv88 : ((v85 >>> ((12 : Int32) &&& 31)) : Int32) = v88
      have q88 : v88.toInt = v85.toInt / 4096 := by have qq := c_ishr v85 (12 : Int32) 12 (by decide); rw [hv88] at qq; exact qq
      have r88 := rng32 v88
      show Dn p e below s _ _ _ (s₁.setTop (mkF m 89 #[.val (.int p0), .val (.long p1), .second, .val (.int p2), .val (.int p3), .val (.int p4), .val (.int p5), .val (.int (2 : Int32)), .val (.int (0 : Int32)), .val (.long v78), .second, .unset, .unset, .unset, .unset, .unset, .unset, .unset, .unset, .unset, .unset, .unset, .unset] [(.int v88)]))
      refine Dn.st (fun _ kk => XS.i2l X0.here hx rfl (hb hby at_89) rfl (kk)) ?_
      show Dn p e below s _ _ _ (s₁.setTop (mkF m 90 #[.val (.int p0), .val (.long p1), .second, .val (.int p2), .val (.int p3), .val (.int p4), .val (.int p5), .val (.int (2 : Int32)), .val (.int (0 : Int32)), .val (.long v78), .second, .unset, .unset, .unset, .unset, .unset, .unset, .unset, .unset, .unset, .unset, .unset, .unset] [(.long (v88.toInt64))]))
      generalize hv89 : ((v88.toInt64) : Int64) = v89
      have q89 : v89.toInt = v88.toInt := by have qq := c_i2l v88; rw [hv89] at qq; exact qq
      have r89 := rng64 v89
      show Dn p e below s _ _ _ (s₁.setTop (mkF m 90 #[.val (.int p0), .val (.long p1), .second, .val (.int p2), .val (.int p3), .val (.int p4), .val (.int p5), .val (.int (2 : Int32)), .val (.int (0 : Int32)), .val (.long v78), .second, .unset, .unset, .unset, .unset, .unset, .unset, .unset, .unset, .unset, .unset, .unset, .unset] [(.long v89)]))
      refine Dn.st (fun _ kk => XS.lstore X0.here hx rfl (hb hby at_90) rfl (l' := #[.val (.int p0), .val (.long p1), .second, .val (.int p2), .val (.int p3), .val (.int p4), .val (.int p5), .val (.int (2 : Int32)), .val (.int (0 : Int32)), .val (.long v78), .second, .val (.long v89), .second, .unset, .unset, .unset, .unset, .unset, .unset, .unset, .unset, .unset, .unset]) rfl (XS.iload X0.here hx rfl (hb hby at_92) rfl  (XS.bipush X0.here hx rfl (hb hby at_94) (XS.ishl X0.here hx rfl (hb hby at_96) rfl (kk))))) ?_
      show Dn p e below s _ _ _ (s₁.setTop (mkF m 97 #[.val (.int p0), .val (.long p1), .second, .val (.int p2), .val (.int p3), .val (.int p4), .val (.int p5), .val (.int (2 : Int32)), .val (.int (0 : Int32)), .val (.long v78), .second, .val (.long v89), .second, .unset, .unset, .unset, .unset, .unset, .unset, .unset, .unset, .unset, .unset] [(.int (p4 <<< ((12 : Int32) &&& 31)))]))
      generalize hv96 : ((p4 <<< ((12 : Int32) &&& 31)) : Int32) = v96
      have q96 : (v96.toInt - p4.toInt * 4096) % 4294967296 = 0 := by have qq := c_ishl p4 (12 : Int32) 12 (by decide); rw [hv96] at qq; exact qq
      have r96 := rng32 v96
      show Dn p e below s _ _ _ (s₁.setTop (mkF m 97 #[.val (.int p0), .val (.long p1), .second, .val (.int p2), .val (.int p3), .val (.int p4), .val (.int p5), .val (.int (2 : Int32)), .val (.int (0 : Int32)), .val (.long v78), .second, .val (.long v89), .second, .unset, .unset, .unset, .unset, .unset, .unset, .unset, .unset, .unset, .unset] [(.int v96)]))
      refine Dn.st (fun _ kk => XS.bipush X0.here hx rfl (hb hby at_97) (XS.ishr X0.here hx rfl (hb hby at_99) rfl (kk))) ?_
      show Dn p e below s _ _ _ (s₁.setTop (mkF m 100 #[.val (.int p0), .val (.long p1), .second, .val (.int p2), .val (.int p3), .val (.int p4), .val (.int p5), .val (.int (2 : Int32)), .val (.int (0 : Int32)), .val (.long v78), .second, .val (.long v89), .second, .unset, .unset, .unset, .unset, .unset, .unset, .unset, .unset, .unset, .unset] [(.int (v96 >>> ((12 : Int32) &&& 31)))]))
      generalize hv99 : ((v96 >>> ((12 : Int32) &&& 31)) : Int32) = v99
      have q99 : v99.toInt = v96.toInt / 4096 := by have qq := c_ishr v96 (12 : Int32) 12 (by decide); rw [hv99] at qq; exact qq
      have r99 := rng32 v99
      show Dn p e below s _ _ _ (s₁.setTop (mkF m 100 #[.val (.int p0), .val (.long p1), .second, .val (.int p2), .val (.int p3), .val (.int p4), .val (.int p5), .val (.int (2 : Int32)), .val (.int (0 : Int32)), .val (.long v78), .second, .val (.long v89), .second, .unset, .unset, .unset, .unset, .unset, .unset, .unset, .unset, .unset, .unset] [(.int v99)]))
      refine Dn.st (fun _ kk => XS.i2l X0.here hx rfl (hb hby at_100) rfl (kk)) ?_
      show Dn p e below s _ _ _ (s₁.setTop (mkF m 101 #[.val (.int p0), .val (.long p1), .second, .val (.int p2), .val (.int p3), .val (.int p4), .val (.int p5), .val (.int (2 : Int32)), .val (.int (0 : Int32)), .val (.long v78), .second, .val (.long v89), .second, .unset, .unset, .unset, .unset, .unset, .unset, .unset, .unset, .unset, .unset] [(.long (v99.toInt64))]))
      generalize hv100 : ((v99.toInt64) : Int64) = v100
      have q100 : v100.toInt = v99.toInt := by have qq := c_i2l v99; rw [hv100] at qq; exact qq
      have r100 := rng64 v100
      show Dn p e below s _ _ _ (s₁.setTop (mkF m 101 #[.val (.int p0), .val (.long p1), .second, .val (.int p2), .val (.int p3), .val (.int p4), .val (.int p5), .val (.int (2 : Int32)), .val (.int (0 : Int32)), .val (.long v78), .second, .val (.long v89), .second, .unset, .unset, .unset, .unset, .unset, .unset, .unset, .unset, .unset, .unset] [(.long v100)]))
      refine Dn.st (fun _ kk => XS.lstore X0.here hx rfl (hb hby at_101) rfl (l' := #[.val (.int p0), .val (.long p1), .second, .val (.int p2), .val (.int p3), .val (.int p4), .val (.int p5), .val (.int (2 : Int32)), .val (.int (0 : Int32)), .val (.long v78), .second, .val (.long v89), .second, .val (.long v100), .second, .unset, .unset, .unset, .unset, .unset, .unset, .unset, .unset]) rfl (XS.iload X0.here hx rfl (hb hby at_103) rfl  (XS.bipush X0.here hx rfl (hb hby at_105) (XS.ishl X0.here hx rfl (hb hby at_107) rfl (kk))))) ?_
      show Dn p e below s _ _ _ (s₁.setTop (mkF m 108 #[.val (.int p0), .val (.long p1), .second, .val (.int p2), .val (.int p3), .val (.int p4), .val (.int p5), .val (.int (2 : Int32)), .val (.int (0 : Int32)), .val (.long v78), .second, .val (.long v89), .second, .val (.long v100), .second, .unset, .unset, .unset, .unset, .unset, .unset, .unset, .unset] [(.int (p5 <<< ((12 : Int32) &&& 31)))]))
      generalize hv107 : ((p5 <<< ((12 : Int32) &&& 31)) : Int32) = v107
      have q107 : (v107.toInt - p5.toInt * 4096) % 4294967296 = 0 := by have qq := c_ishl p5 (12 : Int32) 12 (by decide); rw [hv107] at qq; exact qq
      have r107 := rng32 v107
      show Dn p e below s _ _ _ (s₁.setTop (mkF m 108 #[.val (.int p0), .val (.long p1), .second, .val (.int p2), .val (.int p3), .val (.int p4), .val (.int p5), .val (.int (2 : Int32)), .val (.int (0 : Int32)), .val (.long v78), .second, .val (.long v89), .second, .val (.long v100), .second, .unset, .unset, .unset, .unset, .unset, .unset, .unset, .unset] [(.int v107)]))
      refine Dn.st (fun _ kk => XS.bipush X0.here hx rfl (hb hby at_108) (XS.ishr X0.here hx rfl (hb hby at_110) rfl (kk))) ?_
      show Dn p e below s _ _ _ (s₁.setTop (mkF m 111 #[.val (.int p0), .val (.long p1), .second, .val (.int p2), .val (.int p3), .val (.int p4), .val (.int p5), .val (.int (2 : Int32)), .val (.int (0 : Int32)), .val (.long v78), .second, .val (.long v89), .second, .val (.long v100), .second, .unset, .unset, .unset, .unset, .unset, .unset, .unset, .unset] [(.int (v107 >>> ((12 : Int32) &&& 31)))]))
      generalize hv110 : ((v107 >>> ((12 : Int32) &&& 31)) : Int32) = v110
      have q110 : v110.toInt = v107.toInt / 4096 := by have qq := c_ishr v107 (12 : Int32) 12 (by decide); rw [hv110] at qq; exact qq
      have r110 := rng32 v110
      show Dn p e below s _ _ _ (s₁.setTop (mkF m 111 #[.val (.int p0), .val (.long p1), .second, .val (.int p2), .val (.int p3), .val (.int p4), .val (.int p5), .val (.int (2 : Int32)), .val (.int (0 : Int32)), .val (.long v78), .second, .val (.long v89), .second, .val (.long v100), .second, .unset, .unset, .unset, .unset, .unset, .unset, .unset, .unset] [(.int v110)]))
      refine Dn.st (fun _ kk => XS.i2l X0.here hx rfl (hb hby at_111) rfl (kk)) ?_
      show Dn p e below s _ _ _ (s₁.setTop (mkF m 112 #[.val (.int p0), .val (.long p1), .second, .val (.int p2), .val (.int p3), .val (.int p4), .val (.int p5), .val (.int (2 : Int32)), .val (.int (0 : Int32)), .val (.long v78), .second, .val (.long v89), .second, .val (.long v100), .second, .unset, .unset, .unset, .unset, .unset, .unset, .unset, .unset] [(.long (v110.toInt64))]))
      generalize hv111 : ((v110.toInt64) : Int64) = v111
      have q111 : v111.toInt = v110.toInt := by have qq := c_i2l v110; rw [hv111] at qq; exact qq
      have r111 := rng64 v111
      show Dn p e below s _ _ _ (s₁.setTop (mkF m 112 #[.val (.int p0), .val (.long p1), .second, .val (.int p2), .val (.int p3), .val (.int p4), .val (.int p5), .val (.int (2 : Int32)), .val (.int (0 : Int32)), .val (.long v78), .second, .val (.long v89), .second, .val (.long v100), .second, .unset, .unset, .unset, .unset, .unset, .unset, .unset, .unset] [(.long v111)]))
      refine Dn.st (fun _ kk => XS.lstore X0.here hx rfl (hb hby at_112) rfl (l' := #[.val (.int p0), .val (.long p1), .second, .val (.int p2), .val (.int p3), .val (.int p4), .val (.int p5), .val (.int (2 : Int32)), .val (.int (0 : Int32)), .val (.long v78), .second, .val (.long v89), .second, .val (.long v100), .second, .val (.long v111), .second, .unset, .unset, .unset, .unset, .unset, .unset]) rfl (XS.lload X0.here hx rfl (hb hby at_114) rfl  (XS.lstore X0.here hx rfl (hb hby at_116) rfl (l' := #[.val (.int p0), .val (.long p1), .second, .val (.int p2), .val (.int p3), .val (.int p4), .val (.int p5), .val (.int (2 : Int32)), .val (.int (0 : Int32)), .val (.long v78), .second, .val (.long v89), .second, .val (.long v100), .second, .val (.long v111), .second, .val (.long v78), .second, .unset, .unset, .unset, .unset]) rfl (XS.iload X0.here hx rfl (hb hby at_118) rfl  (XS.iconst X0.here hx rfl (hb hby at_120) (kk)))))) ?_
      show Dn p e below s _ _ _ (s₁.setTop (mkF m 121 #[.val (.int p0), .val (.long p1), .second, .val (.int p2), .val (.int p3), .val (.int p4), .val (.int p5), .val (.int (2 : Int32)), .val (.int (0 : Int32)), .val (.long v78), .second, .val (.long v89), .second, .val (.long v100), .second, .val (.long v111), .second, .val (.long v78), .second, .unset, .unset, .unset, .unset] [(.int (2 : Int32)), (.int (2 : Int32))]))
      have hc121 : ¬ ((2 : Int32) < (2 : Int32)) := by decide
      refine Dn.st (fun _ kk => XS.icmpNo X0.here hx rfl (hb hby at_121) rfl (flt hc121).1 (XS.lload X0.here hx rfl (hb hby at_124) rfl  (XS.lload X0.here hx rfl (hb hby at_126) rfl  (XS.ladd X0.here hx rfl (hb hby at_128) rfl (kk))))) ?_
      show Dn p e below s _ _ _ (s₁.setTop (mkF m 129 #[.val (.int p0), .val (.long p1), .second, .val (.int p2), .val (.int p3), .val (.int p4), .val (.int p5), .val (.int (2 : Int32)), .val (.int (0 : Int32)), .val (.long v78), .second, .val (.long v89), .second, .val (.long v100), .second, .val (.long v111), .second, .val (.long v78), .second, .unset, .unset, .unset, .unset] [(.long (v78 + v89))]))
      generalize hv128 : ((v78 + v89) : Int64) = v128
      have q128 : (v128.toInt - (v78.toInt + v89.toInt)) % 18446744073709551616 = 0 := by have qq := c_ladd v78 v89; rw [hv128] at qq; exact qq
      have r128 := rng64 v128
      have x128 : v128.toInt = v78.toInt + v89.toInt := by omega
      show Dn p e below s _ _ _ (s₁.setTop (mkF m 129 #[.val (.int p0), .val (.long p1), .second, .val (.int p2), .val (.int p3), .val (.int p4), .val (.int p5), .val (.int (2 : Int32)), .val (.int (0 : Int32)), .val (.long v78), .second, .val (.long v89), .second, .val (.long v100), .second, .val (.long v111), .second, .val (.long v78), .second, .unset, .unset, .unset, .unset] [(.long v128)]))
      refine Dn.st (fun _ kk => XS.lstore X0.here hx rfl (hb hby at_129) rfl (l' := #[.val (.int p0), .val (.long p1), .second, .val (.int p2), .val (.int p3), .val (.int p4), .val (.int p5), .val (.int (2 : Int32)), .val (.int (0 : Int32)), .val (.long v78), .second, .val (.long v89), .second, .val (.long v100), .second, .val (.long v111), .second, .val (.long v128), .second, .unset, .unset, .unset, .unset]) rfl (XS.iload X0.here hx rfl (hb hby at_131) rfl  (XS.iconst X0.here hx rfl (hb hby at_133) (kk)))) ?_
      show Dn p e below s _ _ _ (s₁.setTop (mkF m 134 #[.val (.int p0), .val (.long p1), .second, .val (.int p2), .val (.int p3), .val (.int p4), .val (.int p5), .val (.int (2 : Int32)), .val (.int (0 : Int32)), .val (.long v78), .second, .val (.long v89), .second, .val (.long v100), .second, .val (.long v111), .second, .val (.long v128), .second, .unset, .unset, .unset, .unset] [(.int (3 : Int32)), (.int (2 : Int32))]))
      have hc134 : (2 : Int32) < (3 : Int32) := by decide
      refine Dn.st (fun _ kk => XS.icmpYes X0.here hx rfl (pc0 := 134) (pc' := 144) rfl (hb hby at_134) rfl (tlt hc134).1 (by decide) (by decide) (XS.iload X0.here hx rfl (hb hby at_144) rfl  (XS.iconst X0.here hx rfl (hb hby at_146) (kk)))) ?_
      show Dn p e below s _ _ _ (s₁.setTop (mkF m 147 #[.val (.int p0), .val (.long p1), .second, .val (.int p2), .val (.int p3), .val (.int p4), .val (.int p5), .val (.int (2 : Int32)), .val (.int (0 : Int32)), .val (.long v78), .second, .val (.long v89), .second, .val (.long v100), .second, .val (.long v111), .second, .val (.long v128), .second, .unset, .unset, .unset, .unset] [(.int (4 : Int32)), (.int (2 : Int32))]))
      have hc147 : (2 : Int32) < (4 : Int32) := by decide
      refine Dn.st (fun _ kk => XS.icmpYes X0.here hx rfl (pc0 := 147) (pc' := 157) rfl (hb hby at_147) rfl (tlt hc147).1 (by decide) (by decide) (XS.iload X0.here hx rfl (hb hby at_157) rfl  (XS.lload X0.here hx rfl (hb hby at_159) rfl  (kk)))) ?_
      show Dn p e below s _ _ _ (s₁.setTop (mkF m 161 #[.val (.int p0), .val (.long p1), .second, .val (.int p2), .val (.int p3), .val (.int p4), .val (.int p5), .val (.int (2 : Int32)), .val (.int (0 : Int32)), .val (.long v78), .second, .val (.long v89), .second, .val (.long v100), .second, .val (.long v111), .second, .val (.long v128), .second, .unset, .unset, .unset, .unset] [(.long v78), (.int (2 : Int32))]))
      have d161 := DS.l2d (v := v78) (by omega)
      refine Dn.st (fun _ kk => XS.l2dS X0.here hx rfl (hb hby at_161) rfl rfl (kk)) ?_
      show Dn p e below s _ _ _ (s₁.setTop (mkF m 162 #[.val (.int p0), .val (.long p1), .second, .val (.int p2), .val (.int p3), .val (.int p4), .val (.int p5), .val (.int (2 : Int32)), .val (.int (0 : Int32)), .val (.long v78), .second, .val (.long v89), .second, .val (.long v100), .second, .val (.long v111), .second, .val (.long v128), .second, .unset, .unset, .unset, .unset] [(.double (FP.l2d v78)), (.int (2 : Int32))]))
      generalize hv161 : ((FP.l2d v78) : UInt64) = v161 at d161 ⊢
      show Dn p e below s _ _ _ (s₁.setTop (mkF m 162 #[.val (.int p0), .val (.long p1), .second, .val (.int p2), .val (.int p3), .val (.int p4), .val (.int p5), .val (.int (2 : Int32)), .val (.int (0 : Int32)), .val (.long v78), .second, .val (.long v89), .second, .val (.long v100), .second, .val (.long v111), .second, .val (.long v128), .second, .unset, .unset, .unset, .unset] [(.double v161), (.int (2 : Int32))]))
      refine Dn.st (fun _ kk => XS.lload X0.here hx rfl (hb hby at_162) rfl  (kk)) ?_
      show Dn p e below s _ _ _ (s₁.setTop (mkF m 164 #[.val (.int p0), .val (.long p1), .second, .val (.int p2), .val (.int p3), .val (.int p4), .val (.int p5), .val (.int (2 : Int32)), .val (.int (0 : Int32)), .val (.long v78), .second, .val (.long v89), .second, .val (.long v100), .second, .val (.long v111), .second, .val (.long v128), .second, .unset, .unset, .unset, .unset] [(.long v89), (.double v161), (.int (2 : Int32))]))
      have d164 := DS.l2d (v := v89) (by omega)
      refine Dn.st (fun _ kk => XS.l2dS X0.here hx rfl (hb hby at_164) rfl rfl (kk)) ?_
      show Dn p e below s _ _ _ (s₁.setTop (mkF m 165 #[.val (.int p0), .val (.long p1), .second, .val (.int p2), .val (.int p3), .val (.int p4), .val (.int p5), .val (.int (2 : Int32)), .val (.int (0 : Int32)), .val (.long v78), .second, .val (.long v89), .second, .val (.long v100), .second, .val (.long v111), .second, .val (.long v128), .second, .unset, .unset, .unset, .unset] [(.double (FP.l2d v89)), (.double v161), (.int (2 : Int32))]))
      generalize hv164 : ((FP.l2d v89) : UInt64) = v164 at d164 ⊢
      show Dn p e below s _ _ _ (s₁.setTop (mkF m 165 #[.val (.int p0), .val (.long p1), .second, .val (.int p2), .val (.int p3), .val (.int p4), .val (.int p5), .val (.int (2 : Int32)), .val (.int (0 : Int32)), .val (.long v78), .second, .val (.long v89), .second, .val (.long v100), .second, .val (.long v111), .second, .val (.long v128), .second, .unset, .unset, .unset, .unset] [(.double v164), (.double v161), (.int (2 : Int32))]))
      refine Dn.st (fun _ kk => XS.lload X0.here hx rfl (hb hby at_165) rfl  (kk)) ?_
      show Dn p e below s _ _ _ (s₁.setTop (mkF m 167 #[.val (.int p0), .val (.long p1), .second, .val (.int p2), .val (.int p3), .val (.int p4), .val (.int p5), .val (.int (2 : Int32)), .val (.int (0 : Int32)), .val (.long v78), .second, .val (.long v89), .second, .val (.long v100), .second, .val (.long v111), .second, .val (.long v128), .second, .unset, .unset, .unset, .unset] [(.long v100), (.double v164), (.double v161), (.int (2 : Int32))]))
      have d167 := DS.l2d (v := v100) (by omega)
      refine Dn.st (fun _ kk => XS.l2dS X0.here hx rfl (hb hby at_167) rfl rfl (kk)) ?_
      show Dn p e below s _ _ _ (s₁.setTop (mkF m 168 #[.val (.int p0), .val (.long p1), .second, .val (.int p2), .val (.int p3), .val (.int p4), .val (.int p5), .val (.int (2 : Int32)), .val (.int (0 : Int32)), .val (.long v78), .second, .val (.long v89), .second, .val (.long v100), .second, .val (.long v111), .second, .val (.long v128), .second, .unset, .unset, .unset, .unset] [(.double (FP.l2d v100)), (.double v164), (.double v161), (.int (2 : Int32))]))
      generalize hv167 : ((FP.l2d v100) : UInt64) = v167 at d167 ⊢
      show Dn p e below s _ _ _ (s₁.setTop (mkF m 168 #[.val (.int p0), .val (.long p1), .second, .val (.int p2), .val (.int p3), .val (.int p4), .val (.int p5), .val (.int (2 : Int32)), .val (.int (0 : Int32)), .val (.long v78), .second, .val (.long v89), .second, .val (.long v100), .second, .val (.long v111), .second, .val (.long v128), .second, .unset, .unset, .unset, .unset] [(.double v167), (.double v164), (.double v161), (.int (2 : Int32))]))
      refine Dn.st (fun _ kk => XS.lload X0.here hx rfl (hb hby at_168) rfl  (kk)) ?_
      show Dn p e below s _ _ _ (s₁.setTop (mkF m 170 #[.val (.int p0), .val (.long p1), .second, .val (.int p2), .val (.int p3), .val (.int p4), .val (.int p5), .val (.int (2 : Int32)), .val (.int (0 : Int32)), .val (.long v78), .second, .val (.long v89), .second, .val (.long v100), .second, .val (.long v111), .second, .val (.long v128), .second, .unset, .unset, .unset, .unset] [(.long v111), (.double v167), (.double v164), (.double v161), (.int (2 : Int32))]))
      have d170 := DS.l2d (v := v111) (by omega)
      refine Dn.st (fun _ kk => XS.l2dS X0.here hx rfl (hb hby at_170) rfl rfl (kk)) ?_
      show Dn p e below s _ _ _ (s₁.setTop (mkF m 171 #[.val (.int p0), .val (.long p1), .second, .val (.int p2), .val (.int p3), .val (.int p4), .val (.int p5), .val (.int (2 : Int32)), .val (.int (0 : Int32)), .val (.long v78), .second, .val (.long v89), .second, .val (.long v100), .second, .val (.long v111), .second, .val (.long v128), .second, .unset, .unset, .unset, .unset] [(.double (FP.l2d v111)), (.double v167), (.double v164), (.double v161), (.int (2 : Int32))]))
      generalize hv170 : ((FP.l2d v111) : UInt64) = v170 at d170 ⊢
      show Dn p e below s _ _ _ (s₁.setTop (mkF m 171 #[.val (.int p0), .val (.long p1), .second, .val (.int p2), .val (.int p3), .val (.int p4), .val (.int p5), .val (.int (2 : Int32)), .val (.int (0 : Int32)), .val (.long v78), .second, .val (.long v89), .second, .val (.long v100), .second, .val (.long v111), .second, .val (.long v128), .second, .unset, .unset, .unset, .unset] [(.double v170), (.double v167), (.double v164), (.double v161), (.int (2 : Int32))]))
      obtain ⟨_, _, ⟨T171, L171, k171, n171⟩, -, X171, ⟨Lc171, hQ171, l171, y171, z171⟩, st171⟩ := Jvm.LawKit.callS X0 hx (y := (⟨"com/example/listino/listino/stats/MomentsMeanPinLaw", "build", "(IDDDD)[D"⟩ : MethodName)) hown (mvT hZ (hw _ (List.mem_of_getElem? (i := 0) rfl))) (mvT hZ (hw _ (List.mem_of_getElem? (i := 1) rfl))) (mvT hZ (hw _ (List.mem_of_getElem? (i := 2) rfl))) (mvT hZ (hw _ (List.mem_of_getElem? (i := 3) rfl))) (by decide) (backOf (W := 0) (rm1_2 l Z a0 hw []  v161 v164 v167 v170 h0 n0 Z0 ) hZ (hw _ (List.mem_of_getElem? (i := 3) rfl)) (hw _ (List.mem_of_getElem? (i := 2) rfl)) (by decide) (by decide)) (g := (mkF m 171 #[.val (.int p0), .val (.long p1), .second, .val (.int p2), .val (.int p3), .val (.int p4), .val (.int p5), .val (.int (2 : Int32)), .val (.int (0 : Int32)), .val (.long v78), .second, .val (.long v89), .second, .val (.long v100), .second, .val (.long v111), .second, .val (.long v128), .second, .unset, .unset, .unset, .unset] [(.double v170), (.double v167), (.double v164), (.double v161), (.int (2 : Int32))])) rfl (by rw [hml]; rfl) (argsL := [(.int (2 : Int32)), (.double v161), (.double v164), (.double v167), (.double v170)]) (rest := []) (lenOf pd0 rfl) rfl (by show 2 * 0 + _ ≤ _; exact Nat.le_of_eq rfl) (hb hby at_171) (fun _ _ => ⟨rfl, e0, (by decide : 0 + 1 ≤ _), (by decide : 0 + 2 ≤ _)⟩)
      dsimp only [Pt.U, Pt.locs, Pt.cells, Pt.slots] at X171 l171 y171 z171 st171 hQ171
      subst l171 y171 z171
      obtain ⟨bb171, kb171, rfl, gz171, Nq171, K171, V_bb171⟩ := hQ171
      have N171 := Fr.app N0 Nq171
      refine Dn.st st171 ?_
      have Z171 : n0 ≤ T171.heap.size := Nat.le_trans Z0 K171.1
      show Dn p e below s _ _ _ (T171.setTop (mkF m 174 #[.val (.int p0), .val (.long p1), .second, .val (.int p2), .val (.int p3), .val (.int p4), .val (.int p5), .val (.int (2 : Int32)), .val (.int (0 : Int32)), .val (.long v78), .second, .val (.long v89), .second, .val (.long v100), .second, .val (.long v111), .second, .val (.long v128), .second, .unset, .unset, .unset, .unset] [(.ref bb171)]))
      obtain ⟨_, _, ⟨T174, L174, k174, n174⟩, -, X174, ⟨Lc174, hQ174, l174, y174, z174⟩, st174⟩ := Jvm.LawKit.callS X171 hx (y := (⟨"com/example/listino/listino/stats/Moments", "mean", "([D)D"⟩ : MethodName)) hown (mvT hZ (hw _ (List.mem_of_getElem? (i := 5) rfl))) (mvT hZ (hw _ (List.mem_of_getElem? (i := 6) rfl))) (mvT hZ (hw _ (List.mem_of_getElem? (i := 7) rfl))) (mvT hZ (hw _ (List.mem_of_getElem? (i := 8) rfl))) (by decide) (backOf (W := 0) (rm2E_2 l Z a0 hw [] bb171 kb171 v161 v164 v78.toInt v89.toInt (v128.toInt * 2) T171.heap n0 Z171 V_bb171 d161 d164 ⟨by omega, by omega⟩ ⟨by omega, by omega⟩ (by omega)) hZ (hw _ (List.mem_of_getElem? (i := 8) rfl)) (hw _ (List.mem_of_getElem? (i := 7) rfl)) (by decide) (by decide)) (g := (mkF m 174 #[.val (.int p0), .val (.long p1), .second, .val (.int p2), .val (.int p3), .val (.int p4), .val (.int p5), .val (.int (2 : Int32)), .val (.int (0 : Int32)), .val (.long v78), .second, .val (.long v89), .second, .val (.long v100), .second, .val (.long v111), .second, .val (.long v128), .second, .unset, .unset, .unset, .unset] [(.ref bb171)])) rfl (by rw [hml]; rfl) (argsL := [(.ref bb171)]) (rest := []) (lenOf pd1 rfl) rfl (by show 2 * 0 + _ ≤ _; exact Nat.le_of_eq rfl) (hb hby at_174) (fun _ _ => ⟨rfl, rfl, (by decide : 1 + 0 ≤ _), (by decide : 2 + 0 ≤ _)⟩)
      dsimp only [Pt.U, Pt.locs, Pt.cells, Pt.slots] at X174 l174 y174 z174 st174 hQ174
      subst l174 y174 z174
      obtain ⟨z174, rfl, d174, Nq174, hh174⟩ := hQ174
      have N174 := Fr.app N171 Nq174
      refine Dn.st st174 ?_
      show Dn p e below s _ _ _ (T174.setTop (mkF m 177 #[.val (.int p0), .val (.long p1), .second, .val (.int p2), .val (.int p3), .val (.int p4), .val (.int p5), .val (.int (2 : Int32)), .val (.int (0 : Int32)), .val (.long v78), .second, .val (.long v89), .second, .val (.long v100), .second, .val (.long v111), .second, .val (.long v128), .second, .unset, .unset, .unset, .unset] [(.double z174)]))
      refine Dn.st (fun _ kk => XS.dstore X174.here hx rfl (hb hby at_177) rfl (l' := #[.val (.int p0), .val (.long p1), .second, .val (.int p2), .val (.int p3), .val (.int p4), .val (.int p5), .val (.int (2 : Int32)), .val (.int (0 : Int32)), .val (.long v78), .second, .val (.long v89), .second, .val (.long v100), .second, .val (.long v111), .second, .val (.long v128), .second, .val (.double z174), .second, .unset, .unset]) rfl (XS.iload X174.here hx rfl (hb hby at_179) rfl  (XS.iconst X174.here hx rfl (hb hby at_181) (kk)))) ?_
      show Dn p e below s _ _ _ (T174.setTop (mkF m 182 #[.val (.int p0), .val (.long p1), .second, .val (.int p2), .val (.int p3), .val (.int p4), .val (.int p5), .val (.int (2 : Int32)), .val (.int (0 : Int32)), .val (.long v78), .second, .val (.long v89), .second, .val (.long v100), .second, .val (.long v111), .second, .val (.long v128), .second, .val (.double z174), .second, .unset, .unset] [(.int (3 : Int32)), (.int (2 : Int32))]))
      have hc182 : ¬ ((2 : Int32) = (3 : Int32)) := by decide
      refine Dn.st (fun _ kk => XS.icmpYes X174.here hx rfl (pc0 := 182) (pc' := 196) rfl (hb hby at_182) rfl (feq hc182).2 (by decide) (by decide) (XS.dload X174.here hx rfl (hb hby at_196) rfl  (XS.lload X174.here hx rfl (hb hby at_198) rfl  (kk)))) ?_
      show Dn p e below s _ _ _ (T174.setTop (mkF m 200 #[.val (.int p0), .val (.long p1), .second, .val (.int p2), .val (.int p3), .val (.int p4), .val (.int p5), .val (.int (2 : Int32)), .val (.int (0 : Int32)), .val (.long v78), .second, .val (.long v89), .second, .val (.long v100), .second, .val (.long v111), .second, .val (.long v128), .second, .val (.double z174), .second, .unset, .unset] [(.long v128), (.double z174)]))
      have d200 := DS.l2d (v := v128) (by omega)
      refine Dn.st (fun _ kk => XS.l2dS X174.here hx rfl (hb hby at_200) rfl rfl (kk)) ?_
      show Dn p e below s _ _ _ (T174.setTop (mkF m 201 #[.val (.int p0), .val (.long p1), .second, .val (.int p2), .val (.int p3), .val (.int p4), .val (.int p5), .val (.int (2 : Int32)), .val (.int (0 : Int32)), .val (.long v78), .second, .val (.long v89), .second, .val (.long v100), .second, .val (.long v111), .second, .val (.long v128), .second, .val (.double z174), .second, .unset, .unset] [(.double (FP.l2d v128)), (.double z174)]))
      generalize hv200 : ((FP.l2d v128) : UInt64) = v200 at d200 ⊢
      show Dn p e below s _ _ _ (T174.setTop (mkF m 201 #[.val (.int p0), .val (.long p1), .second, .val (.int p2), .val (.int p3), .val (.int p4), .val (.int p5), .val (.int (2 : Int32)), .val (.int (0 : Int32)), .val (.long v78), .second, .val (.long v89), .second, .val (.long v100), .second, .val (.long v111), .second, .val (.long v128), .second, .val (.double z174), .second, .unset, .unset] [(.double v200), (.double z174)]))
      refine Dn.st (fun _ kk => XS.iload X174.here hx rfl (hb hby at_201) rfl  (kk)) ?_
      show Dn p e below s _ _ _ (T174.setTop (mkF m 203 #[.val (.int p0), .val (.long p1), .second, .val (.int p2), .val (.int p3), .val (.int p4), .val (.int p5), .val (.int (2 : Int32)), .val (.int (0 : Int32)), .val (.long v78), .second, .val (.long v89), .second, .val (.long v100), .second, .val (.long v111), .second, .val (.long v128), .second, .val (.double z174), .second, .unset, .unset] [(.int (2 : Int32)), (.double v200), (.double z174)]))
      have d203 := DS.i2d (2 : Int32)
      refine Dn.st (fun _ kk => XS.i2dS X174.here hx rfl (hb hby at_203) rfl rfl (kk)) ?_
      show Dn p e below s _ _ _ (T174.setTop (mkF m 204 #[.val (.int p0), .val (.long p1), .second, .val (.int p2), .val (.int p3), .val (.int p4), .val (.int p5), .val (.int (2 : Int32)), .val (.int (0 : Int32)), .val (.long v78), .second, .val (.long v89), .second, .val (.long v100), .second, .val (.long v111), .second, .val (.long v128), .second, .val (.double z174), .second, .unset, .unset] [(.double (FP.i2d (2 : Int32))), (.double v200), (.double z174)]))
      generalize hv203 : ((FP.i2d (2 : Int32)) : UInt64) = v203 at d203 ⊢
      show Dn p e below s _ _ _ (T174.setTop (mkF m 204 #[.val (.int p0), .val (.long p1), .second, .val (.int p2), .val (.int p3), .val (.int p4), .val (.int p5), .val (.int (2 : Int32)), .val (.int (0 : Int32)), .val (.long v78), .second, .val (.long v89), .second, .val (.long v100), .second, .val (.long v111), .second, .val (.long v128), .second, .val (.double z174), .second, .unset, .unset] [(.double v203), (.double v200), (.double z174)]))
      have d204 : DS 2 (v128.toInt * 2) (FP.ddiv v200 v203) := DS.div (n := 2) (Q := (v128.toInt * 2)) d200 (DS.cast (i' := 2) d203 rfl (by decide)) (by decide) (by show _ * 4 = _ * 1; omega) (by omega) (by decide)
      refine Dn.st (fun _ kk => XS.ddivS X174.here hx rfl (hb hby at_204) rfl d204.nn rfl (kk)) ?_
      show Dn p e below s _ _ _ (T174.setTop (mkF m 205 #[.val (.int p0), .val (.long p1), .second, .val (.int p2), .val (.int p3), .val (.int p4), .val (.int p5), .val (.int (2 : Int32)), .val (.int (0 : Int32)), .val (.long v78), .second, .val (.long v89), .second, .val (.long v100), .second, .val (.long v111), .second, .val (.long v128), .second, .val (.double z174), .second, .unset, .unset] [(.double (FP.ddiv v200 v203)), (.double z174)]))
      generalize hv204 : ((FP.ddiv v200 v203) : UInt64) = v204 at d204 ⊢
      show Dn p e below s _ _ _ (T174.setTop (mkF m 205 #[.val (.int p0), .val (.long p1), .second, .val (.int p2), .val (.int p3), .val (.int p4), .val (.int p5), .val (.int (2 : Int32)), .val (.int (0 : Int32)), .val (.long v78), .second, .val (.long v89), .second, .val (.long v100), .second, .val (.long v111), .second, .val (.long v128), .second, .val (.double z174), .second, .unset, .unset] [(.double v204), (.double z174)]))
      refine Dn.st (fun _ kk => XS.dcmpS X174.here hx rfl (hb hby at_205) rfl (DS.cmpV d174 d204 _) (kk)) ?_
      show Dn p e below s _ _ _ (T174.setTop (mkF m 206 #[.val (.int p0), .val (.long p1), .second, .val (.int p2), .val (.int p3), .val (.int p4), .val (.int p5), .val (.int (2 : Int32)), .val (.int (0 : Int32)), .val (.long v78), .second, .val (.long v89), .second, .val (.long v100), .second, .val (.long v111), .second, .val (.long v128), .second, .val (.double z174), .second, .unset, .unset] [(.int (c3 (v128.toInt * 2) (v128.toInt * 2)))]))
      have hc206 : (c3 (v128.toInt * 2) (v128.toInt * 2)) = (0 : Int32) := (c3_eq _ _).mpr rfl
      refine Dn.st (fun _ kk => XS.ifNo X174.here hx rfl (hb hby at_206) rfl ((if0 _ _).trans (teq hc206).2) (XS.iconst X174.here hx rfl (hb hby at_209) (XS.goto X174.here hx rfl (pc0 := 210) (pc' := 214) rfl (hb hby at_210) (by decide) (by decide) (kk)))) ?_
      show Dn p e below s _ _ _ (T174.setTop (mkF m 214 #[.val (.int p0), .val (.long p1), .second, .val (.int p2), .val (.int p3), .val (.int p4), .val (.int p5), .val (.int (2 : Int32)), .val (.int (0 : Int32)), .val (.long v78), .second, .val (.long v89), .second, .val (.long v100), .second, .val (.long v111), .second, .val (.long v128), .second, .val (.double z174), .second, .unset, .unset] [(.int (1 : Int32))]))
      exact Dn.ret X174 hlk hx hret rfl (Or.inl ⟨rfl, Or.inr (Or.inl rfl), _, rfl⟩) (hb hby at_214) (by rw [hh174]; exact ⟨rfl, N174⟩) (by decide) (by decide)
    · have hi12 : ¬ v11.toInt = 0 := fun qq => hc12 (Int32.toInt_inj.mp qq)
      refine Dn.st (fun _ kk => XS.ifNo X0.here hx rfl (hb hby at_12) rfl ((if0 _ _).trans (feq hc12).1) (XS.iconst X0.here hx rfl (hb hby at_15) (XS.goto X0.here hx rfl (pc0 := 16) (pc' := 20) rfl (hb hby at_16) (by decide) (by decide) (XS.istore X0.here hx rfl (hb hby at_20) rfl (l' := #[.val (.int p0), .val (.long p1), .second, .val (.int p2), .val (.int p3), .val (.int p4), .val (.int p5), .val (.int (2 : Int32)), .val (.int (1 : Int32)), .unset, .unset, .unset, .unset, .unset, .unset, .unset, .unset, .unset, .unset, .unset, .unset, .unset, .unset]) rfl (XS.iload X0.here hx rfl (hb hby at_22) rfl  (kk)))))) ?_
      show Dn p e below s _ _ _ (s₁.setTop (mkF m 24 #[.val (.int p0), .val (.long p1), .second, .val (.int p2), .val (.int p3), .val (.int p4), .val (.int p5), .val (.int (2 : Int32)), .val (.int (1 : Int32)), .unset, .unset, .unset, .unset, .unset, .unset, .unset, .unset, .unset, .unset, .unset, .unset, .unset, .unset] [(.int (1 : Int32))]))
      have hc24 : ¬ ((1 : Int32) = (0 : Int32)) := by decide
      refine Dn.st (fun _ kk => XS.ifNo X0.here hx rfl (hb hby at_24) rfl ((if0 _ _).trans (feq hc24).1) (XS.lloadN X0.here hx rfl (hb hby at_27) rfl  (X0.ldc2Long hx hown (mvT hZ (hw _ (List.mem_of_getElem? (i := 9) rfl))) (g := (mkF m 28 #[.val (.int p0), .val (.long p1), .second, .val (.int p2), .val (.int p3), .val (.int p4), .val (.int p5), .val (.int (2 : Int32)), .val (.int (1 : Int32)), .unset, .unset, .unset, .unset, .unset, .unset, .unset, .unset, .unset, .unset, .unset, .unset, .unset, .unset] [(.long p1)])) rfl (hb hby at_28) _ (XS.lrem X0.here hx rfl (hb hby at_31) rfl (by decide) (kk))))) ?_
      show Dn p e below s _ _ _ (s₁.setTop (mkF m 32 #[.val (.int p0), .val (.long p1), .second, .val (.int p2), .val (.int p3), .val (.int p4), .val (.int p5), .val (.int (2 : Int32)), .val (.int (1 : Int32)), .unset, .unset, .unset, .unset, .unset, .unset, .unset, .unset, .unset, .unset, .unset, .unset, .unset, .unset] [(.long (p1 - (p1 / (9007199254740992 : Int64)) * (9007199254740992 : Int64)))]))
      generalize hv31 : ((p1 - (p1 / (9007199254740992 : Int64)) * (9007199254740992 : Int64)) : Int64) = v31
      have q31 : (0 ≤ p1.toInt → v31.toInt = p1.toInt % 9007199254740992) ∧ (p1.toInt < 0 → v31.toInt = -((-p1.toInt) % 9007199254740992)) := by have qq := c_lrem p1 (9007199254740992 : Int64) 9007199254740992 rfl; rw [hv31] at qq; exact qq
      have r31 := rng64 v31
      show Dn p e below s _ _ _ (s₁.setTop (mkF m 32 #[.val (.int p0), .val (.long p1), .second, .val (.int p2), .val (.int p3), .val (.int p4), .val (.int p5), .val (.int (2 : Int32)), .val (.int (1 : Int32)), .unset, .unset, .unset, .unset, .unset, .unset, .unset, .unset, .unset, .unset, .unset, .unset, .unset, .unset] [(.long v31)]))
      refine Dn.st (fun _ kk => XS.lstore X0.here hx rfl (hb hby at_32) rfl (l' := #[.val (.int p0), .val (.long p1), .second, .val (.int p2), .val (.int p3), .val (.int p4), .val (.int p5), .val (.int (2 : Int32)), .val (.int (1 : Int32)), .val (.long v31), .second, .unset, .unset, .unset, .unset, .unset, .unset, .unset, .unset, .unset, .unset, .unset, .unset]) rfl (XS.lload X0.here hx rfl (hb hby at_34) rfl  (kk))) ?_
      show Dn p e below s _ _ _ (s₁.setTop (mkF m 36 #[.val (.int p0), .val (.long p1), .second, .val (.int p2), .val (.int p3), .val (.int p4), .val (.int p5), .val (.int (2 : Int32)), .val (.int (1 : Int32)), .val (.long v31), .second, .unset, .unset, .unset, .unset, .unset, .unset, .unset, .unset, .unset, .unset, .unset, .unset] [(.long v31)]))
      have d36 := DS.l2d (v := v31) (by omega)
      refine Dn.st (fun _ kk => XS.l2dS X0.here hx rfl (hb hby at_36) rfl rfl (kk)) ?_
      show Dn p e below s _ _ _ (s₁.setTop (mkF m 37 #[.val (.int p0), .val (.long p1), .second, .val (.int p2), .val (.int p3), .val (.int p4), .val (.int p5), .val (.int (2 : Int32)), .val (.int (1 : Int32)), .val (.long v31), .second, .unset, .unset, .unset, .unset, .unset, .unset, .unset, .unset, .unset, .unset, .unset, .unset] [(.double (FP.l2d v31))]))
      generalize hv36 : ((FP.l2d v31) : UInt64) = v36 at d36 ⊢
      show Dn p e below s _ _ _ (s₁.setTop (mkF m 37 #[.val (.int p0), .val (.long p1), .second, .val (.int p2), .val (.int p3), .val (.int p4), .val (.int p5), .val (.int (2 : Int32)), .val (.int (1 : Int32)), .val (.long v31), .second, .unset, .unset, .unset, .unset, .unset, .unset, .unset, .unset, .unset, .unset, .unset, .unset] [(.double v36)]))
      refine Dn.st (fun _ kk => XS.dstore X0.here hx rfl (hb hby at_37) rfl (l' := #[.val (.int p0), .val (.long p1), .second, .val (.int p2), .val (.int p3), .val (.int p4), .val (.int p5), .val (.int (2 : Int32)), .val (.int (1 : Int32)), .val (.long v31), .second, .val (.double v36), .second, .unset, .unset, .unset, .unset, .unset, .unset, .unset, .unset, .unset, .unset]) rfl (XS.iload X0.here hx rfl (hb hby at_39) rfl  (XS.dload X0.here hx rfl (hb hby at_41) rfl  (XS.dload X0.here hx rfl (hb hby at_43) rfl  (XS.dload X0.here hx rfl (hb hby at_45) rfl  (XS.dload X0.here hx rfl (hb hby at_47) rfl  (kk))))))) ?_
      show Dn p e below s _ _ _ (s₁.setTop (mkF m 49 #[.val (.int p0), .val (.long p1), .second, .val (.int p2), .val (.int p3), .val (.int p4), .val (.int p5), .val (.int (2 : Int32)), .val (.int (1 : Int32)), .val (.long v31), .second, .val (.double v36), .second, .unset, .unset, .unset, .unset, .unset, .unset, .unset, .unset, .unset, .unset] [(.double v36), (.double v36), (.double v36), (.double v36), (.int (2 : Int32))]))
      obtain ⟨_, _, ⟨T49, L49, k49, n49⟩, -, X49, ⟨Lc49, hQ49, l49, y49, z49⟩, st49⟩ := Jvm.LawKit.callS X0 hx (y := (⟨"com/example/listino/listino/stats/MomentsMeanPinLaw", "build", "(IDDDD)[D"⟩ : MethodName)) hown (mvT hZ (hw _ (List.mem_of_getElem? (i := 0) rfl))) (mvT hZ (hw _ (List.mem_of_getElem? (i := 1) rfl))) (mvT hZ (hw _ (List.mem_of_getElem? (i := 2) rfl))) (mvT hZ (hw _ (List.mem_of_getElem? (i := 3) rfl))) (by decide) (backOf (W := 0) (rm1_2 l Z a0 hw []  v36 v36 v36 v36 h0 n0 Z0 ) hZ (hw _ (List.mem_of_getElem? (i := 3) rfl)) (hw _ (List.mem_of_getElem? (i := 2) rfl)) (by decide) (by decide)) (g := (mkF m 49 #[.val (.int p0), .val (.long p1), .second, .val (.int p2), .val (.int p3), .val (.int p4), .val (.int p5), .val (.int (2 : Int32)), .val (.int (1 : Int32)), .val (.long v31), .second, .val (.double v36), .second, .unset, .unset, .unset, .unset, .unset, .unset, .unset, .unset, .unset, .unset] [(.double v36), (.double v36), (.double v36), (.double v36), (.int (2 : Int32))])) rfl (by rw [hml]; rfl) (argsL := [(.int (2 : Int32)), (.double v36), (.double v36), (.double v36), (.double v36)]) (rest := []) (lenOf pd0 rfl) rfl (by show 2 * 0 + _ ≤ _; exact Nat.le_of_eq rfl) (hb hby at_49) (fun _ _ => ⟨rfl, e0, (by decide : 0 + 1 ≤ _), (by decide : 0 + 2 ≤ _)⟩)
      dsimp only [Pt.U, Pt.locs, Pt.cells, Pt.slots] at X49 l49 y49 z49 st49 hQ49
      subst l49 y49 z49
      obtain ⟨bb49, kb49, rfl, gz49, Nq49, K49, V_bb49⟩ := hQ49
      have N49 := Fr.app N0 Nq49
      refine Dn.st st49 ?_
      have Z49 : n0 ≤ T49.heap.size := Nat.le_trans Z0 K49.1
      show Dn p e below s _ _ _ (T49.setTop (mkF m 52 #[.val (.int p0), .val (.long p1), .second, .val (.int p2), .val (.int p3), .val (.int p4), .val (.int p5), .val (.int (2 : Int32)), .val (.int (1 : Int32)), .val (.long v31), .second, .val (.double v36), .second, .unset, .unset, .unset, .unset, .unset, .unset, .unset, .unset, .unset, .unset] [(.ref bb49)]))
      rcases (show (-2251799813685248 ≤ v31.toInt ∧ v31.toInt ≤ 2251799813685248) ∨ (2251799813685248 < v31.toInt ∨ v31.toInt < -2251799813685248) by omega) with hsp | hsp
      · show Dn p e below s _ _ _ (T49.setTop (mkF m 52 #[.val (.int p0), .val (.long p1), .second, .val (.int p2), .val (.int p3), .val (.int p4), .val (.int p5), .val (.int (2 : Int32)), .val (.int (1 : Int32)), .val (.long v31), .second, .val (.double v36), .second, .unset, .unset, .unset, .unset, .unset, .unset, .unset, .unset, .unset, .unset] [(.ref bb49)]))
        obtain ⟨_, _, ⟨T52, L52, k52, n52⟩, -, X52, ⟨Lc52, hQ52, l52, y52, z52⟩, st52⟩ := Jvm.LawKit.callS X49 hx (y := (⟨"com/example/listino/listino/stats/Moments", "mean", "([D)D"⟩ : MethodName)) hown (mvT hZ (hw _ (List.mem_of_getElem? (i := 5) rfl))) (mvT hZ (hw _ (List.mem_of_getElem? (i := 6) rfl))) (mvT hZ (hw _ (List.mem_of_getElem? (i := 7) rfl))) (mvT hZ (hw _ (List.mem_of_getElem? (i := 8) rfl))) (by decide) (backOf (W := 0) (rm2S_2 l Z a0 hw [] bb49 kb49 v36 v31.toInt T49.heap n0 Z49 V_bb49 d36 ⟨by omega, by omega⟩) hZ (hw _ (List.mem_of_getElem? (i := 8) rfl)) (hw _ (List.mem_of_getElem? (i := 7) rfl)) (by decide) (by decide)) (g := (mkF m 52 #[.val (.int p0), .val (.long p1), .second, .val (.int p2), .val (.int p3), .val (.int p4), .val (.int p5), .val (.int (2 : Int32)), .val (.int (1 : Int32)), .val (.long v31), .second, .val (.double v36), .second, .unset, .unset, .unset, .unset, .unset, .unset, .unset, .unset, .unset, .unset] [(.ref bb49)])) rfl (by rw [hml]; rfl) (argsL := [(.ref bb49)]) (rest := []) (lenOf pd1 rfl) rfl (by show 2 * 0 + _ ≤ _; exact Nat.le_of_eq rfl) (hb hby at_52) (fun _ _ => ⟨rfl, rfl, (by decide : 1 + 0 ≤ _), (by decide : 2 + 0 ≤ _)⟩)
        dsimp only [Pt.U, Pt.locs, Pt.cells, Pt.slots] at X52 l52 y52 z52 st52 hQ52
        subst l52 y52 z52
        obtain ⟨z52, rfl, d52, Nq52, hh52⟩ := hQ52
        have N52 := Fr.app N49 Nq52
        refine Dn.st st52 ?_
        show Dn p e below s _ _ _ (T52.setTop (mkF m 55 #[.val (.int p0), .val (.long p1), .second, .val (.int p2), .val (.int p3), .val (.int p4), .val (.int p5), .val (.int (2 : Int32)), .val (.int (1 : Int32)), .val (.long v31), .second, .val (.double v36), .second, .unset, .unset, .unset, .unset, .unset, .unset, .unset, .unset, .unset, .unset] [(.double z52)]))
        refine Dn.st (fun _ kk => XS.dstore X52.here hx rfl (hb hby at_55) rfl (l' := #[.val (.int p0), .val (.long p1), .second, .val (.int p2), .val (.int p3), .val (.int p4), .val (.int p5), .val (.int (2 : Int32)), .val (.int (1 : Int32)), .val (.long v31), .second, .val (.double v36), .second, .val (.double z52), .second, .unset, .unset, .unset, .unset, .unset, .unset, .unset, .unset]) rfl (XS.dload X52.here hx rfl (hb hby at_57) rfl  (XS.dload X52.here hx rfl (hb hby at_59) rfl  (XS.dcmpS X52.here hx rfl (hb hby at_61) rfl (DS.cmpV d52 d36 _) (kk))))) ?_
        show Dn p e below s _ _ _ (T52.setTop (mkF m 62 #[.val (.int p0), .val (.long p1), .second, .val (.int p2), .val (.int p3), .val (.int p4), .val (.int p5), .val (.int (2 : Int32)), .val (.int (1 : Int32)), .val (.long v31), .second, .val (.double v36), .second, .val (.double z52), .second, .unset, .unset, .unset, .unset, .unset, .unset, .unset, .unset] [(.int (c3 v31.toInt v31.toInt))]))
        have hc62 : (c3 v31.toInt v31.toInt) = (0 : Int32) := (c3_eq _ _).mpr rfl
        refine Dn.st (fun _ kk => XS.ifNo X52.here hx rfl (hb hby at_62) rfl ((if0 _ _).trans (teq hc62).2) (XS.iconst X52.here hx rfl (hb hby at_65) (XS.goto X52.here hx rfl (pc0 := 66) (pc' := 70) rfl (hb hby at_66) (by decide) (by decide) (kk)))) ?_
        show Dn p e below s _ _ _ (T52.setTop (mkF m 70 #[.val (.int p0), .val (.long p1), .second, .val (.int p2), .val (.int p3), .val (.int p4), .val (.int p5), .val (.int (2 : Int32)), .val (.int (1 : Int32)), .val (.long v31), .second, .val (.double v36), .second, .val (.double z52), .second, .unset, .unset, .unset, .unset, .unset, .unset, .unset, .unset] [(.int (1 : Int32))]))
        exact Dn.ret X52 hlk hx hret rfl (Or.inl ⟨rfl, Or.inr (Or.inl rfl), _, rfl⟩) (hb hby at_70) (by rw [hh52]; exact ⟨rfl, N52⟩) (by decide) (by decide)
      · show Dn p e below s _ _ _ (T49.setTop (mkF m 52 #[.val (.int p0), .val (.long p1), .second, .val (.int p2), .val (.int p3), .val (.int p4), .val (.int p5), .val (.int (2 : Int32)), .val (.int (1 : Int32)), .val (.long v31), .second, .val (.double v36), .second, .unset, .unset, .unset, .unset, .unset, .unset, .unset, .unset, .unset, .unset] [(.ref bb49)]))
        obtain ⟨_, _, ⟨T52, L52, k52, n52⟩, -, X52, ⟨Lc52, hQ52, l52, y52, z52⟩, st52⟩ := Jvm.LawKit.callS X49 hx (y := (⟨"com/example/listino/listino/stats/Moments", "mean", "([D)D"⟩ : MethodName)) hown (mvT hZ (hw _ (List.mem_of_getElem? (i := 5) rfl))) (mvT hZ (hw _ (List.mem_of_getElem? (i := 6) rfl))) (mvT hZ (hw _ (List.mem_of_getElem? (i := 7) rfl))) (mvT hZ (hw _ (List.mem_of_getElem? (i := 8) rfl))) (by decide) (backOf (W := 0) (rm2L_2 l Z a0 hw [] bb49 kb49 v36 v31.toInt T49.heap n0 Z49 V_bb49 d36 (by omega) (by omega)) hZ (hw _ (List.mem_of_getElem? (i := 8) rfl)) (hw _ (List.mem_of_getElem? (i := 7) rfl)) (by decide) (by decide)) (g := (mkF m 52 #[.val (.int p0), .val (.long p1), .second, .val (.int p2), .val (.int p3), .val (.int p4), .val (.int p5), .val (.int (2 : Int32)), .val (.int (1 : Int32)), .val (.long v31), .second, .val (.double v36), .second, .unset, .unset, .unset, .unset, .unset, .unset, .unset, .unset, .unset, .unset] [(.ref bb49)])) rfl (by rw [hml]; rfl) (argsL := [(.ref bb49)]) (rest := []) (lenOf pd1 rfl) rfl (by show 2 * 0 + _ ≤ _; exact Nat.le_of_eq rfl) (hb hby at_52) (fun _ _ => ⟨rfl, rfl, (by decide : 1 + 0 ≤ _), (by decide : 2 + 0 ≤ _)⟩)
        dsimp only [Pt.U, Pt.locs, Pt.cells, Pt.slots] at X52 l52 y52 z52 st52 hQ52
        subst l52 y52 z52
        obtain ⟨z52, rfl, d52, Nq52, hh52⟩ := hQ52
        have N52 := Fr.app N49 Nq52
        refine Dn.st st52 ?_
        show Dn p e below s _ _ _ (T52.setTop (mkF m 55 #[.val (.int p0), .val (.long p1), .second, .val (.int p2), .val (.int p3), .val (.int p4), .val (.int p5), .val (.int (2 : Int32)), .val (.int (1 : Int32)), .val (.long v31), .second, .val (.double v36), .second, .unset, .unset, .unset, .unset, .unset, .unset, .unset, .unset, .unset, .unset] [(.double z52)]))
        refine Dn.st (fun _ kk => XS.dstore X52.here hx rfl (hb hby at_55) rfl (l' := #[.val (.int p0), .val (.long p1), .second, .val (.int p2), .val (.int p3), .val (.int p4), .val (.int p5), .val (.int (2 : Int32)), .val (.int (1 : Int32)), .val (.long v31), .second, .val (.double v36), .second, .val (.double z52), .second, .unset, .unset, .unset, .unset, .unset, .unset, .unset, .unset]) rfl (XS.dload X52.here hx rfl (hb hby at_57) rfl  (XS.dload X52.here hx rfl (hb hby at_59) rfl  (XS.dcmpS X52.here hx rfl (hb hby at_61) rfl (DS.cmpV d52 d36 _) (kk))))) ?_
        show Dn p e below s _ _ _ (T52.setTop (mkF m 62 #[.val (.int p0), .val (.long p1), .second, .val (.int p2), .val (.int p3), .val (.int p4), .val (.int p5), .val (.int (2 : Int32)), .val (.int (1 : Int32)), .val (.long v31), .second, .val (.double v36), .second, .val (.double z52), .second, .unset, .unset, .unset, .unset, .unset, .unset, .unset, .unset] [(.int (c3 v31.toInt v31.toInt))]))
        have hc62 : (c3 v31.toInt v31.toInt) = (0 : Int32) := (c3_eq _ _).mpr rfl
        refine Dn.st (fun _ kk => XS.ifNo X52.here hx rfl (hb hby at_62) rfl ((if0 _ _).trans (teq hc62).2) (XS.iconst X52.here hx rfl (hb hby at_65) (XS.goto X52.here hx rfl (pc0 := 66) (pc' := 70) rfl (hb hby at_66) (by decide) (by decide) (kk)))) ?_
        show Dn p e below s _ _ _ (T52.setTop (mkF m 70 #[.val (.int p0), .val (.long p1), .second, .val (.int p2), .val (.int p3), .val (.int p4), .val (.int p5), .val (.int (2 : Int32)), .val (.int (1 : Int32)), .val (.long v31), .second, .val (.double v36), .second, .val (.double z52), .second, .unset, .unset, .unset, .unset, .unset, .unset, .unset, .unset] [(.int (1 : Int32))]))
        exact Dn.ret X52 hlk hx hret rfl (Or.inl ⟨rfl, Or.inr (Or.inl rfl), _, rfl⟩) (hb hby at_70) (by rw [hh52]; exact ⟨rfl, N52⟩) (by decide) (by decide)
  · subst hk7
    show Dn p e below s _ _ _ (s₁.setTop (mkF m 7 #[.val (.int p0), .val (.long p1), .second, .val (.int p2), .val (.int p3), .val (.int p4), .val (.int p5), .unset, .unset, .unset, .unset, .unset, .unset, .unset, .unset, .unset, .unset, .unset, .unset, .unset, .unset, .unset, .unset] [(.int (3 : Int32))]))
    refine Dn.st (fun _ kk => XS.istore X0.here hx rfl (hb hby at_7) rfl (l' := #[.val (.int p0), .val (.long p1), .second, .val (.int p2), .val (.int p3), .val (.int p4), .val (.int p5), .val (.int (3 : Int32)), .unset, .unset, .unset, .unset, .unset, .unset, .unset, .unset, .unset, .unset, .unset, .unset, .unset, .unset, .unset]) rfl (XS.iloadN X0.here hx rfl (hb hby at_9) rfl  (XS.iconst X0.here hx rfl (hb hby at_10) (XS.iand X0.here hx rfl (hb hby at_11) rfl (kk))))) ?_
    show Dn p e below s _ _ _ (s₁.setTop (mkF m 12 #[.val (.int p0), .val (.long p1), .second, .val (.int p2), .val (.int p3), .val (.int p4), .val (.int p5), .val (.int (3 : Int32)), .unset, .unset, .unset, .unset, .unset, .unset, .unset, .unset, .unset, .unset, .unset, .unset, .unset, .unset, .unset] [(.int (p0 &&& (1 : Int32)))]))
    generalize hv11 : ((p0 &&& (1 : Int32)) : Int32) = v11
    have q11 : v11.toInt = p0.toInt % 2 := by have qq := c_mask p0 (1 : Int32) 1 (by decide) (by decide); rw [hv11] at qq; exact qq
    have r11 := rng32 v11
    show Dn p e below s _ _ _ (s₁.setTop (mkF m 12 #[.val (.int p0), .val (.long p1), .second, .val (.int p2), .val (.int p3), .val (.int p4), .val (.int p5), .val (.int (3 : Int32)), .unset, .unset, .unset, .unset, .unset, .unset, .unset, .unset, .unset, .unset, .unset, .unset, .unset, .unset, .unset] [(.int v11)]))
    by_cases hc12 : v11 = (0 : Int32)
    · have hi12 : v11.toInt = 0 := congrArg Int32.toInt hc12
      refine Dn.st (fun _ kk => XS.ifYes X0.here hx rfl (pc0 := 12) (pc' := 19) rfl (hb hby at_12) rfl ((if0 _ _).trans (teq hc12).1) (by decide) (by decide) (XS.iconst X0.here hx rfl (hb hby at_19) (XS.istore X0.here hx rfl (hb hby at_20) rfl (l' := #[.val (.int p0), .val (.long p1), .second, .val (.int p2), .val (.int p3), .val (.int p4), .val (.int p5), .val (.int (3 : Int32)), .val (.int (0 : Int32)), .unset, .unset, .unset, .unset, .unset, .unset, .unset, .unset, .unset, .unset, .unset, .unset, .unset, .unset]) rfl (XS.iload X0.here hx rfl (hb hby at_22) rfl  (kk))))) ?_
      show Dn p e below s _ _ _ (s₁.setTop (mkF m 24 #[.val (.int p0), .val (.long p1), .second, .val (.int p2), .val (.int p3), .val (.int p4), .val (.int p5), .val (.int (3 : Int32)), .val (.int (0 : Int32)), .unset, .unset, .unset, .unset, .unset, .unset, .unset, .unset, .unset, .unset, .unset, .unset, .unset, .unset] [(.int (0 : Int32))]))
      have hc24 : (0 : Int32) = (0 : Int32) := by decide
      refine Dn.st (fun _ kk => XS.ifYes X0.here hx rfl (pc0 := 24) (pc' := 71) rfl (hb hby at_24) rfl ((if0 _ _).trans (teq hc24).1) (by decide) (by decide) (XS.iloadN X0.here hx rfl (hb hby at_71) rfl  (XS.bipush X0.here hx rfl (hb hby at_72) (XS.ishl X0.here hx rfl (hb hby at_74) rfl (kk))))) ?_
      show Dn p e below s _ _ _ (s₁.setTop (mkF m 75 #[.val (.int p0), .val (.long p1), .second, .val (.int p2), .val (.int p3), .val (.int p4), .val (.int p5), .val (.int (3 : Int32)), .val (.int (0 : Int32)), .unset, .unset, .unset, .unset, .unset, .unset, .unset, .unset, .unset, .unset, .unset, .unset, .unset, .unset] [(.int (p2 <<< ((12 : Int32) &&& 31)))]))
      generalize hv74 : ((p2 <<< ((12 : Int32) &&& 31)) : Int32) = v74
      have q74 : (v74.toInt - p2.toInt * 4096) % 4294967296 = 0 := by have qq := c_ishl p2 (12 : Int32) 12 (by decide); rw [hv74] at qq; exact qq
      have r74 := rng32 v74
      show Dn p e below s _ _ _ (s₁.setTop (mkF m 75 #[.val (.int p0), .val (.long p1), .second, .val (.int p2), .val (.int p3), .val (.int p4), .val (.int p5), .val (.int (3 : Int32)), .val (.int (0 : Int32)), .unset, .unset, .unset, .unset, .unset, .unset, .unset, .unset, .unset, .unset, .unset, .unset, .unset, .unset] [(.int v74)]))
      refine Dn.st (fun _ kk => XS.bipush X0.here hx rfl (hb hby at_75) (XS.ishr X0.here hx rfl (hb hby at_77) rfl (kk))) ?_
      show Dn p e below s _ _ _ (s₁.setTop (mkF m 78 #[.val (.int p0), .val (.long p1), .second, .val (.int p2), .val (.int p3), .val (.int p4), .val (.int p5), .val (.int (3 : Int32)), .val (.int (0 : Int32)), .unset, .unset, .unset, .unset, .unset, .unset, .unset, .unset, .unset, .unset, .unset, .unset, .unset, .unset] [(.int (v74 >>> ((12 : Int32) &&& 31)))]))
      generalize hv77 : ((v74 >>> ((12 : Int32) &&& 31)) : Int32) = v77
      have q77 : v77.toInt = v74.toInt / 4096 := by have qq := c_ishr v74 (12 : Int32) 12 (by decide); rw [hv77] at qq; exact qq
      have r77 := rng32 v77
      show Dn p e below s _ _ _ (s₁.setTop (mkF m 78 #[.val (.int p0), .val (.long p1), .second, .val (.int p2), .val (.int p3), .val (.int p4), .val (.int p5), .val (.int (3 : Int32)), .val (.int (0 : Int32)), .unset, .unset, .unset, .unset, .unset, .unset, .unset, .unset, .unset, .unset, .unset, .unset, .unset, .unset] [(.int v77)]))
      refine Dn.st (fun _ kk => XS.i2l X0.here hx rfl (hb hby at_78) rfl (kk)) ?_
      show Dn p e below s _ _ _ (s₁.setTop (mkF m 79 #[.val (.int p0), .val (.long p1), .second, .val (.int p2), .val (.int p3), .val (.int p4), .val (.int p5), .val (.int (3 : Int32)), .val (.int (0 : Int32)), .unset, .unset, .unset, .unset, .unset, .unset, .unset, .unset, .unset, .unset, .unset, .unset, .unset, .unset] [(.long (v77.toInt64))]))
      generalize hv78 : ((v77.toInt64) : Int64) = v78
      have q78 : v78.toInt = v77.toInt := by have qq := c_i2l v77; rw [hv78] at qq; exact qq
      have r78 := rng64 v78
      show Dn p e below s _ _ _ (s₁.setTop (mkF m 79 #[.val (.int p0), .val (.long p1), .second, .val (.int p2), .val (.int p3), .val (.int p4), .val (.int p5), .val (.int (3 : Int32)), .val (.int (0 : Int32)), .unset, .unset, .unset, .unset, .unset, .unset, .unset, .unset, .unset, .unset, .unset, .unset, .unset, .unset] [(.long v78)]))
      refine Dn.st (fun _ kk => XS.lstore X0.here hx rfl (hb hby at_79) rfl (l' := #[.val (.int p0), .val (.long p1), .second, .val (.int p2), .val (.int p3), .val (.int p4), .val (.int p5), .val (.int (3 : Int32)), .val (.int (0 : Int32)), .val (.long v78), .second, .unset, .unset, .unset, .unset, .unset, .unset, .unset, .unset, .unset, .unset, .unset, .unset]) rfl (XS.iload X0.here hx rfl (hb hby at_81) rfl  (XS.bipush X0.here hx rfl (hb hby at_83) (XS.ishl X0.here hx rfl (hb hby at_85) rfl (kk))))) ?_
      show Dn p e below s _ _ _ (s₁.setTop (mkF m 86 #[.val (.int p0), .val (.long p1), .second, .val (.int p2), .val (.int p3), .val (.int p4), .val (.int p5), .val (.int (3 : Int32)), .val (.int (0 : Int32)), .val (.long v78), .second, .unset, .unset, .unset, .unset, .unset, .unset, .unset, .unset, .unset, .unset, .unset, .unset] [(.int (p3 <<< ((12 : Int32) &&& 31)))]))
      generalize hv85 : ((p3 <<< ((12 : Int32) &&& 31)) : Int32) = v85
      have q85 : (v85.toInt - p3.toInt * 4096) % 4294967296 = 0 := by have qq := c_ishl p3 (12 : Int32) 12 (by decide); rw [hv85] at qq; exact qq
      have r85 := rng32 v85
      show Dn p e below s _ _ _ (s₁.setTop (mkF m 86 #[.val (.int p0), .val (.long p1), .second, .val (.int p2), .val (.int p3), .val (.int p4), .val (.int p5), .val (.int (3 : Int32)), .val (.int (0 : Int32)), .val (.long v78), .second, .unset, .unset, .unset, .unset, .unset, .unset, .unset, .unset, .unset, .unset, .unset, .unset] [(.int v85)]))
      refine Dn.st (fun _ kk => XS.bipush X0.here hx rfl (hb hby at_86) (XS.ishr X0.here hx rfl (hb hby at_88) rfl (kk))) ?_
      show Dn p e below s _ _ _ (s₁.setTop (mkF m 89 #[.val (.int p0), .val (.long p1), .second, .val (.int p2), .val (.int p3), .val (.int p4), .val (.int p5), .val (.int (3 : Int32)), .val (.int (0 : Int32)), .val (.long v78), .second, .unset, .unset, .unset, .unset, .unset, .unset, .unset, .unset, .unset, .unset, .unset, .unset] [(.int (v85 >>> ((12 : Int32) &&& 31)))]))
      generalize hv88 : ((v85 >>> ((12 : Int32) &&& 31)) : Int32) = v88
      have q88 : v88.toInt = v85.toInt / 4096 := by have qq := c_ishr v85 (12 : Int32) 12 (by decide); rw [hv88] at qq; exact qq
      have r88 := rng32 v88
      show Dn p e below s _ _ _ (s₁.setTop (mkF m 89 #[.val (.int p0), .val (.long p1), .second, .val (.int p2), .val (.int p3), .val (.int p4), .val (.int p5), .val (.int (3 : Int32)), .val (.int (0 : Int32)), .val (.long v78), .second, .unset, .unset, .unset, .unset, .unset, .unset, .unset, .unset, .unset, .unset, .unset, .unset] [(.int v88)]))
      refine Dn.st (fun _ kk => XS.i2l X0.here hx rfl (hb hby at_89) rfl (kk)) ?_
      show Dn p e below s _ _ _ (s₁.setTop (mkF m 90 #[.val (.int p0), .val (.long p1), .second, .val (.int p2), .val (.int p3), .val (.int p4), .val (.int p5), .val (.int (3 : Int32)), .val (.int (0 : Int32)), .val (.long v78), .second, .unset, .unset, .unset, .unset, .unset, .unset, .unset, .unset, .unset, .unset, .unset, .unset] [(.long (v88.toInt64))]))
      generalize hv89 : ((v88.toInt64) : Int64) = v89
      have q89 : v89.toInt = v88.toInt := by have qq := c_i2l v88; rw [hv89] at qq; exact qq
      have r89 := rng64 v89
      show Dn p e below s _ _ _ (s₁.setTop (mkF m 90 #[.val (.int p0), .val (.long p1), .second, .val (.int p2), .val (.int p3), .val (.int p4), .val (.int p5), .val (.int (3 : Int32)), .val (.int (0 : Int32)), .val (.long v78), .second, .unset, .unset, .unset, .unset, .unset, .unset, .unset, .unset, .unset, .unset, .unset, .unset] [(.long v89)]))
      refine Dn.st (fun _ kk => XS.lstore X0.here hx rfl (hb hby at_90) rfl (l' := #[.val (.int p0), .val (.long p1), .second, .val (.int p2), .val (.int p3), .val (.int p4), .val (.int p5), .val (.int (3 : Int32)), .val (.int (0 : Int32)), .val (.long v78), .second, .val (.long v89), .second, .unset, .unset, .unset, .unset, .unset, .unset, .unset, .unset, .unset, .unset]) rfl (XS.iload X0.here hx rfl (hb hby at_92) rfl  (XS.bipush X0.here hx rfl (hb hby at_94) (XS.ishl X0.here hx rfl (hb hby at_96) rfl (kk))))) ?_
      show Dn p e below s _ _ _ (s₁.setTop (mkF m 97 #[.val (.int p0), .val (.long p1), .second, .val (.int p2), .val (.int p3), .val (.int p4), .val (.int p5), .val (.int (3 : Int32)), .val (.int (0 : Int32)), .val (.long v78), .second, .val (.long v89), .second, .unset, .unset, .unset, .unset, .unset, .unset, .unset, .unset, .unset, .unset] [(.int (p4 <<< ((12 : Int32) &&& 31)))]))
      generalize hv96 : ((p4 <<< ((12 : Int32) &&& 31)) : Int32) = v96
      have q96 : (v96.toInt - p4.toInt * 4096) % 4294967296 = 0 := by have qq := c_ishl p4 (12 : Int32) 12 (by decide); rw [hv96] at qq; exact qq
      have r96 := rng32 v96
      show Dn p e below s _ _ _ (s₁.setTop (mkF m 97 #[.val (.int p0), .val (.long p1), .second, .val (.int p2), .val (.int p3), .val (.int p4), .val (.int p5), .val (.int (3 : Int32)), .val (.int (0 : Int32)), .val (.long v78), .second, .val (.long v89), .second, .unset, .unset, .unset, .unset, .unset, .unset, .unset, .unset, .unset, .unset] [(.int v96)]))
      refine Dn.st (fun _ kk => XS.bipush X0.here hx rfl (hb hby at_97) (XS.ishr X0.here hx rfl (hb hby at_99) rfl (kk))) ?_
      show Dn p e below s _ _ _ (s₁.setTop (mkF m 100 #[.val (.int p0), .val (.long p1), .second, .val (.int p2), .val (.int p3), .val (.int p4), .val (.int p5), .val (.int (3 : Int32)), .val (.int (0 : Int32)), .val (.long v78), .second, .val (.long v89), .second, .unset, .unset, .unset, .unset, .unset, .unset, .unset, .unset, .unset, .unset] [(.int (v96 >>> ((12 : Int32) &&& 31)))]))
      generalize hv99 : ((v96 >>> ((12 : Int32) &&& 31)) : Int32) = v99
      have q99 : v99.toInt = v96.toInt / 4096 := by have qq := c_ishr v96 (12 : Int32) 12 (by decide); rw [hv99] at qq; exact qq
      have r99 := rng32 v99
      show Dn p e below s _ _ _ (s₁.setTop (mkF m 100 #[.val (.int p0), .val (.long p1), .second, .val (.int p2), .val (.int p3), .val (.int p4), .val (.int p5), .val (.int (3 : Int32)), .val (.int (0 : Int32)), .val (.long v78), .second, .val (.long v89), .second, .unset, .unset, .unset, .unset, .unset, .unset, .unset, .unset, .unset, .unset] [(.int v99)]))
      refine Dn.st (fun _ kk => XS.i2l X0.here hx rfl (hb hby at_100) rfl (kk)) ?_
      show Dn p e below s _ _ _ (s₁.setTop (mkF m 101 #[.val (.int p0), .val (.long p1), .second, .val (.int p2), .val (.int p3), .val (.int p4), .val (.int p5), .val (.int (3 : Int32)), .val (.int (0 : Int32)), .val (.long v78), .second, .val (.long v89), .second, .unset, .unset, .unset, .unset, .unset, .unset, .unset, .unset, .unset, .unset] [(.long (v99.toInt64))]))
      generalize hv100 : ((v99.toInt64) : Int64) = v100
      have q100 : v100.toInt = v99.toInt := by have qq := c_i2l v99; rw [hv100] at qq; exact qq
      have r100 := rng64 v100
      show Dn p e below s _ _ _ (s₁.setTop (mkF m 101 #[.val (.int p0), .val (.long p1), .second, .val (.int p2), .val (.int p3), .val (.int p4), .val (.int p5), .val (.int (3 : Int32)), .val (.int (0 : Int32)), .val (.long v78), .second, .val (.long v89), .second, .unset, .unset, .unset, .unset, .unset, .unset, .unset, .unset, .unset, .unset] [(.long v100)]))
      refine Dn.st (fun _ kk => XS.lstore X0.here hx rfl (hb hby at_101) rfl (l' := #[.val (.int p0), .val (.long p1), .second, .val (.int p2), .val (.int p3), .val (.int p4), .val (.int p5), .val (.int (3 : Int32)), .val (.int (0 : Int32)), .val (.long v78), .second, .val (.long v89), .second, .val (.long v100), .second, .unset, .unset, .unset, .unset, .unset, .unset, .unset, .unset]) rfl (XS.iload X0.here hx rfl (hb hby at_103) rfl  (XS.bipush X0.here hx rfl (hb hby at_105) (XS.ishl X0.here hx rfl (hb hby at_107) rfl (kk))))) ?_
      show Dn p e below s _ _ _ (s₁.setTop (mkF m 108 #[.val (.int p0), .val (.long p1), .second, .val (.int p2), .val (.int p3), .val (.int p4), .val (.int p5), .val (.int (3 : Int32)), .val (.int (0 : Int32)), .val (.long v78), .second, .val (.long v89), .second, .val (.long v100), .second, .unset, .unset, .unset, .unset, .unset, .unset, .unset, .unset] [(.int (p5 <<< ((12 : Int32) &&& 31)))]))
      generalize hv107 : ((p5 <<< ((12 : Int32) &&& 31)) : Int32) = v107
      have q107 : (v107.toInt - p5.toInt * 4096) % 4294967296 = 0 := by have qq := c_ishl p5 (12 : Int32) 12 (by decide); rw [hv107] at qq; exact qq
      have r107 := rng32 v107
      show Dn p e below s _ _ _ (s₁.setTop (mkF m 108 #[.val (.int p0), .val (.long p1), .second, .val (.int p2), .val (.int p3), .val (.int p4), .val (.int p5), .val (.int (3 : Int32)), .val (.int (0 : Int32)), .val (.long v78), .second, .val (.long v89), .second, .val (.long v100), .second, .unset, .unset, .unset, .unset, .unset, .unset, .unset, .unset] [(.int v107)]))
      refine Dn.st (fun _ kk => XS.bipush X0.here hx rfl (hb hby at_108) (XS.ishr X0.here hx rfl (hb hby at_110) rfl (kk))) ?_
      show Dn p e below s _ _ _ (s₁.setTop (mkF m 111 #[.val (.int p0), .val (.long p1), .second, .val (.int p2), .val (.int p3), .val (.int p4), .val (.int p5), .val (.int (3 : Int32)), .val (.int (0 : Int32)), .val (.long v78), .second, .val (.long v89), .second, .val (.long v100), .second, .unset, .unset, .unset, .unset, .unset, .unset, .unset, .unset] [(.int (v107 >>> ((12 : Int32) &&& 31)))]))
      generalize hv110 : ((v107 >>> ((12 : Int32) &&& 31)) : Int32) = v110
      have q110 : v110.toInt = v107.toInt / 4096 := by have qq := c_ishr v107 (12 : Int32) 12 (by decide); rw [hv110] at qq; exact qq
      have r110 := rng32 v110
      show Dn p e below s _ _ _ (s₁.setTop (mkF m 111 #[.val (.int p0), .val (.long p1), .second, .val (.int p2), .val (.int p3), .val (.int p4), .val (.int p5), .val (.int (3 : Int32)), .val (.int (0 : Int32)), .val (.long v78), .second, .val (.long v89), .second, .val (.long v100), .second, .unset, .unset, .unset, .unset, .unset, .unset, .unset, .unset] [(.int v110)]))
      refine Dn.st (fun _ kk => XS.i2l X0.here hx rfl (hb hby at_111) rfl (kk)) ?_
      show Dn p e below s _ _ _ (s₁.setTop (mkF m 112 #[.val (.int p0), .val (.long p1), .second, .val (.int p2), .val (.int p3), .val (.int p4), .val (.int p5), .val (.int (3 : Int32)), .val (.int (0 : Int32)), .val (.long v78), .second, .val (.long v89), .second, .val (.long v100), .second, .unset, .unset, .unset, .unset, .unset, .unset, .unset, .unset] [(.long (v110.toInt64))]))
      generalize hv111 : ((v110.toInt64) : Int64) = v111
      have q111 : v111.toInt = v110.toInt := by have qq := c_i2l v110; rw [hv111] at qq; exact qq
      have r111 := rng64 v111
      show Dn p e below s _ _ _ (s₁.setTop (mkF m 112 #[.val (.int p0), .val (.long p1), .second, .val (.int p2), .val (.int p3), .val (.int p4), .val (.int p5), .val (.int (3 : Int32)), .val (.int (0 : Int32)), .val (.long v78), .second, .val (.long v89), .second, .val (.long v100), .second, .unset, .unset, .unset, .unset, .unset, .unset, .unset, .unset] [(.long v111)]))
      refine Dn.st (fun _ kk => XS.lstore X0.here hx rfl (hb hby at_112) rfl (l' := #[.val (.int p0), .val (.long p1), .second, .val (.int p2), .val (.int p3), .val (.int p4), .val (.int p5), .val (.int (3 : Int32)), .val (.int (0 : Int32)), .val (.long v78), .second, .val (.long v89), .second, .val (.long v100), .second, .val (.long v111), .second, .unset, .unset, .unset, .unset, .unset, .unset]) rfl (XS.lload X0.here hx rfl (hb hby at_114) rfl  (XS.lstore X0.here hx rfl (hb hby at_116) rfl (l' := #[.val (.int p0), .val (.long p1), .second, .val (.int p2), .val (.int p3), .val (.int p4), .val (.int p5), .val (.int (3 : Int32)), .val (.int (0 : Int32)), .val (.long v78), .second, .val (.long v89), .second, .val (.long v100), .second, .val (.long v111), .second, .val (.long v78), .second, .unset, .unset, .unset, .unset]) rfl (XS.iload X0.here hx rfl (hb hby at_118) rfl  (XS.iconst X0.here hx rfl (hb hby at_120) (kk)))))) ?_
      show Dn p e below s _ _ _ (s₁.setTop (mkF m 121 #[.val (.int p0), .val (.long p1), .second, .val (.int p2), .val (.int p3), .val (.int p4), .val (.int p5), .val (.int (3 : Int32)), .val (.int (0 : Int32)), .val (.long v78), .second, .val (.long v89), .second, .val (.long v100), .second, .val (.long v111), .second, .val (.long v78), .second, .unset, .unset, .unset, .unset] [(.int (2 : Int32)), (.int (3 : Int32))]))
      have hc121 : ¬ ((3 : Int32) < (2 : Int32)) := by decide
      refine Dn.st (fun _ kk => XS.icmpNo X0.here hx rfl (hb hby at_121) rfl (flt hc121).1 (XS.lload X0.here hx rfl (hb hby at_124) rfl  (XS.lload X0.here hx rfl (hb hby at_126) rfl  (XS.ladd X0.here hx rfl (hb hby at_128) rfl (kk))))) ?_
      show Dn p e below s _ _ _ (s₁.setTop (mkF m 129 #[.val (.int p0), .val (.long p1), .second, .val (.int p2), .val (.int p3), .val (.int p4), .val (.int p5), .val (.int (3 : Int32)), .val (.int (0 : Int32)), .val (.long v78), .second, .val (.long v89), .second, .val (.long v100), .second, .val (.long v111), .second, .val (.long v78), .second, .unset, .unset, .unset, .unset] [(.long (v78 + v89))]))
      generalize hv128 : ((v78 + v89) : Int64) = v128
      have q128 : (v128.toInt - (v78.toInt + v89.toInt)) % 18446744073709551616 = 0 := by have qq := c_ladd v78 v89; rw [hv128] at qq; exact qq
      have r128 := rng64 v128
      have x128 : v128.toInt = v78.toInt + v89.toInt := by omega
      show Dn p e below s _ _ _ (s₁.setTop (mkF m 129 #[.val (.int p0), .val (.long p1), .second, .val (.int p2), .val (.int p3), .val (.int p4), .val (.int p5), .val (.int (3 : Int32)), .val (.int (0 : Int32)), .val (.long v78), .second, .val (.long v89), .second, .val (.long v100), .second, .val (.long v111), .second, .val (.long v78), .second, .unset, .unset, .unset, .unset] [(.long v128)]))
      refine Dn.st (fun _ kk => XS.lstore X0.here hx rfl (hb hby at_129) rfl (l' := #[.val (.int p0), .val (.long p1), .second, .val (.int p2), .val (.int p3), .val (.int p4), .val (.int p5), .val (.int (3 : Int32)), .val (.int (0 : Int32)), .val (.long v78), .second, .val (.long v89), .second, .val (.long v100), .second, .val (.long v111), .second, .val (.long v128), .second, .unset, .unset, .unset, .unset]) rfl (XS.iload X0.here hx rfl (hb hby at_131) rfl  (XS.iconst X0.here hx rfl (hb hby at_133) (kk)))) ?_
      show Dn p e below s _ _ _ (s₁.setTop (mkF m 134 #[.val (.int p0), .val (.long p1), .second, .val (.int p2), .val (.int p3), .val (.int p4), .val (.int p5), .val (.int (3 : Int32)), .val (.int (0 : Int32)), .val (.long v78), .second, .val (.long v89), .second, .val (.long v100), .second, .val (.long v111), .second, .val (.long v128), .second, .unset, .unset, .unset, .unset] [(.int (3 : Int32)), (.int (3 : Int32))]))
      have hc134 : ¬ ((3 : Int32) < (3 : Int32)) := by decide
      refine Dn.st (fun _ kk => XS.icmpNo X0.here hx rfl (hb hby at_134) rfl (flt hc134).1 (XS.lload X0.here hx rfl (hb hby at_137) rfl  (XS.lload X0.here hx rfl (hb hby at_139) rfl  (XS.ladd X0.here hx rfl (hb hby at_141) rfl (kk))))) ?_
      show Dn p e below s _ _ _ (s₁.setTop (mkF m 142 #[.val (.int p0), .val (.long p1), .second, .val (.int p2), .val (.int p3), .val (.int p4), .val (.int p5), .val (.int (3 : Int32)), .val (.int (0 : Int32)), .val (.long v78), .second, .val (.long v89), .second, .val (.long v100), .second, .val (.long v111), .second, .val (.long v128), .second, .unset, .unset, .unset, .unset] [(.long (v128 + v100))]))
      generalize hv141 : ((v128 + v100) : Int64) = v141
      have q141 : (v141.toInt - (v128.toInt + v100.toInt)) % 18446744073709551616 = 0 := by have qq := c_ladd v128 v100; rw [hv141] at qq; exact qq
      have r141 := rng64 v141
      have x141 : v141.toInt = v128.toInt + v100.toInt := by omega
      show Dn p e below s _ _ _ (s₁.setTop (mkF m 142 #[.val (.int p0), .val (.long p1), .second, .val (.int p2), .val (.int p3), .val (.int p4), .val (.int p5), .val (.int (3 : Int32)), .val (.int (0 : Int32)), .val (.long v78), .second, .val (.long v89), .second, .val (.long v100), .second, .val (.long v111), .second, .val (.long v128), .second, .unset, .unset, .unset, .unset] [(.long v141)]))
      refine Dn.st (fun _ kk => XS.lstore X0.here hx rfl (hb hby at_142) rfl (l' := #[.val (.int p0), .val (.long p1), .second, .val (.int p2), .val (.int p3), .val (.int p4), .val (.int p5), .val (.int (3 : Int32)), .val (.int (0 : Int32)), .val (.long v78), .second, .val (.long v89), .second, .val (.long v100), .second, .val (.long v111), .second, .val (.long v141), .second, .unset, .unset, .unset, .unset]) rfl (XS.iload X0.here hx rfl (hb hby at_144) rfl  (XS.iconst X0.here hx rfl (hb hby at_146) (kk)))) ?_
      show Dn p e below s _ _ _ (s₁.setTop (mkF m 147 #[.val (.int p0), .val (.long p1), .second, .val (.int p2), .val (.int p3), .val (.int p4), .val (.int p5), .val (.int (3 : Int32)), .val (.int (0 : Int32)), .val (.long v78), .second, .val (.long v89), .second, .val (.long v100), .second, .val (.long v111), .second, .val (.long v141), .second, .unset, .unset, .unset, .unset] [(.int (4 : Int32)), (.int (3 : Int32))]))
      have hc147 : (3 : Int32) < (4 : Int32) := by decide
      refine Dn.st (fun _ kk => XS.icmpYes X0.here hx rfl (pc0 := 147) (pc' := 157) rfl (hb hby at_147) rfl (tlt hc147).1 (by decide) (by decide) (XS.iload X0.here hx rfl (hb hby at_157) rfl  (XS.lload X0.here hx rfl (hb hby at_159) rfl  (kk)))) ?_
      show Dn p e below s _ _ _ (s₁.setTop (mkF m 161 #[.val (.int p0), .val (.long p1), .second, .val (.int p2), .val (.int p3), .val (.int p4), .val (.int p5), .val (.int (3 : Int32)), .val (.int (0 : Int32)), .val (.long v78), .second, .val (.long v89), .second, .val (.long v100), .second, .val (.long v111), .second, .val (.long v141), .second, .unset, .unset, .unset, .unset] [(.long v78), (.int (3 : Int32))]))
      have d161 := DS.l2d (v := v78) (by omega)
      refine Dn.st (fun _ kk => XS.l2dS X0.here hx rfl (hb hby at_161) rfl rfl (kk)) ?_
      show Dn p e below s _ _ _ (s₁.setTop (mkF m 162 #[.val (.int p0), .val (.long p1), .second, .val (.int p2), .val (.int p3), .val (.int p4), .val (.int p5), .val (.int (3 : Int32)), .val (.int (0 : Int32)), .val (.long v78), .second, .val (.long v89), .second, .val (.long v100), .second, .val (.long v111), .second, .val (.long v141), .second, .unset, .unset, .unset, .unset] [(.double (FP.l2d v78)), (.int (3 : Int32))]))
      generalize hv161 : ((FP.l2d v78) : UInt64) = v161 at d161 ⊢
      show Dn p e below s _ _ _ (s₁.setTop (mkF m 162 #[.val (.int p0), .val (.long p1), .second, .val (.int p2), .val (.int p3), .val (.int p4), .val (.int p5), .val (.int (3 : Int32)), .val (.int (0 : Int32)), .val (.long v78), .second, .val (.long v89), .second, .val (.long v100), .second, .val (.long v111), .second, .val (.long v141), .second, .unset, .unset, .unset, .unset] [(.double v161), (.int (3 : Int32))]))
      refine Dn.st (fun _ kk => XS.lload X0.here hx rfl (hb hby at_162) rfl  (kk)) ?_
      show Dn p e below s _ _ _ (s₁.setTop (mkF m 164 #[.val (.int p0), .val (.long p1), .second, .val (.int p2), .val (.int p3), .val (.int p4), .val (.int p5), .val (.int (3 : Int32)), .val (.int (0 : Int32)), .val (.long v78), .second, .val (.long v89), .second, .val (.long v100), .second, .val (.long v111), .second, .val (.long v141), .second, .unset, .unset, .unset, .unset] [(.long v89), (.double v161), (.int (3 : Int32))]))
      have d164 := DS.l2d (v := v89) (by omega)
      refine Dn.st (fun _ kk => XS.l2dS X0.here hx rfl (hb hby at_164) rfl rfl (kk)) ?_
      show Dn p e below s _ _ _ (s₁.setTop (mkF m 165 #[.val (.int p0), .val (.long p1), .second, .val (.int p2), .val (.int p3), .val (.int p4), .val (.int p5), .val (.int (3 : Int32)), .val (.int (0 : Int32)), .val (.long v78), .second, .val (.long v89), .second, .val (.long v100), .second, .val (.long v111), .second, .val (.long v141), .second, .unset, .unset, .unset, .unset] [(.double (FP.l2d v89)), (.double v161), (.int (3 : Int32))]))
      generalize hv164 : ((FP.l2d v89) : UInt64) = v164 at d164 ⊢
      show Dn p e below s _ _ _ (s₁.setTop (mkF m 165 #[.val (.int p0), .val (.long p1), .second, .val (.int p2), .val (.int p3), .val (.int p4), .val (.int p5), .val (.int (3 : Int32)), .val (.int (0 : Int32)), .val (.long v78), .second, .val (.long v89), .second, .val (.long v100), .second, .val (.long v111), .second, .val (.long v141), .second, .unset, .unset, .unset, .unset] [(.double v164), (.double v161), (.int (3 : Int32))]))
      refine Dn.st (fun _ kk => XS.lload X0.here hx rfl (hb hby at_165) rfl  (kk)) ?_
      show Dn p e below s _ _ _ (s₁.setTop (mkF m 167 #[.val (.int p0), .val (.long p1), .second, .val (.int p2), .val (.int p3), .val (.int p4), .val (.int p5), .val (.int (3 : Int32)), .val (.int (0 : Int32)), .val (.long v78), .second, .val (.long v89), .second, .val (.long v100), .second, .val (.long v111), .second, .val (.long v141), .second, .unset, .unset, .unset, .unset] [(.long v100), (.double v164), (.double v161), (.int (3 : Int32))]))
      have d167 := DS.l2d (v := v100) (by omega)
      refine Dn.st (fun _ kk => XS.l2dS X0.here hx rfl (hb hby at_167) rfl rfl (kk)) ?_
      show Dn p e below s _ _ _ (s₁.setTop (mkF m 168 #[.val (.int p0), .val (.long p1), .second, .val (.int p2), .val (.int p3), .val (.int p4), .val (.int p5), .val (.int (3 : Int32)), .val (.int (0 : Int32)), .val (.long v78), .second, .val (.long v89), .second, .val (.long v100), .second, .val (.long v111), .second, .val (.long v141), .second, .unset, .unset, .unset, .unset] [(.double (FP.l2d v100)), (.double v164), (.double v161), (.int (3 : Int32))]))
      generalize hv167 : ((FP.l2d v100) : UInt64) = v167 at d167 ⊢
      show Dn p e below s _ _ _ (s₁.setTop (mkF m 168 #[.val (.int p0), .val (.long p1), .second, .val (.int p2), .val (.int p3), .val (.int p4), .val (.int p5), .val (.int (3 : Int32)), .val (.int (0 : Int32)), .val (.long v78), .second, .val (.long v89), .second, .val (.long v100), .second, .val (.long v111), .second, .val (.long v141), .second, .unset, .unset, .unset, .unset] [(.double v167), (.double v164), (.double v161), (.int (3 : Int32))]))
      refine Dn.st (fun _ kk => XS.lload X0.here hx rfl (hb hby at_168) rfl  (kk)) ?_
      show Dn p e below s _ _ _ (s₁.setTop (mkF m 170 #[.val (.int p0), .val (.long p1), .second, .val (.int p2), .val (.int p3), .val (.int p4), .val (.int p5), .val (.int (3 : Int32)), .val (.int (0 : Int32)), .val (.long v78), .second, .val (.long v89), .second, .val (.long v100), .second, .val (.long v111), .second, .val (.long v141), .second, .unset, .unset, .unset, .unset] [(.long v111), (.double v167), (.double v164), (.double v161), (.int (3 : Int32))]))
      have d170 := DS.l2d (v := v111) (by omega)
      refine Dn.st (fun _ kk => XS.l2dS X0.here hx rfl (hb hby at_170) rfl rfl (kk)) ?_
      show Dn p e below s _ _ _ (s₁.setTop (mkF m 171 #[.val (.int p0), .val (.long p1), .second, .val (.int p2), .val (.int p3), .val (.int p4), .val (.int p5), .val (.int (3 : Int32)), .val (.int (0 : Int32)), .val (.long v78), .second, .val (.long v89), .second, .val (.long v100), .second, .val (.long v111), .second, .val (.long v141), .second, .unset, .unset, .unset, .unset] [(.double (FP.l2d v111)), (.double v167), (.double v164), (.double v161), (.int (3 : Int32))]))
      generalize hv170 : ((FP.l2d v111) : UInt64) = v170 at d170 ⊢
      show Dn p e below s _ _ _ (s₁.setTop (mkF m 171 #[.val (.int p0), .val (.long p1), .second, .val (.int p2), .val (.int p3), .val (.int p4), .val (.int p5), .val (.int (3 : Int32)), .val (.int (0 : Int32)), .val (.long v78), .second, .val (.long v89), .second, .val (.long v100), .second, .val (.long v111), .second, .val (.long v141), .second, .unset, .unset, .unset, .unset] [(.double v170), (.double v167), (.double v164), (.double v161), (.int (3 : Int32))]))
      obtain ⟨_, _, ⟨T171, L171, k171, n171⟩, -, X171, ⟨Lc171, hQ171, l171, y171, z171⟩, st171⟩ := Jvm.LawKit.callS X0 hx (y := (⟨"com/example/listino/listino/stats/MomentsMeanPinLaw", "build", "(IDDDD)[D"⟩ : MethodName)) hown (mvT hZ (hw _ (List.mem_of_getElem? (i := 0) rfl))) (mvT hZ (hw _ (List.mem_of_getElem? (i := 1) rfl))) (mvT hZ (hw _ (List.mem_of_getElem? (i := 2) rfl))) (mvT hZ (hw _ (List.mem_of_getElem? (i := 3) rfl))) (by decide) (backOf (W := 0) (rm1_3 l Z a0 hw []  v161 v164 v167 v170 h0 n0 Z0 ) hZ (hw _ (List.mem_of_getElem? (i := 3) rfl)) (hw _ (List.mem_of_getElem? (i := 2) rfl)) (by decide) (by decide)) (g := (mkF m 171 #[.val (.int p0), .val (.long p1), .second, .val (.int p2), .val (.int p3), .val (.int p4), .val (.int p5), .val (.int (3 : Int32)), .val (.int (0 : Int32)), .val (.long v78), .second, .val (.long v89), .second, .val (.long v100), .second, .val (.long v111), .second, .val (.long v141), .second, .unset, .unset, .unset, .unset] [(.double v170), (.double v167), (.double v164), (.double v161), (.int (3 : Int32))])) rfl (by rw [hml]; rfl) (argsL := [(.int (3 : Int32)), (.double v161), (.double v164), (.double v167), (.double v170)]) (rest := []) (lenOf pd0 rfl) rfl (by show 2 * 0 + _ ≤ _; exact Nat.le_of_eq rfl) (hb hby at_171) (fun _ _ => ⟨rfl, e0, (by decide : 0 + 1 ≤ _), (by decide : 0 + 3 ≤ _)⟩)
      dsimp only [Pt.U, Pt.locs, Pt.cells, Pt.slots] at X171 l171 y171 z171 st171 hQ171
      subst l171 y171 z171
      obtain ⟨bb171, kb171, rfl, gz171, Nq171, K171, V_bb171⟩ := hQ171
      have N171 := Fr.app N0 Nq171
      refine Dn.st st171 ?_
      have Z171 : n0 ≤ T171.heap.size := Nat.le_trans Z0 K171.1
      show Dn p e below s _ _ _ (T171.setTop (mkF m 174 #[.val (.int p0), .val (.long p1), .second, .val (.int p2), .val (.int p3), .val (.int p4), .val (.int p5), .val (.int (3 : Int32)), .val (.int (0 : Int32)), .val (.long v78), .second, .val (.long v89), .second, .val (.long v100), .second, .val (.long v111), .second, .val (.long v141), .second, .unset, .unset, .unset, .unset] [(.ref bb171)]))
      rcases (show v141.toInt % 3 = 0 ∨ (1 ≤ v141.toInt % 3 ∧ v141.toInt % 3 ≤ 2) by omega) with hsp | hsp
      · show Dn p e below s _ _ _ (T171.setTop (mkF m 174 #[.val (.int p0), .val (.long p1), .second, .val (.int p2), .val (.int p3), .val (.int p4), .val (.int p5), .val (.int (3 : Int32)), .val (.int (0 : Int32)), .val (.long v78), .second, .val (.long v89), .second, .val (.long v100), .second, .val (.long v111), .second, .val (.long v141), .second, .unset, .unset, .unset, .unset] [(.ref bb171)]))
        obtain ⟨_, _, ⟨T174, L174, k174, n174⟩, -, X174, ⟨Lc174, hQ174, l174, y174, z174⟩, st174⟩ := Jvm.LawKit.callS X171 hx (y := (⟨"com/example/listino/listino/stats/Moments", "mean", "([D)D"⟩ : MethodName)) hown (mvT hZ (hw _ (List.mem_of_getElem? (i := 5) rfl))) (mvT hZ (hw _ (List.mem_of_getElem? (i := 6) rfl))) (mvT hZ (hw _ (List.mem_of_getElem? (i := 7) rfl))) (mvT hZ (hw _ (List.mem_of_getElem? (i := 8) rfl))) (by decide) (backOf (W := 0) (rm2E_3 l Z a0 hw [] bb171 kb171 v161 v164 v167 v78.toInt v89.toInt v100.toInt (4 * (v141.toInt / 3)) T171.heap n0 Z171 V_bb171 d161 d164 d167 ⟨by omega, by omega⟩ ⟨by omega, by omega⟩ ⟨by omega, by omega⟩ (by omega)) hZ (hw _ (List.mem_of_getElem? (i := 8) rfl)) (hw _ (List.mem_of_getElem? (i := 7) rfl)) (by decide) (by decide)) (g := (mkF m 174 #[.val (.int p0), .val (.long p1), .second, .val (.int p2), .val (.int p3), .val (.int p4), .val (.int p5), .val (.int (3 : Int32)), .val (.int (0 : Int32)), .val (.long v78), .second, .val (.long v89), .second, .val (.long v100), .second, .val (.long v111), .second, .val (.long v141), .second, .unset, .unset, .unset, .unset] [(.ref bb171)])) rfl (by rw [hml]; rfl) (argsL := [(.ref bb171)]) (rest := []) (lenOf pd1 rfl) rfl (by show 2 * 0 + _ ≤ _; exact Nat.le_of_eq rfl) (hb hby at_174) (fun _ _ => ⟨rfl, rfl, (by decide : 1 + 0 ≤ _), (by decide : 3 + 0 ≤ _)⟩)
        dsimp only [Pt.U, Pt.locs, Pt.cells, Pt.slots] at X174 l174 y174 z174 st174 hQ174
        subst l174 y174 z174
        obtain ⟨z174, rfl, d174, Nq174, hh174⟩ := hQ174
        have N174 := Fr.app N171 Nq174
        refine Dn.st st174 ?_
        show Dn p e below s _ _ _ (T174.setTop (mkF m 177 #[.val (.int p0), .val (.long p1), .second, .val (.int p2), .val (.int p3), .val (.int p4), .val (.int p5), .val (.int (3 : Int32)), .val (.int (0 : Int32)), .val (.long v78), .second, .val (.long v89), .second, .val (.long v100), .second, .val (.long v111), .second, .val (.long v141), .second, .unset, .unset, .unset, .unset] [(.double z174)]))
        refine Dn.st (fun _ kk => XS.dstore X174.here hx rfl (hb hby at_177) rfl (l' := #[.val (.int p0), .val (.long p1), .second, .val (.int p2), .val (.int p3), .val (.int p4), .val (.int p5), .val (.int (3 : Int32)), .val (.int (0 : Int32)), .val (.long v78), .second, .val (.long v89), .second, .val (.long v100), .second, .val (.long v111), .second, .val (.long v141), .second, .val (.double z174), .second, .unset, .unset]) rfl (XS.iload X174.here hx rfl (hb hby at_179) rfl  (XS.iconst X174.here hx rfl (hb hby at_181) (kk)))) ?_
        show Dn p e below s _ _ _ (T174.setTop (mkF m 182 #[.val (.int p0), .val (.long p1), .second, .val (.int p2), .val (.int p3), .val (.int p4), .val (.int p5), .val (.int (3 : Int32)), .val (.int (0 : Int32)), .val (.long v78), .second, .val (.long v89), .second, .val (.long v100), .second, .val (.long v111), .second, .val (.long v141), .second, .val (.double z174), .second, .unset, .unset] [(.int (3 : Int32)), (.int (3 : Int32))]))
        have hc182 : (3 : Int32) = (3 : Int32) := by decide
        refine Dn.st (fun _ kk => XS.icmpNo X174.here hx rfl (hb hby at_182) rfl (teq hc182).2 (XS.lload X174.here hx rfl (hb hby at_185) rfl  (X174.ldc2Long hx hown (mvT hZ (hw _ (List.mem_of_getElem? (i := 10) rfl))) (g := (mkF m 187 #[.val (.int p0), .val (.long p1), .second, .val (.int p2), .val (.int p3), .val (.int p4), .val (.int p5), .val (.int (3 : Int32)), .val (.int (0 : Int32)), .val (.long v78), .second, .val (.long v89), .second, .val (.long v100), .second, .val (.long v111), .second, .val (.long v141), .second, .val (.double z174), .second, .unset, .unset] [(.long v141)])) rfl (hb hby at_187) _ (XS.lrem X174.here hx rfl (hb hby at_190) rfl (by decide) (kk))))) ?_
        show Dn p e below s _ _ _ (T174.setTop (mkF m 191 #[.val (.int p0), .val (.long p1), .second, .val (.int p2), .val (.int p3), .val (.int p4), .val (.int p5), .val (.int (3 : Int32)), .val (.int (0 : Int32)), .val (.long v78), .second, .val (.long v89), .second, .val (.long v100), .second, .val (.long v111), .second, .val (.long v141), .second, .val (.double z174), .second, .unset, .unset] [(.long (v141 - (v141 / (3 : Int64)) * (3 : Int64)))]))
        generalize hv190 : ((v141 - (v141 / (3 : Int64)) * (3 : Int64)) : Int64) = v190
        have q190 : (0 ≤ v141.toInt → v190.toInt = v141.toInt % 3) ∧ (v141.toInt < 0 → v190.toInt = -((-v141.toInt) % 3)) := by have qq := c_lrem v141 (3 : Int64) 3 rfl; rw [hv190] at qq; exact qq
        have r190 := rng64 v190
        show Dn p e below s _ _ _ (T174.setTop (mkF m 191 #[.val (.int p0), .val (.long p1), .second, .val (.int p2), .val (.int p3), .val (.int p4), .val (.int p5), .val (.int (3 : Int32)), .val (.int (0 : Int32)), .val (.long v78), .second, .val (.long v89), .second, .val (.long v100), .second, .val (.long v111), .second, .val (.long v141), .second, .val (.double z174), .second, .unset, .unset] [(.long v190)]))
        refine Dn.st (fun _ kk => XS.lconst X174.here hx rfl (hb hby at_191) (XS.lcmp X174.here hx rfl (hb hby at_192) rfl (kk))) ?_
        show Dn p e below s _ _ _ (T174.setTop (mkF m 193 #[.val (.int p0), .val (.long p1), .second, .val (.int p2), .val (.int p3), .val (.int p4), .val (.int p5), .val (.int (3 : Int32)), .val (.int (0 : Int32)), .val (.long v78), .second, .val (.long v89), .second, .val (.long v100), .second, .val (.long v111), .second, .val (.long v141), .second, .val (.double z174), .second, .unset, .unset] [(.int (lcmpW v190 (0 : Int64)))]))
        have hc193 : (lcmpW v190 (0 : Int64)) = (0 : Int32) := (lw_eq _ _).mpr (Int64.toInt_inj.mp (show v190.toInt = 0 by omega))
        refine Dn.st (fun _ kk => XS.ifNo X174.here hx rfl (hb hby at_193) rfl ((if0 _ _).trans (teq hc193).2) (XS.dload X174.here hx rfl (hb hby at_196) rfl  (XS.lload X174.here hx rfl (hb hby at_198) rfl  (kk)))) ?_
        show Dn p e below s _ _ _ (T174.setTop (mkF m 200 #[.val (.int p0), .val (.long p1), .second, .val (.int p2), .val (.int p3), .val (.int p4), .val (.int p5), .val (.int (3 : Int32)), .val (.int (0 : Int32)), .val (.long v78), .second, .val (.long v89), .second, .val (.long v100), .second, .val (.long v111), .second, .val (.long v141), .second, .val (.double z174), .second, .unset, .unset] [(.long v141), (.double z174)]))
        have d200 := DS.l2d (v := v141) (by omega)
        refine Dn.st (fun _ kk => XS.l2dS X174.here hx rfl (hb hby at_200) rfl rfl (kk)) ?_
        show Dn p e below s _ _ _ (T174.setTop (mkF m 201 #[.val (.int p0), .val (.long p1), .second, .val (.int p2), .val (.int p3), .val (.int p4), .val (.int p5), .val (.int (3 : Int32)), .val (.int (0 : Int32)), .val (.long v78), .second, .val (.long v89), .second, .val (.long v100), .second, .val (.long v111), .second, .val (.long v141), .second, .val (.double z174), .second, .unset, .unset] [(.double (FP.l2d v141)), (.double z174)]))
        generalize hv200 : ((FP.l2d v141) : UInt64) = v200 at d200 ⊢
        show Dn p e below s _ _ _ (T174.setTop (mkF m 201 #[.val (.int p0), .val (.long p1), .second, .val (.int p2), .val (.int p3), .val (.int p4), .val (.int p5), .val (.int (3 : Int32)), .val (.int (0 : Int32)), .val (.long v78), .second, .val (.long v89), .second, .val (.long v100), .second, .val (.long v111), .second, .val (.long v141), .second, .val (.double z174), .second, .unset, .unset] [(.double v200), (.double z174)]))
        refine Dn.st (fun _ kk => XS.iload X174.here hx rfl (hb hby at_201) rfl  (kk)) ?_
        show Dn p e below s _ _ _ (T174.setTop (mkF m 203 #[.val (.int p0), .val (.long p1), .second, .val (.int p2), .val (.int p3), .val (.int p4), .val (.int p5), .val (.int (3 : Int32)), .val (.int (0 : Int32)), .val (.long v78), .second, .val (.long v89), .second, .val (.long v100), .second, .val (.long v111), .second, .val (.long v141), .second, .val (.double z174), .second, .unset, .unset] [(.int (3 : Int32)), (.double v200), (.double z174)]))
        have d203 := DS.i2d (3 : Int32)
        refine Dn.st (fun _ kk => XS.i2dS X174.here hx rfl (hb hby at_203) rfl rfl (kk)) ?_
        show Dn p e below s _ _ _ (T174.setTop (mkF m 204 #[.val (.int p0), .val (.long p1), .second, .val (.int p2), .val (.int p3), .val (.int p4), .val (.int p5), .val (.int (3 : Int32)), .val (.int (0 : Int32)), .val (.long v78), .second, .val (.long v89), .second, .val (.long v100), .second, .val (.long v111), .second, .val (.long v141), .second, .val (.double z174), .second, .unset, .unset] [(.double (FP.i2d (3 : Int32))), (.double v200), (.double z174)]))
        generalize hv203 : ((FP.i2d (3 : Int32)) : UInt64) = v203 at d203 ⊢
        show Dn p e below s _ _ _ (T174.setTop (mkF m 204 #[.val (.int p0), .val (.long p1), .second, .val (.int p2), .val (.int p3), .val (.int p4), .val (.int p5), .val (.int (3 : Int32)), .val (.int (0 : Int32)), .val (.long v78), .second, .val (.long v89), .second, .val (.long v100), .second, .val (.long v111), .second, .val (.long v141), .second, .val (.double z174), .second, .unset, .unset] [(.double v203), (.double v200), (.double z174)]))
        have d204 : DS 2 (4 * (v141.toInt / 3)) (FP.ddiv v200 v203) := DS.div (n := 2) (Q := (4 * (v141.toInt / 3))) d200 (DS.cast (i' := 3) d203 rfl (by decide)) (by decide) (by show _ * 4 = _ * 1; omega) (by omega) (by decide)
        refine Dn.st (fun _ kk => XS.ddivS X174.here hx rfl (hb hby at_204) rfl d204.nn rfl (kk)) ?_
        show Dn p e below s _ _ _ (T174.setTop (mkF m 205 #[.val (.int p0), .val (.long p1), .second, .val (.int p2), .val (.int p3), .val (.int p4), .val (.int p5), .val (.int (3 : Int32)), .val (.int (0 : Int32)), .val (.long v78), .second, .val (.long v89), .second, .val (.long v100), .second, .val (.long v111), .second, .val (.long v141), .second, .val (.double z174), .second, .unset, .unset] [(.double (FP.ddiv v200 v203)), (.double z174)]))
        generalize hv204 : ((FP.ddiv v200 v203) : UInt64) = v204 at d204 ⊢
        show Dn p e below s _ _ _ (T174.setTop (mkF m 205 #[.val (.int p0), .val (.long p1), .second, .val (.int p2), .val (.int p3), .val (.int p4), .val (.int p5), .val (.int (3 : Int32)), .val (.int (0 : Int32)), .val (.long v78), .second, .val (.long v89), .second, .val (.long v100), .second, .val (.long v111), .second, .val (.long v141), .second, .val (.double z174), .second, .unset, .unset] [(.double v204), (.double z174)]))
        refine Dn.st (fun _ kk => XS.dcmpS X174.here hx rfl (hb hby at_205) rfl (DS.cmpV d174 d204 _) (kk)) ?_
        show Dn p e below s _ _ _ (T174.setTop (mkF m 206 #[.val (.int p0), .val (.long p1), .second, .val (.int p2), .val (.int p3), .val (.int p4), .val (.int p5), .val (.int (3 : Int32)), .val (.int (0 : Int32)), .val (.long v78), .second, .val (.long v89), .second, .val (.long v100), .second, .val (.long v111), .second, .val (.long v141), .second, .val (.double z174), .second, .unset, .unset] [(.int (c3 (4 * (v141.toInt / 3)) (4 * (v141.toInt / 3))))]))
        have hc206 : (c3 (4 * (v141.toInt / 3)) (4 * (v141.toInt / 3))) = (0 : Int32) := (c3_eq _ _).mpr rfl
        refine Dn.st (fun _ kk => XS.ifNo X174.here hx rfl (hb hby at_206) rfl ((if0 _ _).trans (teq hc206).2) (XS.iconst X174.here hx rfl (hb hby at_209) (XS.goto X174.here hx rfl (pc0 := 210) (pc' := 214) rfl (hb hby at_210) (by decide) (by decide) (kk)))) ?_
        show Dn p e below s _ _ _ (T174.setTop (mkF m 214 #[.val (.int p0), .val (.long p1), .second, .val (.int p2), .val (.int p3), .val (.int p4), .val (.int p5), .val (.int (3 : Int32)), .val (.int (0 : Int32)), .val (.long v78), .second, .val (.long v89), .second, .val (.long v100), .second, .val (.long v111), .second, .val (.long v141), .second, .val (.double z174), .second, .unset, .unset] [(.int (1 : Int32))]))
        exact Dn.ret X174 hlk hx hret rfl (Or.inl ⟨rfl, Or.inr (Or.inl rfl), _, rfl⟩) (hb hby at_214) (by rw [hh174]; exact ⟨rfl, N174⟩) (by decide) (by decide)
      · show Dn p e below s _ _ _ (T171.setTop (mkF m 174 #[.val (.int p0), .val (.long p1), .second, .val (.int p2), .val (.int p3), .val (.int p4), .val (.int p5), .val (.int (3 : Int32)), .val (.int (0 : Int32)), .val (.long v78), .second, .val (.long v89), .second, .val (.long v100), .second, .val (.long v111), .second, .val (.long v141), .second, .unset, .unset, .unset, .unset] [(.ref bb171)]))
        obtain ⟨_, _, ⟨T174, L174, k174, n174⟩, -, X174, ⟨Lc174, hQ174, l174, y174, z174⟩, st174⟩ := Jvm.LawKit.callS X171 hx (y := (⟨"com/example/listino/listino/stats/Moments", "mean", "([D)D"⟩ : MethodName)) hown (mvT hZ (hw _ (List.mem_of_getElem? (i := 5) rfl))) (mvT hZ (hw _ (List.mem_of_getElem? (i := 6) rfl))) (mvT hZ (hw _ (List.mem_of_getElem? (i := 7) rfl))) (mvT hZ (hw _ (List.mem_of_getElem? (i := 8) rfl))) (by decide) (backOf (W := 0) (rm2I_3 l Z a0 hw [] bb171 kb171 v161 v164 v167 v78.toInt v89.toInt v100.toInt (v141.toInt / 3) (v141.toInt % 3) T171.heap n0 Z171 V_bb171 d161 d164 d167 ⟨by omega, by omega⟩ ⟨by omega, by omega⟩ ⟨by omega, by omega⟩ (by omega) ⟨by omega, by omega⟩) hZ (hw _ (List.mem_of_getElem? (i := 8) rfl)) (hw _ (List.mem_of_getElem? (i := 7) rfl)) (by decide) (by decide)) (g := (mkF m 174 #[.val (.int p0), .val (.long p1), .second, .val (.int p2), .val (.int p3), .val (.int p4), .val (.int p5), .val (.int (3 : Int32)), .val (.int (0 : Int32)), .val (.long v78), .second, .val (.long v89), .second, .val (.long v100), .second, .val (.long v111), .second, .val (.long v141), .second, .unset, .unset, .unset, .unset] [(.ref bb171)])) rfl (by rw [hml]; rfl) (argsL := [(.ref bb171)]) (rest := []) (lenOf pd1 rfl) rfl (by show 2 * 0 + _ ≤ _; exact Nat.le_of_eq rfl) (hb hby at_174) (fun _ _ => ⟨rfl, rfl, (by decide : 1 + 0 ≤ _), (by decide : 3 + 0 ≤ _)⟩)
        dsimp only [Pt.U, Pt.locs, Pt.cells, Pt.slots] at X174 l174 y174 z174 st174 hQ174
        subst l174 y174 z174
        obtain ⟨z174, rfl, g174, Nq174, hh174⟩ := hQ174
        have N174 := Fr.app N171 Nq174
        refine Dn.st st174 ?_
        show Dn p e below s _ _ _ (T174.setTop (mkF m 177 #[.val (.int p0), .val (.long p1), .second, .val (.int p2), .val (.int p3), .val (.int p4), .val (.int p5), .val (.int (3 : Int32)), .val (.int (0 : Int32)), .val (.long v78), .second, .val (.long v89), .second, .val (.long v100), .second, .val (.long v111), .second, .val (.long v141), .second, .unset, .unset, .unset, .unset] [(.double z174)]))
        refine Dn.st (fun _ kk => XS.dstore X174.here hx rfl (hb hby at_177) rfl (l' := #[.val (.int p0), .val (.long p1), .second, .val (.int p2), .val (.int p3), .val (.int p4), .val (.int p5), .val (.int (3 : Int32)), .val (.int (0 : Int32)), .val (.long v78), .second, .val (.long v89), .second, .val (.long v100), .second, .val (.long v111), .second, .val (.long v141), .second, .val (.double z174), .second, .unset, .unset]) rfl (XS.iload X174.here hx rfl (hb hby at_179) rfl  (XS.iconst X174.here hx rfl (hb hby at_181) (kk)))) ?_
        show Dn p e below s _ _ _ (T174.setTop (mkF m 182 #[.val (.int p0), .val (.long p1), .second, .val (.int p2), .val (.int p3), .val (.int p4), .val (.int p5), .val (.int (3 : Int32)), .val (.int (0 : Int32)), .val (.long v78), .second, .val (.long v89), .second, .val (.long v100), .second, .val (.long v111), .second, .val (.long v141), .second, .val (.double z174), .second, .unset, .unset] [(.int (3 : Int32)), (.int (3 : Int32))]))
        have hc182 : (3 : Int32) = (3 : Int32) := by decide
        refine Dn.st (fun _ kk => XS.icmpNo X174.here hx rfl (hb hby at_182) rfl (teq hc182).2 (XS.lload X174.here hx rfl (hb hby at_185) rfl  (X174.ldc2Long hx hown (mvT hZ (hw _ (List.mem_of_getElem? (i := 10) rfl))) (g := (mkF m 187 #[.val (.int p0), .val (.long p1), .second, .val (.int p2), .val (.int p3), .val (.int p4), .val (.int p5), .val (.int (3 : Int32)), .val (.int (0 : Int32)), .val (.long v78), .second, .val (.long v89), .second, .val (.long v100), .second, .val (.long v111), .second, .val (.long v141), .second, .val (.double z174), .second, .unset, .unset] [(.long v141)])) rfl (hb hby at_187) _ (XS.lrem X174.here hx rfl (hb hby at_190) rfl (by decide) (kk))))) ?_
        show Dn p e below s _ _ _ (T174.setTop (mkF m 191 #[.val (.int p0), .val (.long p1), .second, .val (.int p2), .val (.int p3), .val (.int p4), .val (.int p5), .val (.int (3 : Int32)), .val (.int (0 : Int32)), .val (.long v78), .second, .val (.long v89), .second, .val (.long v100), .second, .val (.long v111), .second, .val (.long v141), .second, .val (.double z174), .second, .unset, .unset] [(.long (v141 - (v141 / (3 : Int64)) * (3 : Int64)))]))
        generalize hv190 : ((v141 - (v141 / (3 : Int64)) * (3 : Int64)) : Int64) = v190
        have q190 : (0 ≤ v141.toInt → v190.toInt = v141.toInt % 3) ∧ (v141.toInt < 0 → v190.toInt = -((-v141.toInt) % 3)) := by have qq := c_lrem v141 (3 : Int64) 3 rfl; rw [hv190] at qq; exact qq
        have r190 := rng64 v190
        show Dn p e below s _ _ _ (T174.setTop (mkF m 191 #[.val (.int p0), .val (.long p1), .second, .val (.int p2), .val (.int p3), .val (.int p4), .val (.int p5), .val (.int (3 : Int32)), .val (.int (0 : Int32)), .val (.long v78), .second, .val (.long v89), .second, .val (.long v100), .second, .val (.long v111), .second, .val (.long v141), .second, .val (.double z174), .second, .unset, .unset] [(.long v190)]))
        refine Dn.st (fun _ kk => XS.lconst X174.here hx rfl (hb hby at_191) (XS.lcmp X174.here hx rfl (hb hby at_192) rfl (kk))) ?_
        show Dn p e below s _ _ _ (T174.setTop (mkF m 193 #[.val (.int p0), .val (.long p1), .second, .val (.int p2), .val (.int p3), .val (.int p4), .val (.int p5), .val (.int (3 : Int32)), .val (.int (0 : Int32)), .val (.long v78), .second, .val (.long v89), .second, .val (.long v100), .second, .val (.long v111), .second, .val (.long v141), .second, .val (.double z174), .second, .unset, .unset] [(.int (lcmpW v190 (0 : Int64)))]))
        have hc193 : ¬ ((lcmpW v190 (0 : Int64)) = (0 : Int32)) := mt (lw_eq _ _).mp fun hq => absurd (congrArg Int64.toInt hq) (show ¬ v190.toInt = 0 by omega)
        refine Dn.st (fun _ kk => XS.ifYes X174.here hx rfl (pc0 := 193) (pc' := 215) rfl (hb hby at_193) rfl ((if0 _ _).trans (feq hc193).2) (by decide) (by decide) (XS.lload X174.here hx rfl (hb hby at_215) rfl  (X174.ldc2Long hx hown (mvT hZ (hw _ (List.mem_of_getElem? (i := 10) rfl))) (g := (mkF m 217 #[.val (.int p0), .val (.long p1), .second, .val (.int p2), .val (.int p3), .val (.int p4), .val (.int p5), .val (.int (3 : Int32)), .val (.int (0 : Int32)), .val (.long v78), .second, .val (.long v89), .second, .val (.long v100), .second, .val (.long v111), .second, .val (.long v141), .second, .val (.double z174), .second, .unset, .unset] [(.long v141)])) rfl (hb hby at_217) _ (XS.ldiv X174.here hx rfl (hb hby at_220) rfl (by decide) (kk))))) ?_
        show Dn p e below s _ _ _ (T174.setTop (mkF m 221 #[.val (.int p0), .val (.long p1), .second, .val (.int p2), .val (.int p3), .val (.int p4), .val (.int p5), .val (.int (3 : Int32)), .val (.int (0 : Int32)), .val (.long v78), .second, .val (.long v89), .second, .val (.long v100), .second, .val (.long v111), .second, .val (.long v141), .second, .val (.double z174), .second, .unset, .unset] [(.long (v141 / (3 : Int64)))]))
        generalize hv220 : ((v141 / (3 : Int64)) : Int64) = v220
        have q220 : (0 ≤ v141.toInt → v220.toInt = v141.toInt / 3) ∧ (v141.toInt < 0 → v220.toInt = -((-v141.toInt) / 3)) := by have qq := c_ldiv v141 (3 : Int64) 3 rfl (by decide); rw [hv220] at qq; exact qq
        have r220 := rng64 v220
        have x220 : (0 ≤ v141.toInt → v220.toInt = v141.toInt / 3) ∧ (v141.toInt < 0 → v220.toInt = -((-v141.toInt) / 3)) := q220
        have y220 : -1048576 ≤ v220.toInt ∧ v220.toInt ≤ 1048576 := by omega
        show Dn p e below s _ _ _ (T174.setTop (mkF m 221 #[.val (.int p0), .val (.long p1), .second, .val (.int p2), .val (.int p3), .val (.int p4), .val (.int p5), .val (.int (3 : Int32)), .val (.int (0 : Int32)), .val (.long v78), .second, .val (.long v89), .second, .val (.long v100), .second, .val (.long v111), .second, .val (.long v141), .second, .val (.double z174), .second, .unset, .unset] [(.long v220)]))
        refine Dn.st (fun _ kk => XS.lstore X174.here hx rfl (hb hby at_221) rfl (l' := #[.val (.int p0), .val (.long p1), .second, .val (.int p2), .val (.int p3), .val (.int p4), .val (.int p5), .val (.int (3 : Int32)), .val (.int (0 : Int32)), .val (.long v78), .second, .val (.long v89), .second, .val (.long v100), .second, .val (.long v111), .second, .val (.long v141), .second, .val (.double z174), .second, .val (.long v220), .second]) rfl (XS.lload X174.here hx rfl (hb hby at_223) rfl  (XS.lconst X174.here hx rfl (hb hby at_225) (XS.lcmp X174.here hx rfl (hb hby at_226) rfl (kk))))) ?_
        show Dn p e below s _ _ _ (T174.setTop (mkF m 227 #[.val (.int p0), .val (.long p1), .second, .val (.int p2), .val (.int p3), .val (.int p4), .val (.int p5), .val (.int (3 : Int32)), .val (.int (0 : Int32)), .val (.long v78), .second, .val (.long v89), .second, .val (.long v100), .second, .val (.long v111), .second, .val (.long v141), .second, .val (.double z174), .second, .val (.long v220), .second] [(.int (lcmpW v141 (0 : Int64)))]))
        by_cases hc227 : (lcmpW v141 (0 : Int64)) < (0 : Int32)
        · have hj227 := (lw_lt _ _).mp hc227
          have hi227 : v141.toInt < 0 := Int64.lt_iff_toInt_lt.mp hj227
          refine Dn.st (fun _ kk => XS.ifNo X174.here hx rfl (hb hby at_227) rfl ((if0 _ _).trans (tlt hc227).2.1) (XS.lload X174.here hx rfl (hb hby at_230) rfl  (XS.lconst X174.here hx rfl (hb hby at_232) (XS.lsub X174.here hx rfl (hb hby at_233) rfl (kk))))) ?_
          show Dn p e below s _ _ _ (T174.setTop (mkF m 234 #[.val (.int p0), .val (.long p1), .second, .val (.int p2), .val (.int p3), .val (.int p4), .val (.int p5), .val (.int (3 : Int32)), .val (.int (0 : Int32)), .val (.long v78), .second, .val (.long v89), .second, .val (.long v100), .second, .val (.long v111), .second, .val (.long v141), .second, .val (.double z174), .second, .val (.long v220), .second] [(.long (v220 - (1 : Int64)))]))
          generalize hv233 : ((v220 - (1 : Int64)) : Int64) = v233
          have q233 : (v233.toInt - (v220.toInt - 1)) % 18446744073709551616 = 0 := by have qq := c_lsub v220 (1 : Int64); rw [hv233] at qq; exact qq
          have r233 := rng64 v233
          have x233 : v233.toInt = v220.toInt - 1 := by omega
          show Dn p e below s _ _ _ (T174.setTop (mkF m 234 #[.val (.int p0), .val (.long p1), .second, .val (.int p2), .val (.int p3), .val (.int p4), .val (.int p5), .val (.int (3 : Int32)), .val (.int (0 : Int32)), .val (.long v78), .second, .val (.long v89), .second, .val (.long v100), .second, .val (.long v111), .second, .val (.long v141), .second, .val (.double z174), .second, .val (.long v220), .second] [(.long v233)]))
          refine Dn.st (fun _ kk => XS.lstore X174.here hx rfl (hb hby at_234) rfl (l' := #[.val (.int p0), .val (.long p1), .second, .val (.int p2), .val (.int p3), .val (.int p4), .val (.int p5), .val (.int (3 : Int32)), .val (.int (0 : Int32)), .val (.long v78), .second, .val (.long v89), .second, .val (.long v100), .second, .val (.long v111), .second, .val (.long v141), .second, .val (.double z174), .second, .val (.long v233), .second]) rfl (XS.lload X174.here hx rfl (hb hby at_236) rfl  (kk))) ?_
          show Dn p e below s _ _ _ (T174.setTop (mkF m 238 #[.val (.int p0), .val (.long p1), .second, .val (.int p2), .val (.int p3), .val (.int p4), .val (.int p5), .val (.int (3 : Int32)), .val (.int (0 : Int32)), .val (.long v78), .second, .val (.long v89), .second, .val (.long v100), .second, .val (.long v111), .second, .val (.long v141), .second, .val (.double z174), .second, .val (.long v233), .second] [(.long v233)]))
          have d238 := DS.l2d (v := v233) (by omega)
          refine Dn.st (fun _ kk => XS.l2dS X174.here hx rfl (hb hby at_238) rfl rfl (kk)) ?_
          show Dn p e below s _ _ _ (T174.setTop (mkF m 239 #[.val (.int p0), .val (.long p1), .second, .val (.int p2), .val (.int p3), .val (.int p4), .val (.int p5), .val (.int (3 : Int32)), .val (.int (0 : Int32)), .val (.long v78), .second, .val (.long v89), .second, .val (.long v100), .second, .val (.long v111), .second, .val (.long v141), .second, .val (.double z174), .second, .val (.long v233), .second] [(.double (FP.l2d v233))]))
          generalize hv238 : ((FP.l2d v233) : UInt64) = v238 at d238 ⊢
          show Dn p e below s _ _ _ (T174.setTop (mkF m 239 #[.val (.int p0), .val (.long p1), .second, .val (.int p2), .val (.int p3), .val (.int p4), .val (.int p5), .val (.int (3 : Int32)), .val (.int (0 : Int32)), .val (.long v78), .second, .val (.long v89), .second, .val (.long v100), .second, .val (.long v111), .second, .val (.long v141), .second, .val (.double z174), .second, .val (.long v233), .second] [(.double v238)]))
          refine Dn.st (fun _ kk => XS.dload X174.here hx rfl (hb hby at_239) rfl  (XS.dcmpS X174.here hx rfl (hb hby at_241) rfl (show cmpValue (FP.dcmp v238 z174) .g = (-1 : Int32) from (DI.cmpV (((d238).up 10).di (by decide)) g174 (by show _ * 1024 < _; omega) _)) (kk))) ?_
          show Dn p e below s _ _ _ (T174.setTop (mkF m 242 #[.val (.int p0), .val (.long p1), .second, .val (.int p2), .val (.int p3), .val (.int p4), .val (.int p5), .val (.int (3 : Int32)), .val (.int (0 : Int32)), .val (.long v78), .second, .val (.long v89), .second, .val (.long v100), .second, .val (.long v111), .second, .val (.long v141), .second, .val (.double z174), .second, .val (.long v233), .second] [(.int (-1 : Int32))]))
          have hc242 : (-1 : Int32) < (0 : Int32) := by decide
          refine Dn.st (fun _ kk => XS.ifNo X174.here hx rfl (hb hby at_242) rfl ((if0 _ _).trans (tlt hc242).2.1) (XS.dload X174.here hx rfl (hb hby at_245) rfl  (XS.lload X174.here hx rfl (hb hby at_247) rfl  (XS.lconst X174.here hx rfl (hb hby at_249) (XS.ladd X174.here hx rfl (hb hby at_250) rfl (kk)))))) ?_
          show Dn p e below s _ _ _ (T174.setTop (mkF m 251 #[.val (.int p0), .val (.long p1), .second, .val (.int p2), .val (.int p3), .val (.int p4), .val (.int p5), .val (.int (3 : Int32)), .val (.int (0 : Int32)), .val (.long v78), .second, .val (.long v89), .second, .val (.long v100), .second, .val (.long v111), .second, .val (.long v141), .second, .val (.double z174), .second, .val (.long v233), .second] [(.long (v233 + (1 : Int64))), (.double z174)]))
          generalize hv250 : ((v233 + (1 : Int64)) : Int64) = v250
          have q250 : (v250.toInt - (v233.toInt + 1)) % 18446744073709551616 = 0 := by have qq := c_ladd v233 (1 : Int64); rw [hv250] at qq; exact qq
          have r250 := rng64 v250
          have x250 : v250.toInt = v233.toInt + 1 := by omega
          show Dn p e below s _ _ _ (T174.setTop (mkF m 251 #[.val (.int p0), .val (.long p1), .second, .val (.int p2), .val (.int p3), .val (.int p4), .val (.int p5), .val (.int (3 : Int32)), .val (.int (0 : Int32)), .val (.long v78), .second, .val (.long v89), .second, .val (.long v100), .second, .val (.long v111), .second, .val (.long v141), .second, .val (.double z174), .second, .val (.long v233), .second] [(.long v250), (.double z174)]))
          have d251 := DS.l2d (v := v250) (by omega)
          refine Dn.st (fun _ kk => XS.l2dS X174.here hx rfl (hb hby at_251) rfl rfl (kk)) ?_
          show Dn p e below s _ _ _ (T174.setTop (mkF m 252 #[.val (.int p0), .val (.long p1), .second, .val (.int p2), .val (.int p3), .val (.int p4), .val (.int p5), .val (.int (3 : Int32)), .val (.int (0 : Int32)), .val (.long v78), .second, .val (.long v89), .second, .val (.long v100), .second, .val (.long v111), .second, .val (.long v141), .second, .val (.double z174), .second, .val (.long v233), .second] [(.double (FP.l2d v250)), (.double z174)]))
          generalize hv251 : ((FP.l2d v250) : UInt64) = v251 at d251 ⊢
          show Dn p e below s _ _ _ (T174.setTop (mkF m 252 #[.val (.int p0), .val (.long p1), .second, .val (.int p2), .val (.int p3), .val (.int p4), .val (.int p5), .val (.int (3 : Int32)), .val (.int (0 : Int32)), .val (.long v78), .second, .val (.long v89), .second, .val (.long v100), .second, .val (.long v111), .second, .val (.long v141), .second, .val (.double z174), .second, .val (.long v233), .second] [(.double v251), (.double z174)]))
          refine Dn.st (fun _ kk => XS.dcmpS X174.here hx rfl (hb hby at_252) rfl (show cmpValue (FP.dcmp z174 v251) .g = (-1 : Int32) from (DI.cmpV g174 (((d251).up 10).di (by decide)) (by show _ < _ * 1024; omega) _)) (kk)) ?_
          show Dn p e below s _ _ _ (T174.setTop (mkF m 253 #[.val (.int p0), .val (.long p1), .second, .val (.int p2), .val (.int p3), .val (.int p4), .val (.int p5), .val (.int (3 : Int32)), .val (.int (0 : Int32)), .val (.long v78), .second, .val (.long v89), .second, .val (.long v100), .second, .val (.long v111), .second, .val (.long v141), .second, .val (.double z174), .second, .val (.long v233), .second] [(.int (-1 : Int32))]))
          have hc253 : (-1 : Int32) < (0 : Int32) := by decide
          refine Dn.st (fun _ kk => XS.ifNo X174.here hx rfl (hb hby at_253) rfl ((if0 _ _).trans (tlt hc253).2.1) (XS.iconst X174.here hx rfl (hb hby at_256) (XS.goto X174.here hx rfl (pc0 := 257) (pc' := 261) rfl (hb hby at_257) (by decide) (by decide) (kk)))) ?_
          show Dn p e below s _ _ _ (T174.setTop (mkF m 261 #[.val (.int p0), .val (.long p1), .second, .val (.int p2), .val (.int p3), .val (.int p4), .val (.int p5), .val (.int (3 : Int32)), .val (.int (0 : Int32)), .val (.long v78), .second, .val (.long v89), .second, .val (.long v100), .second, .val (.long v111), .second, .val (.long v141), .second, .val (.double z174), .second, .val (.long v233), .second] [(.int (1 : Int32))]))
          exact Dn.ret X174 hlk hx hret rfl (Or.inl ⟨rfl, Or.inr (Or.inl rfl), _, rfl⟩) (hb hby at_261) (by rw [hh174]; exact ⟨rfl, N174⟩) (by decide) (by decide)
        · have hj227 := mt (lw_lt _ _).mpr hc227
          have hi227 : ¬ v141.toInt < 0 := fun qq => hj227 (Int64.lt_iff_toInt_lt.mpr qq)
          refine Dn.st (fun _ kk => XS.ifYes X174.here hx rfl (pc0 := 227) (pc' := 236) rfl (hb hby at_227) rfl ((if0 _ _).trans (flt hc227).2.1) (by decide) (by decide) (XS.lload X174.here hx rfl (hb hby at_236) rfl  (kk))) ?_
          show Dn p e below s _ _ _ (T174.setTop (mkF m 238 #[.val (.int p0), .val (.long p1), .second, .val (.int p2), .val (.int p3), .val (.int p4), .val (.int p5), .val (.int (3 : Int32)), .val (.int (0 : Int32)), .val (.long v78), .second, .val (.long v89), .second, .val (.long v100), .second, .val (.long v111), .second, .val (.long v141), .second, .val (.double z174), .second, .val (.long v220), .second] [(.long v220)]))
          have d238 := DS.l2d (v := v220) (by omega)
          refine Dn.st (fun _ kk => XS.l2dS X174.here hx rfl (hb hby at_238) rfl rfl (kk)) ?_
          show Dn p e below s _ _ _ (T174.setTop (mkF m 239 #[.val (.int p0), .val (.long p1), .second, .val (.int p2), .val (.int p3), .val (.int p4), .val (.int p5), .val (.int (3 : Int32)), .val (.int (0 : Int32)), .val (.long v78), .second, .val (.long v89), .second, .val (.long v100), .second, .val (.long v111), .second, .val (.long v141), .second, .val (.double z174), .second, .val (.long v220), .second] [(.double (FP.l2d v220))]))
          generalize hv238 : ((FP.l2d v220) : UInt64) = v238 at d238 ⊢
          show Dn p e below s _ _ _ (T174.setTop (mkF m 239 #[.val (.int p0), .val (.long p1), .second, .val (.int p2), .val (.int p3), .val (.int p4), .val (.int p5), .val (.int (3 : Int32)), .val (.int (0 : Int32)), .val (.long v78), .second, .val (.long v89), .second, .val (.long v100), .second, .val (.long v111), .second, .val (.long v141), .second, .val (.double z174), .second, .val (.long v220), .second] [(.double v238)]))
          refine Dn.st (fun _ kk => XS.dload X174.here hx rfl (hb hby at_239) rfl  (XS.dcmpS X174.here hx rfl (hb hby at_241) rfl (show cmpValue (FP.dcmp v238 z174) .g = (-1 : Int32) from (DI.cmpV (((d238).up 10).di (by decide)) g174 (by show _ * 1024 < _; omega) _)) (kk))) ?_
          show Dn p e below s _ _ _ (T174.setTop (mkF m 242 #[.val (.int p0), .val (.long p1), .second, .val (.int p2), .val (.int p3), .val (.int p4), .val (.int p5), .val (.int (3 : Int32)), .val (.int (0 : Int32)), .val (.long v78), .second, .val (.long v89), .second, .val (.long v100), .second, .val (.long v111), .second, .val (.long v141), .second, .val (.double z174), .second, .val (.long v220), .second] [(.int (-1 : Int32))]))
          have hc242 : (-1 : Int32) < (0 : Int32) := by decide
          refine Dn.st (fun _ kk => XS.ifNo X174.here hx rfl (hb hby at_242) rfl ((if0 _ _).trans (tlt hc242).2.1) (XS.dload X174.here hx rfl (hb hby at_245) rfl  (XS.lload X174.here hx rfl (hb hby at_247) rfl  (XS.lconst X174.here hx rfl (hb hby at_249) (XS.ladd X174.here hx rfl (hb hby at_250) rfl (kk)))))) ?_
          show Dn p e below s _ _ _ (T174.setTop (mkF m 251 #[.val (.int p0), .val (.long p1), .second, .val (.int p2), .val (.int p3), .val (.int p4), .val (.int p5), .val (.int (3 : Int32)), .val (.int (0 : Int32)), .val (.long v78), .second, .val (.long v89), .second, .val (.long v100), .second, .val (.long v111), .second, .val (.long v141), .second, .val (.double z174), .second, .val (.long v220), .second] [(.long (v220 + (1 : Int64))), (.double z174)]))
          generalize hv250 : ((v220 + (1 : Int64)) : Int64) = v250
          have q250 : (v250.toInt - (v220.toInt + 1)) % 18446744073709551616 = 0 := by have qq := c_ladd v220 (1 : Int64); rw [hv250] at qq; exact qq
          have r250 := rng64 v250
          have x250 : v250.toInt = v220.toInt + 1 := by omega
          show Dn p e below s _ _ _ (T174.setTop (mkF m 251 #[.val (.int p0), .val (.long p1), .second, .val (.int p2), .val (.int p3), .val (.int p4), .val (.int p5), .val (.int (3 : Int32)), .val (.int (0 : Int32)), .val (.long v78), .second, .val (.long v89), .second, .val (.long v100), .second, .val (.long v111), .second, .val (.long v141), .second, .val (.double z174), .second, .val (.long v220), .second] [(.long v250), (.double z174)]))
          have d251 := DS.l2d (v := v250) (by omega)
          refine Dn.st (fun _ kk => XS.l2dS X174.here hx rfl (hb hby at_251) rfl rfl (kk)) ?_
          show Dn p e below s _ _ _ (T174.setTop (mkF m 252 #[.val (.int p0), .val (.long p1), .second, .val (.int p2), .val (.int p3), .val (.int p4), .val (.int p5), .val (.int (3 : Int32)), .val (.int (0 : Int32)), .val (.long v78), .second, .val (.long v89), .second, .val (.long v100), .second, .val (.long v111), .second, .val (.long v141), .second, .val (.double z174), .second, .val (.long v220), .second] [(.double (FP.l2d v250)), (.double z174)]))
          generalize hv251 : ((FP.l2d v250) : UInt64) = v251 at d251 ⊢
          show Dn p e below s _ _ _ (T174.setTop (mkF m 252 #[.val (.int p0), .val (.long p1), .second, .val (.int p2), .val (.int p3), .val (.int p4), .val (.int p5), .val (.int (3 : Int32)), .val (.int (0 : Int32)), .val (.long v78), .second, .val (.long v89), .second, .val (.long v100), .second, .val (.long v111), .second, .val (.long v141), .second, .val (.double z174), .second, .val (.long v220), .second] [(.double v251), (.double z174)]))
          refine Dn.st (fun _ kk => XS.dcmpS X174.here hx rfl (hb hby at_252) rfl (show cmpValue (FP.dcmp z174 v251) .g = (-1 : Int32) from (DI.cmpV g174 (((d251).up 10).di (by decide)) (by show _ < _ * 1024; omega) _)) (kk)) ?_
          show Dn p e below s _ _ _ (T174.setTop (mkF m 253 #[.val (.int p0), .val (.long p1), .second, .val (.int p2), .val (.int p3), .val (.int p4), .val (.int p5), .val (.int (3 : Int32)), .val (.int (0 : Int32)), .val (.long v78), .second, .val (.long v89), .second, .val (.long v100), .second, .val (.long v111), .second, .val (.long v141), .second, .val (.double z174), .second, .val (.long v220), .second] [(.int (-1 : Int32))]))
          have hc253 : (-1 : Int32) < (0 : Int32) := by decide
          refine Dn.st (fun _ kk => XS.ifNo X174.here hx rfl (hb hby at_253) rfl ((if0 _ _).trans (tlt hc253).2.1) (XS.iconst X174.here hx rfl (hb hby at_256) (XS.goto X174.here hx rfl (pc0 := 257) (pc' := 261) rfl (hb hby at_257) (by decide) (by decide) (kk)))) ?_
          show Dn p e below s _ _ _ (T174.setTop (mkF m 261 #[.val (.int p0), .val (.long p1), .second, .val (.int p2), .val (.int p3), .val (.int p4), .val (.int p5), .val (.int (3 : Int32)), .val (.int (0 : Int32)), .val (.long v78), .second, .val (.long v89), .second, .val (.long v100), .second, .val (.long v111), .second, .val (.long v141), .second, .val (.double z174), .second, .val (.long v220), .second] [(.int (1 : Int32))]))
          exact Dn.ret X174 hlk hx hret rfl (Or.inl ⟨rfl, Or.inr (Or.inl rfl), _, rfl⟩) (hb hby at_261) (by rw [hh174]; exact ⟨rfl, N174⟩) (by decide) (by decide)
    · have hi12 : ¬ v11.toInt = 0 := fun qq => hc12 (Int32.toInt_inj.mp qq)
      refine Dn.st (fun _ kk => XS.ifNo X0.here hx rfl (hb hby at_12) rfl ((if0 _ _).trans (feq hc12).1) (XS.iconst X0.here hx rfl (hb hby at_15) (XS.goto X0.here hx rfl (pc0 := 16) (pc' := 20) rfl (hb hby at_16) (by decide) (by decide) (XS.istore X0.here hx rfl (hb hby at_20) rfl (l' := #[.val (.int p0), .val (.long p1), .second, .val (.int p2), .val (.int p3), .val (.int p4), .val (.int p5), .val (.int (3 : Int32)), .val (.int (1 : Int32)), .unset, .unset, .unset, .unset, .unset, .unset, .unset, .unset, .unset, .unset, .unset, .unset, .unset, .unset]) rfl (XS.iload X0.here hx rfl (hb hby at_22) rfl  (kk)))))) ?_
      show Dn p e below s _ _ _ (s₁.setTop (mkF m 24 #[.val (.int p0), .val (.long p1), .second, .val (.int p2), .val (.int p3), .val (.int p4), .val (.int p5), .val (.int (3 : Int32)), .val (.int (1 : Int32)), .unset, .unset, .unset, .unset, .unset, .unset, .unset, .unset, .unset, .unset, .unset, .unset, .unset, .unset] [(.int (1 : Int32))]))
      have hc24 : ¬ ((1 : Int32) = (0 : Int32)) := by decide
      refine Dn.st (fun _ kk => XS.ifNo X0.here hx rfl (hb hby at_24) rfl ((if0 _ _).trans (feq hc24).1) (XS.lloadN X0.here hx rfl (hb hby at_27) rfl  (X0.ldc2Long hx hown (mvT hZ (hw _ (List.mem_of_getElem? (i := 9) rfl))) (g := (mkF m 28 #[.val (.int p0), .val (.long p1), .second, .val (.int p2), .val (.int p3), .val (.int p4), .val (.int p5), .val (.int (3 : Int32)), .val (.int (1 : Int32)), .unset, .unset, .unset, .unset, .unset, .unset, .unset, .unset, .unset, .unset, .unset, .unset, .unset, .unset] [(.long p1)])) rfl (hb hby at_28) _ (XS.lrem X0.here hx rfl (hb hby at_31) rfl (by decide) (kk))))) ?_
      show Dn p e below s _ _ _ (s₁.setTop (mkF m 32 #[.val (.int p0), .val (.long p1), .second, .val (.int p2), .val (.int p3), .val (.int p4), .val (.int p5), .val (.int (3 : Int32)), .val (.int (1 : Int32)), .unset, .unset, .unset, .unset, .unset, .unset, .unset, .unset, .unset, .unset, .unset, .unset, .unset, .unset] [(.long (p1 - (p1 / (9007199254740992 : Int64)) * (9007199254740992 : Int64)))]))
      generalize hv31 : ((p1 - (p1 / (9007199254740992 : Int64)) * (9007199254740992 : Int64)) : Int64) = v31
      have q31 : (0 ≤ p1.toInt → v31.toInt = p1.toInt % 9007199254740992) ∧ (p1.toInt < 0 → v31.toInt = -((-p1.toInt) % 9007199254740992)) := by have qq := c_lrem p1 (9007199254740992 : Int64) 9007199254740992 rfl; rw [hv31] at qq; exact qq
      have r31 := rng64 v31
      show Dn p e below s _ _ _ (s₁.setTop (mkF m 32 #[.val (.int p0), .val (.long p1), .second, .val (.int p2), .val (.int p3), .val (.int p4), .val (.int p5), .val (.int (3 : Int32)), .val (.int (1 : Int32)), .unset, .unset, .unset, .unset, .unset, .unset, .unset, .unset, .unset, .unset, .unset, .unset, .unset, .unset] [(.long v31)]))
      refine Dn.st (fun _ kk => XS.lstore X0.here hx rfl (hb hby at_32) rfl (l' := #[.val (.int p0), .val (.long p1), .second, .val (.int p2), .val (.int p3), .val (.int p4), .val (.int p5), .val (.int (3 : Int32)), .val (.int (1 : Int32)), .val (.long v31), .second, .unset, .unset, .unset, .unset, .unset, .unset, .unset, .unset, .unset, .unset, .unset, .unset]) rfl (XS.lload X0.here hx rfl (hb hby at_34) rfl  (kk))) ?_
      show Dn p e below s _ _ _ (s₁.setTop (mkF m 36 #[.val (.int p0), .val (.long p1), .second, .val (.int p2), .val (.int p3), .val (.int p4), .val (.int p5), .val (.int (3 : Int32)), .val (.int (1 : Int32)), .val (.long v31), .second, .unset, .unset, .unset, .unset, .unset, .unset, .unset, .unset, .unset, .unset, .unset, .unset] [(.long v31)]))
      have d36 := DS.l2d (v := v31) (by omega)
      refine Dn.st (fun _ kk => XS.l2dS X0.here hx rfl (hb hby at_36) rfl rfl (kk)) ?_
      show Dn p e below s _ _ _ (s₁.setTop (mkF m 37 #[.val (.int p0), .val (.long p1), .second, .val (.int p2), .val (.int p3), .val (.int p4), .val (.int p5), .val (.int (3 : Int32)), .val (.int (1 : Int32)), .val (.long v31), .second, .unset, .unset, .unset, .unset, .unset, .unset, .unset, .unset, .unset, .unset, .unset, .unset] [(.double (FP.l2d v31))]))
      generalize hv36 : ((FP.l2d v31) : UInt64) = v36 at d36 ⊢
      show Dn p e below s _ _ _ (s₁.setTop (mkF m 37 #[.val (.int p0), .val (.long p1), .second, .val (.int p2), .val (.int p3), .val (.int p4), .val (.int p5), .val (.int (3 : Int32)), .val (.int (1 : Int32)), .val (.long v31), .second, .unset, .unset, .unset, .unset, .unset, .unset, .unset, .unset, .unset, .unset, .unset, .unset] [(.double v36)]))
      refine Dn.st (fun _ kk => XS.dstore X0.here hx rfl (hb hby at_37) rfl (l' := #[.val (.int p0), .val (.long p1), .second, .val (.int p2), .val (.int p3), .val (.int p4), .val (.int p5), .val (.int (3 : Int32)), .val (.int (1 : Int32)), .val (.long v31), .second, .val (.double v36), .second, .unset, .unset, .unset, .unset, .unset, .unset, .unset, .unset, .unset, .unset]) rfl (XS.iload X0.here hx rfl (hb hby at_39) rfl  (XS.dload X0.here hx rfl (hb hby at_41) rfl  (XS.dload X0.here hx rfl (hb hby at_43) rfl  (XS.dload X0.here hx rfl (hb hby at_45) rfl  (XS.dload X0.here hx rfl (hb hby at_47) rfl  (kk))))))) ?_
      show Dn p e below s _ _ _ (s₁.setTop (mkF m 49 #[.val (.int p0), .val (.long p1), .second, .val (.int p2), .val (.int p3), .val (.int p4), .val (.int p5), .val (.int (3 : Int32)), .val (.int (1 : Int32)), .val (.long v31), .second, .val (.double v36), .second, .unset, .unset, .unset, .unset, .unset, .unset, .unset, .unset, .unset, .unset] [(.double v36), (.double v36), (.double v36), (.double v36), (.int (3 : Int32))]))
      obtain ⟨_, _, ⟨T49, L49, k49, n49⟩, -, X49, ⟨Lc49, hQ49, l49, y49, z49⟩, st49⟩ := Jvm.LawKit.callS X0 hx (y := (⟨"com/example/listino/listino/stats/MomentsMeanPinLaw", "build", "(IDDDD)[D"⟩ : MethodName)) hown (mvT hZ (hw _ (List.mem_of_getElem? (i := 0) rfl))) (mvT hZ (hw _ (List.mem_of_getElem? (i := 1) rfl))) (mvT hZ (hw _ (List.mem_of_getElem? (i := 2) rfl))) (mvT hZ (hw _ (List.mem_of_getElem? (i := 3) rfl))) (by decide) (backOf (W := 0) (rm1_3 l Z a0 hw []  v36 v36 v36 v36 h0 n0 Z0 ) hZ (hw _ (List.mem_of_getElem? (i := 3) rfl)) (hw _ (List.mem_of_getElem? (i := 2) rfl)) (by decide) (by decide)) (g := (mkF m 49 #[.val (.int p0), .val (.long p1), .second, .val (.int p2), .val (.int p3), .val (.int p4), .val (.int p5), .val (.int (3 : Int32)), .val (.int (1 : Int32)), .val (.long v31), .second, .val (.double v36), .second, .unset, .unset, .unset, .unset, .unset, .unset, .unset, .unset, .unset, .unset] [(.double v36), (.double v36), (.double v36), (.double v36), (.int (3 : Int32))])) rfl (by rw [hml]; rfl) (argsL := [(.int (3 : Int32)), (.double v36), (.double v36), (.double v36), (.double v36)]) (rest := []) (lenOf pd0 rfl) rfl (by show 2 * 0 + _ ≤ _; exact Nat.le_of_eq rfl) (hb hby at_49) (fun _ _ => ⟨rfl, e0, (by decide : 0 + 1 ≤ _), (by decide : 0 + 3 ≤ _)⟩)
      dsimp only [Pt.U, Pt.locs, Pt.cells, Pt.slots] at X49 l49 y49 z49 st49 hQ49
      subst l49 y49 z49
      obtain ⟨bb49, kb49, rfl, gz49, Nq49, K49, V_bb49⟩ := hQ49
      have N49 := Fr.app N0 Nq49
      refine Dn.st st49 ?_
      have Z49 : n0 ≤ T49.heap.size := Nat.le_trans Z0 K49.1
      show Dn p e below s _ _ _ (T49.setTop (mkF m 52 #[.val (.int p0), .val (.long p1), .second, .val (.int p2), .val (.int p3), .val (.int p4), .val (.int p5), .val (.int (3 : Int32)), .val (.int (1 : Int32)), .val (.long v31), .second, .val (.double v36), .second, .unset, .unset, .unset, .unset, .unset, .unset, .unset, .unset, .unset, .unset] [(.ref bb49)]))
      rcases (show (-2251799813685248 ≤ v31.toInt ∧ v31.toInt ≤ 2251799813685248) ∨ (2251799813685248 < v31.toInt ∨ v31.toInt < -2251799813685248) by omega) with hsp | hsp
      · show Dn p e below s _ _ _ (T49.setTop (mkF m 52 #[.val (.int p0), .val (.long p1), .second, .val (.int p2), .val (.int p3), .val (.int p4), .val (.int p5), .val (.int (3 : Int32)), .val (.int (1 : Int32)), .val (.long v31), .second, .val (.double v36), .second, .unset, .unset, .unset, .unset, .unset, .unset, .unset, .unset, .unset, .unset] [(.ref bb49)]))
        obtain ⟨_, _, ⟨T52, L52, k52, n52⟩, -, X52, ⟨Lc52, hQ52, l52, y52, z52⟩, st52⟩ := Jvm.LawKit.callS X49 hx (y := (⟨"com/example/listino/listino/stats/Moments", "mean", "([D)D"⟩ : MethodName)) hown (mvT hZ (hw _ (List.mem_of_getElem? (i := 5) rfl))) (mvT hZ (hw _ (List.mem_of_getElem? (i := 6) rfl))) (mvT hZ (hw _ (List.mem_of_getElem? (i := 7) rfl))) (mvT hZ (hw _ (List.mem_of_getElem? (i := 8) rfl))) (by decide) (backOf (W := 0) (rm2S_3 l Z a0 hw [] bb49 kb49 v36 v31.toInt T49.heap n0 Z49 V_bb49 d36 ⟨by omega, by omega⟩) hZ (hw _ (List.mem_of_getElem? (i := 8) rfl)) (hw _ (List.mem_of_getElem? (i := 7) rfl)) (by decide) (by decide)) (g := (mkF m 52 #[.val (.int p0), .val (.long p1), .second, .val (.int p2), .val (.int p3), .val (.int p4), .val (.int p5), .val (.int (3 : Int32)), .val (.int (1 : Int32)), .val (.long v31), .second, .val (.double v36), .second, .unset, .unset, .unset, .unset, .unset, .unset, .unset, .unset, .unset, .unset] [(.ref bb49)])) rfl (by rw [hml]; rfl) (argsL := [(.ref bb49)]) (rest := []) (lenOf pd1 rfl) rfl (by show 2 * 0 + _ ≤ _; exact Nat.le_of_eq rfl) (hb hby at_52) (fun _ _ => ⟨rfl, rfl, (by decide : 1 + 0 ≤ _), (by decide : 3 + 0 ≤ _)⟩)
        dsimp only [Pt.U, Pt.locs, Pt.cells, Pt.slots] at X52 l52 y52 z52 st52 hQ52
        subst l52 y52 z52
        obtain ⟨z52, rfl, d52, Nq52, hh52⟩ := hQ52
        have N52 := Fr.app N49 Nq52
        refine Dn.st st52 ?_
        show Dn p e below s _ _ _ (T52.setTop (mkF m 55 #[.val (.int p0), .val (.long p1), .second, .val (.int p2), .val (.int p3), .val (.int p4), .val (.int p5), .val (.int (3 : Int32)), .val (.int (1 : Int32)), .val (.long v31), .second, .val (.double v36), .second, .unset, .unset, .unset, .unset, .unset, .unset, .unset, .unset, .unset, .unset] [(.double z52)]))
        refine Dn.st (fun _ kk => XS.dstore X52.here hx rfl (hb hby at_55) rfl (l' := #[.val (.int p0), .val (.long p1), .second, .val (.int p2), .val (.int p3), .val (.int p4), .val (.int p5), .val (.int (3 : Int32)), .val (.int (1 : Int32)), .val (.long v31), .second, .val (.double v36), .second, .val (.double z52), .second, .unset, .unset, .unset, .unset, .unset, .unset, .unset, .unset]) rfl (XS.dload X52.here hx rfl (hb hby at_57) rfl  (XS.dload X52.here hx rfl (hb hby at_59) rfl  (XS.dcmpS X52.here hx rfl (hb hby at_61) rfl (DS.cmpV d52 d36 _) (kk))))) ?_
        show Dn p e below s _ _ _ (T52.setTop (mkF m 62 #[.val (.int p0), .val (.long p1), .second, .val (.int p2), .val (.int p3), .val (.int p4), .val (.int p5), .val (.int (3 : Int32)), .val (.int (1 : Int32)), .val (.long v31), .second, .val (.double v36), .second, .val (.double z52), .second, .unset, .unset, .unset, .unset, .unset, .unset, .unset, .unset] [(.int (c3 v31.toInt v31.toInt))]))
        have hc62 : (c3 v31.toInt v31.toInt) = (0 : Int32) := (c3_eq _ _).mpr rfl
        refine Dn.st (fun _ kk => XS.ifNo X52.here hx rfl (hb hby at_62) rfl ((if0 _ _).trans (teq hc62).2) (XS.iconst X52.here hx rfl (hb hby at_65) (XS.goto X52.here hx rfl (pc0 := 66) (pc' := 70) rfl (hb hby at_66) (by decide) (by decide) (kk)))) ?_
        show Dn p e below s _ _ _ (T52.setTop (mkF m 70 #[.val (.int p0), .val (.long p1), .second, .val (.int p2), .val (.int p3), .val (.int p4), .val (.int p5), .val (.int (3 : Int32)), .val (.int (1 : Int32)), .val (.long v31), .second, .val (.double v36), .second, .val (.double z52), .second, .unset, .unset, .unset, .unset, .unset, .unset, .unset, .unset] [(.int (1 : Int32))]))
        exact Dn.ret X52 hlk hx hret rfl (Or.inl ⟨rfl, Or.inr (Or.inl rfl), _, rfl⟩) (hb hby at_70) (by rw [hh52]; exact ⟨rfl, N52⟩) (by decide) (by decide)
      · show Dn p e below s _ _ _ (T49.setTop (mkF m 52 #[.val (.int p0), .val (.long p1), .second, .val (.int p2), .val (.int p3), .val (.int p4), .val (.int p5), .val (.int (3 : Int32)), .val (.int (1 : Int32)), .val (.long v31), .second, .val (.double v36), .second, .unset, .unset, .unset, .unset, .unset, .unset, .unset, .unset, .unset, .unset] [(.ref bb49)]))
        obtain ⟨_, _, ⟨T52, L52, k52, n52⟩, -, X52, ⟨Lc52, hQ52, l52, y52, z52⟩, st52⟩ := Jvm.LawKit.callS X49 hx (y := (⟨"com/example/listino/listino/stats/Moments", "mean", "([D)D"⟩ : MethodName)) hown (mvT hZ (hw _ (List.mem_of_getElem? (i := 5) rfl))) (mvT hZ (hw _ (List.mem_of_getElem? (i := 6) rfl))) (mvT hZ (hw _ (List.mem_of_getElem? (i := 7) rfl))) (mvT hZ (hw _ (List.mem_of_getElem? (i := 8) rfl))) (by decide) (backOf (W := 0) (rm2L_3 l Z a0 hw [] bb49 kb49 v36 v31.toInt T49.heap n0 Z49 V_bb49 d36 (by omega) (by omega)) hZ (hw _ (List.mem_of_getElem? (i := 8) rfl)) (hw _ (List.mem_of_getElem? (i := 7) rfl)) (by decide) (by decide)) (g := (mkF m 52 #[.val (.int p0), .val (.long p1), .second, .val (.int p2), .val (.int p3), .val (.int p4), .val (.int p5), .val (.int (3 : Int32)), .val (.int (1 : Int32)), .val (.long v31), .second, .val (.double v36), .second, .unset, .unset, .unset, .unset, .unset, .unset, .unset, .unset, .unset, .unset] [(.ref bb49)])) rfl (by rw [hml]; rfl) (argsL := [(.ref bb49)]) (rest := []) (lenOf pd1 rfl) rfl (by show 2 * 0 + _ ≤ _; exact Nat.le_of_eq rfl) (hb hby at_52) (fun _ _ => ⟨rfl, rfl, (by decide : 1 + 0 ≤ _), (by decide : 3 + 0 ≤ _)⟩)
        dsimp only [Pt.U, Pt.locs, Pt.cells, Pt.slots] at X52 l52 y52 z52 st52 hQ52
        subst l52 y52 z52
        obtain ⟨z52, rfl, d52, Nq52, hh52⟩ := hQ52
        have N52 := Fr.app N49 Nq52
        refine Dn.st st52 ?_
        show Dn p e below s _ _ _ (T52.setTop (mkF m 55 #[.val (.int p0), .val (.long p1), .second, .val (.int p2), .val (.int p3), .val (.int p4), .val (.int p5), .val (.int (3 : Int32)), .val (.int (1 : Int32)), .val (.long v31), .second, .val (.double v36), .second, .unset, .unset, .unset, .unset, .unset, .unset, .unset, .unset, .unset, .unset] [(.double z52)]))
        refine Dn.st (fun _ kk => XS.dstore X52.here hx rfl (hb hby at_55) rfl (l' := #[.val (.int p0), .val (.long p1), .second, .val (.int p2), .val (.int p3), .val (.int p4), .val (.int p5), .val (.int (3 : Int32)), .val (.int (1 : Int32)), .val (.long v31), .second, .val (.double v36), .second, .val (.double z52), .second, .unset, .unset, .unset, .unset, .unset, .unset, .unset, .unset]) rfl (XS.dload X52.here hx rfl (hb hby at_57) rfl  (XS.dload X52.here hx rfl (hb hby at_59) rfl  (XS.dcmpS X52.here hx rfl (hb hby at_61) rfl (DS.cmpV d52 d36 _) (kk))))) ?_
        show Dn p e below s _ _ _ (T52.setTop (mkF m 62 #[.val (.int p0), .val (.long p1), .second, .val (.int p2), .val (.int p3), .val (.int p4), .val (.int p5), .val (.int (3 : Int32)), .val (.int (1 : Int32)), .val (.long v31), .second, .val (.double v36), .second, .val (.double z52), .second, .unset, .unset, .unset, .unset, .unset, .unset, .unset, .unset] [(.int (c3 v31.toInt v31.toInt))]))
        have hc62 : (c3 v31.toInt v31.toInt) = (0 : Int32) := (c3_eq _ _).mpr rfl
        refine Dn.st (fun _ kk => XS.ifNo X52.here hx rfl (hb hby at_62) rfl ((if0 _ _).trans (teq hc62).2) (XS.iconst X52.here hx rfl (hb hby at_65) (XS.goto X52.here hx rfl (pc0 := 66) (pc' := 70) rfl (hb hby at_66) (by decide) (by decide) (kk)))) ?_
        show Dn p e below s _ _ _ (T52.setTop (mkF m 70 #[.val (.int p0), .val (.long p1), .second, .val (.int p2), .val (.int p3), .val (.int p4), .val (.int p5), .val (.int (3 : Int32)), .val (.int (1 : Int32)), .val (.long v31), .second, .val (.double v36), .second, .val (.double z52), .second, .unset, .unset, .unset, .unset, .unset, .unset, .unset, .unset] [(.int (1 : Int32))]))
        exact Dn.ret X52 hlk hx hret rfl (Or.inl ⟨rfl, Or.inr (Or.inl rfl), _, rfl⟩) (hb hby at_70) (by rw [hh52]; exact ⟨rfl, N52⟩) (by decide) (by decide)
  · subst hk7
    show Dn p e below s _ _ _ (s₁.setTop (mkF m 7 #[.val (.int p0), .val (.long p1), .second, .val (.int p2), .val (.int p3), .val (.int p4), .val (.int p5), .unset, .unset, .unset, .unset, .unset, .unset, .unset, .unset, .unset, .unset, .unset, .unset, .unset, .unset, .unset, .unset] [(.int (4 : Int32))]))
    refine Dn.st (fun _ kk => XS.istore X0.here hx rfl (hb hby at_7) rfl (l' := #[.val (.int p0), .val (.long p1), .second, .val (.int p2), .val (.int p3), .val (.int p4), .val (.int p5), .val (.int (4 : Int32)), .unset, .unset, .unset, .unset, .unset, .unset, .unset, .unset, .unset, .unset, .unset, .unset, .unset, .unset, .unset]) rfl (XS.iloadN X0.here hx rfl (hb hby at_9) rfl  (XS.iconst X0.here hx rfl (hb hby at_10) (XS.iand X0.here hx rfl (hb hby at_11) rfl (kk))))) ?_
    show Dn p e below s _ _ _ (s₁.setTop (mkF m 12 #[.val (.int p0), .val (.long p1), .second, .val (.int p2), .val (.int p3), .val (.int p4), .val (.int p5), .val (.int (4 : Int32)), .unset, .unset, .unset, .unset, .unset, .unset, .unset, .unset, .unset, .unset, .unset, .unset, .unset, .unset, .unset] [(.int (p0 &&& (1 : Int32)))]))
    generalize hv11 : ((p0 &&& (1 : Int32)) : Int32) = v11
    have q11 : v11.toInt = p0.toInt % 2 := by have qq := c_mask p0 (1 : Int32) 1 (by decide) (by decide); rw [hv11] at qq; exact qq
    have r11 := rng32 v11
    show Dn p e below s _ _ _ (s₁.setTop (mkF m 12 #[.val (.int p0), .val (.long p1), .second, .val (.int p2), .val (.int p3), .val (.int p4), .val (.int p5), .val (.int (4 : Int32)), .unset, .unset, .unset, .unset, .unset, .unset, .unset, .unset, .unset, .unset, .unset, .unset, .unset, .unset, .unset] [(.int v11)]))
    by_cases hc12 : v11 = (0 : Int32)
    · have hi12 : v11.toInt = 0 := congrArg Int32.toInt hc12
      refine Dn.st (fun _ kk => XS.ifYes X0.here hx rfl (pc0 := 12) (pc' := 19) rfl (hb hby at_12) rfl ((if0 _ _).trans (teq hc12).1) (by decide) (by decide) (XS.iconst X0.here hx rfl (hb hby at_19) (XS.istore X0.here hx rfl (hb hby at_20) rfl (l' := #[.val (.int p0), .val (.long p1), .second, .val (.int p2), .val (.int p3), .val (.int p4), .val (.int p5), .val (.int (4 : Int32)), .val (.int (0 : Int32)), .unset, .unset, .unset, .unset, .unset, .unset, .unset, .unset, .unset, .unset, .unset, .unset, .unset, .unset]) rfl (XS.iload X0.here hx rfl (hb hby at_22) rfl  (kk))))) ?_
      show Dn p e below s _ _ _ (s₁.setTop (mkF m 24 #[.val (.int p0), .val (.long p1), .second, .val (.int p2), .val (.int p3), .val (.int p4), .val (.int p5), .val (.int (4 : Int32)), .val (.int (0 : Int32)), .unset, .unset, .unset, .unset, .unset, .unset, .unset, .unset, .unset, .unset, .unset, .unset, .unset, .unset] [(.int (0 : Int32))]))
      have hc24 : (0 : Int32) = (0 : Int32) := by decide
      refine Dn.st (fun _ kk => XS.ifYes X0.here hx rfl (pc0 := 24) (pc' := 71) rfl (hb hby at_24) rfl ((if0 _ _).trans (teq hc24).1) (by decide) (by decide) (XS.iloadN X0.here hx rfl (hb hby at_71) rfl  (XS.bipush X0.here hx rfl (hb hby at_72) (XS.ishl X0.here hx rfl (hb hby at_74) rfl (kk))))) ?_
      show Dn p e below s _ _ _ (s₁.setTop (mkF m 75 #[.val (.int p0), .val (.long p1), .second, .val (.int p2), .val (.int p3), .val (.int p4), .val (.int p5), .val (.int (4 : Int32)), .val (.int (0 : Int32)), .unset, .unset, .unset, .unset, .unset, .unset, .unset, .unset, .unset, .unset, .unset, .unset, .unset, .unset] [(.int (p2 <<< ((12 : Int32) &&& 31)))]))
      generalize hv74 : ((p2 <<< ((12 : Int32) &&& 31)) : Int32) = v74
      have q74 : (v74.toInt - p2.toInt * 4096) % 4294967296 = 0 := by have qq := c_ishl p2 (12 : Int32) 12 (by decide); rw [hv74] at qq; exact qq
      have r74 := rng32 v74
      show Dn p e below s _ _ _ (s₁.setTop (mkF m 75 #[.val (.int p0), .val (.long p1), .second, .val (.int p2), .val (.int p3), .val (.int p4), .val (.int p5), .val (.int (4 : Int32)), .val (.int (0 : Int32)), .unset, .unset, .unset, .unset, .unset, .unset, .unset, .unset, .unset, .unset, .unset, .unset, .unset, .unset] [(.int v74)]))
      refine Dn.st (fun _ kk => XS.bipush X0.here hx rfl (hb hby at_75) (XS.ishr X0.here hx rfl (hb hby at_77) rfl (kk))) ?_
      show Dn p e below s _ _ _ (s₁.setTop (mkF m 78 #[.val (.int p0), .val (.long p1), .second, .val (.int p2), .val (.int p3), .val (.int p4), .val (.int p5), .val (.int (4 : Int32)), .val (.int (0 : Int32)), .unset, .unset, .unset, .unset, .unset, .unset, .unset, .unset, .unset, .unset, .unset, .unset, .unset, .unset] [(.int (v74 >>> ((12 : Int32) &&& 31)))]))
      generalize hv77 : ((v74 >>> ((12 : Int32) &&& 31)) : Int32) = v77
      have q77 : v77.toInt = v74.toInt / 4096 := by have qq := c_ishr v74 (12 : Int32) 12 (by decide); rw [hv77] at qq; exact qq
      have r77 := rng32 v77
      show Dn p e below s _ _ _ (s₁.setTop (mkF m 78 #[.val (.int p0), .val (.long p1), .second, .val (.int p2), .val (.int p3), .val (.int p4), .val (.int p5), .val (.int (4 : Int32)), .val (.int (0 : Int32)), .unset, .unset, .unset, .unset, .unset, .unset, .unset, .unset, .unset, .unset, .unset, .unset, .unset, .unset] [(.int v77)]))
      refine Dn.st (fun _ kk => XS.i2l X0.here hx rfl (hb hby at_78) rfl (kk)) ?_
      show Dn p e below s _ _ _ (s₁.setTop (mkF m 79 #[.val (.int p0), .val (.long p1), .second, .val (.int p2), .val (.int p3), .val (.int p4), .val (.int p5), .val (.int (4 : Int32)), .val (.int (0 : Int32)), .unset, .unset, .unset, .unset, .unset, .unset, .unset, .unset, .unset, .unset, .unset, .unset, .unset, .unset] [(.long (v77.toInt64))]))
      generalize hv78 : ((v77.toInt64) : Int64) = v78
      have q78 : v78.toInt = v77.toInt := by have qq := c_i2l v77; rw [hv78] at qq; exact qq
      have r78 := rng64 v78
      show Dn p e below s _ _ _ (s₁.setTop (mkF m 79 #[.val (.int p0), .val (.long p1), .second, .val (.int p2), .val (.int p3), .val (.int p4), .val (.int p5), .val (.int (4 : Int32)), .val (.int (0 : Int32)), .unset, .unset, .unset, .unset, .unset, .unset, .unset, .unset, .unset, .unset, .unset, .unset, .unset, .unset] [(.long v78)]))
      refine Dn.st (fun _ kk => XS.lstore X0.here hx rfl (hb hby at_79) rfl (l' := #[.val (.int p0), .val (.long p1), .second, .val (.int p2), .val (.int p3), .val (.int p4), .val (.int p5), .val (.int (4 : Int32)), .val (.int (0 : Int32)), .val (.long v78), .second, .unset, .unset, .unset, .unset, .unset, .unset, .unset, .unset, .unset, .unset, .unset, .unset]) rfl (XS.iload X0.here hx rfl (hb hby at_81) rfl  (XS.bipush X0.here hx rfl (hb hby at_83) (XS.ishl X0.here hx rfl (hb hby at_85) rfl (kk))))) ?_
      show Dn p e below s _ _ _ (s₁.setTop (mkF m 86 #[.val (.int p0), .val (.long p1), .second, .val (.int p2), .val (.int p3), .val (.int p4), .val (.int p5), .val (.int (4 : Int32)), .val (.int (0 : Int32)), .val (.long v78), .second, .unset, .unset, .unset, .unset, .unset, .unset, .unset, .unset, .unset, .unset, .unset, .unset] [(.int (p3 <<< ((12 : Int32) &&& 31)))]))
      generalize hv85 : ((p3 <<< ((12 : Int32) &&& 31)) : Int32) = v85
      have q85 : (v85.toInt - p3.toInt * 4096) % 4294967296 = 0 := by have qq := c_ishl p3 (12 : Int32) 12 (by decide); rw [hv85] at qq; exact qq
      have r85 := rng32 v85
      show Dn p e below s _ _ _ (s₁.setTop (mkF m 86 #[.val (.int p0), .val (.long p1), .second, .val (.int p2), .val (.int p3), .val (.int p4), .val (.int p5), .val (.int (4 : Int32)), .val (.int (0 : Int32)), .val (.long v78), .second, .unset, .unset, .unset, .unset, .unset, .unset, .unset, .unset, .unset, .unset, .unset, .unset] [(.int v85)]))
      refine Dn.st (fun _ kk => XS.bipush X0.here hx rfl (hb hby at_86) (XS.ishr X0.here hx rfl (hb hby at_88) rfl (kk))) ?_
      show Dn p e below s _ _ _ (s₁.setTop (mkF m 89 #[.val (.int p0), .val (.long p1), .second, .val (.int p2), .val (.int p3), .val (.int p4), .val (.int p5), .val (.int (4 : Int32)), .val (.int (0 : Int32)), .val (.long v78), .second, .unset, .unset, .unset, .unset, .unset, .unset, .unset, .unset, .unset, .unset, .unset, .unset] [(.int (v85 >>> ((12 : Int32) &&& 31)))]))
      generalize hv88 : ((v85 >>> ((12 : Int32) &&& 31)) : Int32) = v88
      have q88 : v88.toInt = v85.toInt / 4096 := by have qq := c_ishr v85 (12 : Int32) 12 (by decide); rw [hv88] at qq; exact qq
      have r88 := rng32 v88
      show Dn p e below s _ _ _ (s₁.setTop (mkF m 89 #[.val (.int p0), .val (.long p1), .second, .val (.int p2), .val (.int p3), .val (.int p4), .val (.int p5), .val (.int (4 : Int32)), .val (.int (0 : Int32)), .val (.long v78), .second, .unset, .unset, .unset, .unset, .unset, .unset, .unset, .unset, .unset, .unset, .unset, .unset] [(.int v88)]))
      refine Dn.st (fun _ kk => XS.i2l X0.here hx rfl (hb hby at_89) rfl (kk)) ?_
      show Dn p e below s _ _ _ (s₁.setTop (mkF m 90 #[.val (.int p0), .val (.long p1), .second, .val (.int p2), .val (.int p3), .val (.int p4), .val (.int p5), .val (.int (4 : Int32)), .val (.int (0 : Int32)), .val (.long v78), .second, .unset, .unset, .unset, .unset, .unset, .unset, .unset, .unset, .unset, .unset, .unset, .unset] [(.long (v88.toInt64))]))
      generalize hv89 : ((v88.toInt64) : Int64) = v89
      have q89 : v89.toInt = v88.toInt := by have qq := c_i2l v88; rw [hv89] at qq; exact qq
      have r89 := rng64 v89
      show Dn p e below s _ _ _ (s₁.setTop (mkF m 90 #[.val (.int p0), .val (.long p1), .second, .val (.int p2), .val (.int p3), .val (.int p4), .val (.int p5), .val (.int (4 : Int32)), .val (.int (0 : Int32)), .val (.long v78), .second, .unset, .unset, .unset, .unset, .unset, .unset, .unset, .unset, .unset, .unset, .unset, .unset] [(.long v89)]))
      refine Dn.st (fun _ kk => XS.lstore X0.here hx rfl (hb hby at_90) rfl (l' := #[.val (.int p0), .val (.long p1), .second, .val (.int p2), .val (.int p3), .val (.int p4), .val (.int p5), .val (.int (4 : Int32)), .val (.int (0 : Int32)), .val (.long v78), .second, .val (.long v89), .second, .unset, .unset, .unset, .unset, .unset, .unset, .unset, .unset, .unset, .unset]) rfl (XS.iload X0.here hx rfl (hb hby at_92) rfl  (XS.bipush X0.here hx rfl (hb hby at_94) (XS.ishl X0.here hx rfl (hb hby at_96) rfl (kk))))) ?_
      show Dn p e below s _ _ _ (s₁.setTop (mkF m 97 #[.val (.int p0), .val (.long p1), .second, .val (.int p2), .val (.int p3), .val (.int p4), .val (.int p5), .val (.int (4 : Int32)), .val (.int (0 : Int32)), .val (.long v78), .second, .val (.long v89), .second, .unset, .unset, .unset, .unset, .unset, .unset, .unset, .unset, .unset, .unset] [(.int (p4 <<< ((12 : Int32) &&& 31)))]))
      generalize hv96 : ((p4 <<< ((12 : Int32) &&& 31)) : Int32) = v96
      have q96 : (v96.toInt - p4.toInt * 4096) % 4294967296 = 0 := by have qq := c_ishl p4 (12 : Int32) 12 (by decide); rw [hv96] at qq; exact qq
      have r96 := rng32 v96
      show Dn p e below s _ _ _ (s₁.setTop (mkF m 97 #[.val (.int p0), .val (.long p1), .second, .val (.int p2), .val (.int p3), .val (.int p4), .val (.int p5), .val (.int (4 : Int32)), .val (.int (0 : Int32)), .val (.long v78), .second, .val (.long v89), .second, .unset, .unset, .unset, .unset, .unset, .unset, .unset, .unset, .unset, .unset] [(.int v96)]))
      refine Dn.st (fun _ kk => XS.bipush X0.here hx rfl (hb hby at_97) (XS.ishr X0.here hx rfl (hb hby at_99) rfl (kk))) ?_
      show Dn p e below s _ _ _ (s₁.setTop (mkF m 100 #[.val (.int p0), .val (.long p1), .second, .val (.int p2), .val (.int p3), .val (.int p4), .val (.int p5), .val (.int (4 : Int32)), .val (.int (0 : Int32)), .val (.long v78), .second, .val (.long v89), .second, .unset, .unset, .unset, .unset, .unset, .unset, .unset, .unset, .unset, .unset] [(.int (v96 >>> ((12 : Int32) &&& 31)))]))
      generalize hv99 : ((v96 >>> ((12 : Int32) &&& 31)) : Int32) = v99
      have q99 : v99.toInt = v96.toInt / 4096 := by have qq := c_ishr v96 (12 : Int32) 12 (by decide); rw [hv99] at qq; exact qq
      have r99 := rng32 v99
      show Dn p e below s _ _ _ (s₁.setTop (mkF m 100 #[.val (.int p0), .val (.long p1), .second, .val (.int p2), .val (.int p3), .val (.int p4), .val (.int p5), .val (.int (4 : Int32)), .val (.int (0 : Int32)), .val (.long v78), .second, .val (.long v89), .second, .unset, .unset, .unset, .unset, .unset, .unset, .unset, .unset, .unset, .unset] [(.int v99)]))
      refine Dn.st (fun _ kk => XS.i2l X0.here hx rfl (hb hby at_100) rfl (kk)) ?_
      show Dn p e below s _ _ _ (s₁.setTop (mkF m 101 #[.val (.int p0), .val (.long p1), .second, .val (.int p2), .val (.int p3), .val (.int p4), .val (.int p5), .val (.int (4 : Int32)), .val (.int (0 : Int32)), .val (.long v78), .second, .val (.long v89), .second, .unset, .unset, .unset, .unset, .unset, .unset, .unset, .unset, .unset, .unset] [(.long (v99.toInt64))]))
      generalize hv100 : ((v99.toInt64) : Int64) = v100
      have q100 : v100.toInt = v99.toInt := by have qq := c_i2l v99; rw [hv100] at qq; exact qq
      have r100 := rng64 v100
      show Dn p e below s _ _ _ (s₁.setTop (mkF m 101 #[.val (.int p0), .val (.long p1), .second, .val (.int p2), .val (.int p3), .val (.int p4), .val (.int p5), .val (.int (4 : Int32)), .val (.int (0 : Int32)), .val (.long v78), .second, .val (.long v89), .second, .unset, .unset, .unset, .unset, .unset, .unset, .unset, .unset, .unset, .unset] [(.long v100)]))
      refine Dn.st (fun _ kk => XS.lstore X0.here hx rfl (hb hby at_101) rfl (l' := #[.val (.int p0), .val (.long p1), .second, .val (.int p2), .val (.int p3), .val (.int p4), .val (.int p5), .val (.int (4 : Int32)), .val (.int (0 : Int32)), .val (.long v78), .second, .val (.long v89), .second, .val (.long v100), .second, .unset, .unset, .unset, .unset, .unset, .unset, .unset, .unset]) rfl (XS.iload X0.here hx rfl (hb hby at_103) rfl  (XS.bipush X0.here hx rfl (hb hby at_105) (XS.ishl X0.here hx rfl (hb hby at_107) rfl (kk))))) ?_
      show Dn p e below s _ _ _ (s₁.setTop (mkF m 108 #[.val (.int p0), .val (.long p1), .second, .val (.int p2), .val (.int p3), .val (.int p4), .val (.int p5), .val (.int (4 : Int32)), .val (.int (0 : Int32)), .val (.long v78), .second, .val (.long v89), .second, .val (.long v100), .second, .unset, .unset, .unset, .unset, .unset, .unset, .unset, .unset] [(.int (p5 <<< ((12 : Int32) &&& 31)))]))
      generalize hv107 : ((p5 <<< ((12 : Int32) &&& 31)) : Int32) = v107
      have q107 : (v107.toInt - p5.toInt * 4096) % 4294967296 = 0 := by have qq := c_ishl p5 (12 : Int32) 12 (by decide); rw [hv107] at qq; exact qq
      have r107 := rng32 v107
      show Dn p e below s _ _ _ (s₁.setTop (mkF m 108 #[.val (.int p0), .val (.long p1), .second, .val (.int p2), .val (.int p3), .val (.int p4), .val (.int p5), .val (.int (4 : Int32)), .val (.int (0 : Int32)), .val (.long v78), .second, .val (.long v89), .second, .val (.long v100), .second, .unset, .unset, .unset, .unset, .unset, .unset, .unset, .unset] [(.int v107)]))
      refine Dn.st (fun _ kk => XS.bipush X0.here hx rfl (hb hby at_108) (XS.ishr X0.here hx rfl (hb hby at_110) rfl (kk))) ?_
      show Dn p e below s _ _ _ (s₁.setTop (mkF m 111 #[.val (.int p0), .val (.long p1), .second, .val (.int p2), .val (.int p3), .val (.int p4), .val (.int p5), .val (.int (4 : Int32)), .val (.int (0 : Int32)), .val (.long v78), .second, .val (.long v89), .second, .val (.long v100), .second, .unset, .unset, .unset, .unset, .unset, .unset, .unset, .unset] [(.int (v107 >>> ((12 : Int32) &&& 31)))]))
      generalize hv110 : ((v107 >>> ((12 : Int32) &&& 31)) : Int32) = v110
      have q110 : v110.toInt = v107.toInt / 4096 := by have qq := c_ishr v107 (12 : Int32) 12 (by decide); rw [hv110] at qq; exact qq
      have r110 := rng32 v110
      show Dn p e below s _ _ _ (s₁.setTop (mkF m 111 #[.val (.int p0), .val (.long p1), .second, .val (.int p2), .val (.int p3), .val (.int p4), .val (.int p5), .val (.int (4 : Int32)), .val (.int (0 : Int32)), .val (.long v78), .second, .val (.long v89), .second, .val (.long v100), .second, .unset, .unset, .unset, .unset, .unset, .unset, .unset, .unset] [(.int v110)]))
      refine Dn.st (fun _ kk => XS.i2l X0.here hx rfl (hb hby at_111) rfl (kk)) ?_
      show Dn p e below s _ _ _ (s₁.setTop (mkF m 112 #[.val (.int p0), .val (.long p1), .second, .val (.int p2), .val (.int p3), .val (.int p4), .val (.int p5), .val (.int (4 : Int32)), .val (.int (0 : Int32)), .val (.long v78), .second, .val (.long v89), .second, .val (.long v100), .second, .unset, .unset, .unset, .unset, .unset, .unset, .unset, .unset] [(.long (v110.toInt64))]))
      generalize hv111 : ((v110.toInt64) : Int64) = v111
      have q111 : v111.toInt = v110.toInt := by have qq := c_i2l v110; rw [hv111] at qq; exact qq
      have r111 := rng64 v111
      show Dn p e below s _ _ _ (s₁.setTop (mkF m 112 #[.val (.int p0), .val (.long p1), .second, .val (.int p2), .val (.int p3), .val (.int p4), .val (.int p5), .val (.int (4 : Int32)), .val (.int (0 : Int32)), .val (.long v78), .second, .val (.long v89), .second, .val (.long v100), .second, .unset, .unset, .unset, .unset, .unset, .unset, .unset, .unset] [(.long v111)]))
      refine Dn.st (fun _ kk => XS.lstore X0.here hx rfl (hb hby at_112) rfl (l' := #[.val (.int p0), .val (.long p1), .second, .val (.int p2), .val (.int p3), .val (.int p4), .val (.int p5), .val (.int (4 : Int32)), .val (.int (0 : Int32)), .val (.long v78), .second, .val (.long v89), .second, .val (.long v100), .second, .val (.long v111), .second, .unset, .unset, .unset, .unset, .unset, .unset]) rfl (XS.lload X0.here hx rfl (hb hby at_114) rfl  (XS.lstore X0.here hx rfl (hb hby at_116) rfl (l' := #[.val (.int p0), .val (.long p1), .second, .val (.int p2), .val (.int p3), .val (.int p4), .val (.int p5), .val (.int (4 : Int32)), .val (.int (0 : Int32)), .val (.long v78), .second, .val (.long v89), .second, .val (.long v100), .second, .val (.long v111), .second, .val (.long v78), .second, .unset, .unset, .unset, .unset]) rfl (XS.iload X0.here hx rfl (hb hby at_118) rfl  (XS.iconst X0.here hx rfl (hb hby at_120) (kk)))))) ?_
      show Dn p e below s _ _ _ (s₁.setTop (mkF m 121 #[.val (.int p0), .val (.long p1), .second, .val (.int p2), .val (.int p3), .val (.int p4), .val (.int p5), .val (.int (4 : Int32)), .val (.int (0 : Int32)), .val (.long v78), .second, .val (.long v89), .second, .val (.long v100), .second, .val (.long v111), .second, .val (.long v78), .second, .unset, .unset, .unset, .unset] [(.int (2 : Int32)), (.int (4 : Int32))]))
      have hc121 : ¬ ((4 : Int32) < (2 : Int32)) := by decide
      refine Dn.st (fun _ kk => XS.icmpNo X0.here hx rfl (hb hby at_121) rfl (flt hc121).1 (XS.lload X0.here hx rfl (hb hby at_124) rfl  (XS.lload X0.here hx rfl (hb hby at_126) rfl  (XS.ladd X0.here hx rfl (hb hby at_128) rfl (kk))))) ?_
      show Dn p e below s _ _ _ (s₁.setTop (mkF m 129 #[.val (.int p0), .val (.long p1), .second, .val (.int p2), .val (.int p3), .val (.int p4), .val (.int p5), .val (.int (4 : Int32)), .val (.int (0 : Int32)), .val (.long v78), .second, .val (.long v89), .second, .val (.long v100), .second, .val (.long v111), .second, .val (.long v78), .second, .unset, .unset, .unset, .unset] [(.long (v78 + v89))]))
      generalize hv128 : ((v78 + v89) : Int64) = v128
      have q128 : (v128.toInt - (v78.toInt + v89.toInt)) % 18446744073709551616 = 0 := by have qq := c_ladd v78 v89; rw [hv128] at qq; exact qq
      have r128 := rng64 v128
      have x128 : v128.toInt = v78.toInt + v89.toInt := by omega
      show Dn p e below s _ _ _ (s₁.setTop (mkF m 129 #[.val (.int p0), .val (.long p1), .second, .val (.int p2), .val (.int p3), .val (.int p4), .val (.int p5), .val (.int (4 : Int32)), .val (.int (0 : Int32)), .val (.long v78), .second, .val (.long v89), .second, .val (.long v100), .second, .val (.long v111), .second, .val (.long v78), .second, .unset, .unset, .unset, .unset] [(.long v128)]))
      refine Dn.st (fun _ kk => XS.lstore X0.here hx rfl (hb hby at_129) rfl (l' := #[.val (.int p0), .val (.long p1), .second, .val (.int p2), .val (.int p3), .val (.int p4), .val (.int p5), .val (.int (4 : Int32)), .val (.int (0 : Int32)), .val (.long v78), .second, .val (.long v89), .second, .val (.long v100), .second, .val (.long v111), .second, .val (.long v128), .second, .unset, .unset, .unset, .unset]) rfl (XS.iload X0.here hx rfl (hb hby at_131) rfl  (XS.iconst X0.here hx rfl (hb hby at_133) (kk)))) ?_
      show Dn p e below s _ _ _ (s₁.setTop (mkF m 134 #[.val (.int p0), .val (.long p1), .second, .val (.int p2), .val (.int p3), .val (.int p4), .val (.int p5), .val (.int (4 : Int32)), .val (.int (0 : Int32)), .val (.long v78), .second, .val (.long v89), .second, .val (.long v100), .second, .val (.long v111), .second, .val (.long v128), .second, .unset, .unset, .unset, .unset] [(.int (3 : Int32)), (.int (4 : Int32))]))
      have hc134 : ¬ ((4 : Int32) < (3 : Int32)) := by decide
      refine Dn.st (fun _ kk => XS.icmpNo X0.here hx rfl (hb hby at_134) rfl (flt hc134).1 (XS.lload X0.here hx rfl (hb hby at_137) rfl  (XS.lload X0.here hx rfl (hb hby at_139) rfl  (XS.ladd X0.here hx rfl (hb hby at_141) rfl (kk))))) ?_
      show Dn p e below s _ _ _ (s₁.setTop (mkF m 142 #[.val (.int p0), .val (.long p1), .second, .val (.int p2), .val (.int p3), .val (.int p4), .val (.int p5), .val (.int (4 : Int32)), .val (.int (0 : Int32)), .val (.long v78), .second, .val (.long v89), .second, .val (.long v100), .second, .val (.long v111), .second, .val (.long v128), .second, .unset, .unset, .unset, .unset] [(.long (v128 + v100))]))
      generalize hv141 : ((v128 + v100) : Int64) = v141
      have q141 : (v141.toInt - (v128.toInt + v100.toInt)) % 18446744073709551616 = 0 := by have qq := c_ladd v128 v100; rw [hv141] at qq; exact qq
      have r141 := rng64 v141
      have x141 : v141.toInt = v128.toInt + v100.toInt := by omega
      show Dn p e below s _ _ _ (s₁.setTop (mkF m 142 #[.val (.int p0), .val (.long p1), .second, .val (.int p2), .val (.int p3), .val (.int p4), .val (.int p5), .val (.int (4 : Int32)), .val (.int (0 : Int32)), .val (.long v78), .second, .val (.long v89), .second, .val (.long v100), .second, .val (.long v111), .second, .val (.long v128), .second, .unset, .unset, .unset, .unset] [(.long v141)]))
      refine Dn.st (fun _ kk => XS.lstore X0.here hx rfl (hb hby at_142) rfl (l' := #[.val (.int p0), .val (.long p1), .second, .val (.int p2), .val (.int p3), .val (.int p4), .val (.int p5), .val (.int (4 : Int32)), .val (.int (0 : Int32)), .val (.long v78), .second, .val (.long v89), .second, .val (.long v100), .second, .val (.long v111), .second, .val (.long v141), .second, .unset, .unset, .unset, .unset]) rfl (XS.iload X0.here hx rfl (hb hby at_144) rfl  (XS.iconst X0.here hx rfl (hb hby at_146) (kk)))) ?_
      show Dn p e below s _ _ _ (s₁.setTop (mkF m 147 #[.val (.int p0), .val (.long p1), .second, .val (.int p2), .val (.int p3), .val (.int p4), .val (.int p5), .val (.int (4 : Int32)), .val (.int (0 : Int32)), .val (.long v78), .second, .val (.long v89), .second, .val (.long v100), .second, .val (.long v111), .second, .val (.long v141), .second, .unset, .unset, .unset, .unset] [(.int (4 : Int32)), (.int (4 : Int32))]))
      have hc147 : ¬ ((4 : Int32) < (4 : Int32)) := by decide
      refine Dn.st (fun _ kk => XS.icmpNo X0.here hx rfl (hb hby at_147) rfl (flt hc147).1 (XS.lload X0.here hx rfl (hb hby at_150) rfl  (XS.lload X0.here hx rfl (hb hby at_152) rfl  (XS.ladd X0.here hx rfl (hb hby at_154) rfl (kk))))) ?_
      show Dn p e below s _ _ _ (s₁.setTop (mkF m 155 #[.val (.int p0), .val (.long p1), .second, .val (.int p2), .val (.int p3), .val (.int p4), .val (.int p5), .val (.int (4 : Int32)), .val (.int (0 : Int32)), .val (.long v78), .second, .val (.long v89), .second, .val (.long v100), .second, .val (.long v111), .second, .val (.long v141), .second, .unset, .unset, .unset, .unset] [(.long (v141 + v111))]))
      generalize hv154 : ((v141 + v111) : Int64) = v154
      have q154 : (v154.toInt - (v141.toInt + v111.toInt)) % 18446744073709551616 = 0 := by have qq := c_ladd v141 v111; rw [hv154] at qq; exact qq
      have r154 := rng64 v154
      have x154 : v154.toInt = v141.toInt + v111.toInt := by omega
      show Dn p e below s _ _ _ (s₁.setTop (mkF m 155 #[.val (.int p0), .val (.long p1), .second, .val (.int p2), .val (.int p3), .val (.int p4), .val (.int p5), .val (.int (4 : Int32)), .val (.int (0 : Int32)), .val (.long v78), .second, .val (.long v89), .second, .val (.long v100), .second, .val (.long v111), .second, .val (.long v141), .second, .unset, .unset, .unset, .unset] [(.long v154)]))
      refine Dn.st (fun _ kk => XS.lstore X0.here hx rfl (hb hby at_155) rfl (l' := #[.val (.int p0), .val (.long p1), .second, .val (.int p2), .val (.int p3), .val (.int p4), .val (.int p5), .val (.int (4 : Int32)), .val (.int (0 : Int32)), .val (.long v78), .second, .val (.long v89), .second, .val (.long v100), .second, .val (.long v111), .second, .val (.long v154), .second, .unset, .unset, .unset, .unset]) rfl (XS.iload X0.here hx rfl (hb hby at_157) rfl  (XS.lload X0.here hx rfl (hb hby at_159) rfl  (kk)))) ?_
      show Dn p e below s _ _ _ (s₁.setTop (mkF m 161 #[.val (.int p0), .val (.long p1), .second, .val (.int p2), .val (.int p3), .val (.int p4), .val (.int p5), .val (.int (4 : Int32)), .val (.int (0 : Int32)), .val (.long v78), .second, .val (.long v89), .second, .val (.long v100), .second, .val (.long v111), .second, .val (.long v154), .second, .unset, .unset, .unset, .unset] [(.long v78), (.int (4 : Int32))]))
      have d161 := DS.l2d (v := v78) (by omega)
      refine Dn.st (fun _ kk => XS.l2dS X0.here hx rfl (hb hby at_161) rfl rfl (kk)) ?_
      show Dn p e below s _ _ _ (s₁.setTop (mkF m 162 #[.val (.int p0), .val (.long p1), .second, .val (.int p2), .val (.int p3), .val (.int p4), .val (.int p5), .val (.int (4 : Int32)), .val (.int (0 : Int32)), .val (.long v78), .second, .val (.long v89), .second, .val (.long v100), .second, .val (.long v111), .second, .val (.long v154), .second, .unset, .unset, .unset, .unset] [(.double (FP.l2d v78)), (.int (4 : Int32))]))
      generalize hv161 : ((FP.l2d v78) : UInt64) = v161 at d161 ⊢
      show Dn p e below s _ _ _ (s₁.setTop (mkF m 162 #[.val (.int p0), .val (.long p1), .second, .val (.int p2), .val (.int p3), .val (.int p4), .val (.int p5), .val (.int (4 : Int32)), .val (.int (0 : Int32)), .val (.long v78), .second, .val (.long v89), .second, .val (.long v100), .second, .val (.long v111), .second, .val (.long v154), .second, .unset, .unset, .unset, .unset] [(.double v161), (.int (4 : Int32))]))
      refine Dn.st (fun _ kk => XS.lload X0.here hx rfl (hb hby at_162) rfl  (kk)) ?_
      show Dn p e below s _ _ _ (s₁.setTop (mkF m 164 #[.val (.int p0), .val (.long p1), .second, .val (.int p2), .val (.int p3), .val (.int p4), .val (.int p5), .val (.int (4 : Int32)), .val (.int (0 : Int32)), .val (.long v78), .second, .val (.long v89), .second, .val (.long v100), .second, .val (.long v111), .second, .val (.long v154), .second, .unset, .unset, .unset, .unset] [(.long v89), (.double v161), (.int (4 : Int32))]))
      have d164 := DS.l2d (v := v89) (by omega)
      refine Dn.st (fun _ kk => XS.l2dS X0.here hx rfl (hb hby at_164) rfl rfl (kk)) ?_
      show Dn p e below s _ _ _ (s₁.setTop (mkF m 165 #[.val (.int p0), .val (.long p1), .second, .val (.int p2), .val (.int p3), .val (.int p4), .val (.int p5), .val (.int (4 : Int32)), .val (.int (0 : Int32)), .val (.long v78), .second, .val (.long v89), .second, .val (.long v100), .second, .val (.long v111), .second, .val (.long v154), .second, .unset, .unset, .unset, .unset] [(.double (FP.l2d v89)), (.double v161), (.int (4 : Int32))]))
      generalize hv164 : ((FP.l2d v89) : UInt64) = v164 at d164 ⊢
      show Dn p e below s _ _ _ (s₁.setTop (mkF m 165 #[.val (.int p0), .val (.long p1), .second, .val (.int p2), .val (.int p3), .val (.int p4), .val (.int p5), .val (.int (4 : Int32)), .val (.int (0 : Int32)), .val (.long v78), .second, .val (.long v89), .second, .val (.long v100), .second, .val (.long v111), .second, .val (.long v154), .second, .unset, .unset, .unset, .unset] [(.double v164), (.double v161), (.int (4 : Int32))]))
      refine Dn.st (fun _ kk => XS.lload X0.here hx rfl (hb hby at_165) rfl  (kk)) ?_
      show Dn p e below s _ _ _ (s₁.setTop (mkF m 167 #[.val (.int p0), .val (.long p1), .second, .val (.int p2), .val (.int p3), .val (.int p4), .val (.int p5), .val (.int (4 : Int32)), .val (.int (0 : Int32)), .val (.long v78), .second, .val (.long v89), .second, .val (.long v100), .second, .val (.long v111), .second, .val (.long v154), .second, .unset, .unset, .unset, .unset] [(.long v100), (.double v164), (.double v161), (.int (4 : Int32))]))
      have d167 := DS.l2d (v := v100) (by omega)
      refine Dn.st (fun _ kk => XS.l2dS X0.here hx rfl (hb hby at_167) rfl rfl (kk)) ?_
      show Dn p e below s _ _ _ (s₁.setTop (mkF m 168 #[.val (.int p0), .val (.long p1), .second, .val (.int p2), .val (.int p3), .val (.int p4), .val (.int p5), .val (.int (4 : Int32)), .val (.int (0 : Int32)), .val (.long v78), .second, .val (.long v89), .second, .val (.long v100), .second, .val (.long v111), .second, .val (.long v154), .second, .unset, .unset, .unset, .unset] [(.double (FP.l2d v100)), (.double v164), (.double v161), (.int (4 : Int32))]))
      generalize hv167 : ((FP.l2d v100) : UInt64) = v167 at d167 ⊢
      show Dn p e below s _ _ _ (s₁.setTop (mkF m 168 #[.val (.int p0), .val (.long p1), .second, .val (.int p2), .val (.int p3), .val (.int p4), .val (.int p5), .val (.int (4 : Int32)), .val (.int (0 : Int32)), .val (.long v78), .second, .val (.long v89), .second, .val (.long v100), .second, .val (.long v111), .second, .val (.long v154), .second, .unset, .unset, .unset, .unset] [(.double v167), (.double v164), (.double v161), (.int (4 : Int32))]))
      refine Dn.st (fun _ kk => XS.lload X0.here hx rfl (hb hby at_168) rfl  (kk)) ?_
      show Dn p e below s _ _ _ (s₁.setTop (mkF m 170 #[.val (.int p0), .val (.long p1), .second, .val (.int p2), .val (.int p3), .val (.int p4), .val (.int p5), .val (.int (4 : Int32)), .val (.int (0 : Int32)), .val (.long v78), .second, .val (.long v89), .second, .val (.long v100), .second, .val (.long v111), .second, .val (.long v154), .second, .unset, .unset, .unset, .unset] [(.long v111), (.double v167), (.double v164), (.double v161), (.int (4 : Int32))]))
      have d170 := DS.l2d (v := v111) (by omega)
      refine Dn.st (fun _ kk => XS.l2dS X0.here hx rfl (hb hby at_170) rfl rfl (kk)) ?_
      show Dn p e below s _ _ _ (s₁.setTop (mkF m 171 #[.val (.int p0), .val (.long p1), .second, .val (.int p2), .val (.int p3), .val (.int p4), .val (.int p5), .val (.int (4 : Int32)), .val (.int (0 : Int32)), .val (.long v78), .second, .val (.long v89), .second, .val (.long v100), .second, .val (.long v111), .second, .val (.long v154), .second, .unset, .unset, .unset, .unset] [(.double (FP.l2d v111)), (.double v167), (.double v164), (.double v161), (.int (4 : Int32))]))
      generalize hv170 : ((FP.l2d v111) : UInt64) = v170 at d170 ⊢
      show Dn p e below s _ _ _ (s₁.setTop (mkF m 171 #[.val (.int p0), .val (.long p1), .second, .val (.int p2), .val (.int p3), .val (.int p4), .val (.int p5), .val (.int (4 : Int32)), .val (.int (0 : Int32)), .val (.long v78), .second, .val (.long v89), .second, .val (.long v100), .second, .val (.long v111), .second, .val (.long v154), .second, .unset, .unset, .unset, .unset] [(.double v170), (.double v167), (.double v164), (.double v161), (.int (4 : Int32))]))
      obtain ⟨_, _, ⟨T171, L171, k171, n171⟩, -, X171, ⟨Lc171, hQ171, l171, y171, z171⟩, st171⟩ := Jvm.LawKit.callS X0 hx (y := (⟨"com/example/listino/listino/stats/MomentsMeanPinLaw", "build", "(IDDDD)[D"⟩ : MethodName)) hown (mvT hZ (hw _ (List.mem_of_getElem? (i := 0) rfl))) (mvT hZ (hw _ (List.mem_of_getElem? (i := 1) rfl))) (mvT hZ (hw _ (List.mem_of_getElem? (i := 2) rfl))) (mvT hZ (hw _ (List.mem_of_getElem? (i := 3) rfl))) (by decide) (backOf (W := 0) (rm1_4 l Z a0 hw []  v161 v164 v167 v170 h0 n0 Z0 ) hZ (hw _ (List.mem_of_getElem? (i := 3) rfl)) (hw _ (List.mem_of_getElem? (i := 2) rfl)) (by decide) (by decide)) (g := (mkF m 171 #[.val (.int p0), .val (.long p1), .second, .val (.int p2), .val (.int p3), .val (.int p4), .val (.int p5), .val (.int (4 : Int32)), .val (.int (0 : Int32)), .val (.long v78), .second, .val (.long v89), .second, .val (.long v100), .second, .val (.long v111), .second, .val (.long v154), .second, .unset, .unset, .unset, .unset] [(.double v170), (.double v167), (.double v164), (.double v161), (.int (4 : Int32))])) rfl (by rw [hml]; rfl) (argsL := [(.int (4 : Int32)), (.double v161), (.double v164), (.double v167), (.double v170)]) (rest := []) (lenOf pd0 rfl) rfl (by show 2 * 0 + _ ≤ _; exact Nat.le_of_eq rfl) (hb hby at_171) (fun _ _ => ⟨rfl, e0, (by decide : 0 + 1 ≤ _), (by decide : 0 + 4 ≤ _)⟩)
      dsimp only [Pt.U, Pt.locs, Pt.cells, Pt.slots] at X171 l171 y171 z171 st171 hQ171
      subst l171 y171 z171
      obtain ⟨bb171, kb171, rfl, gz171, Nq171, K171, V_bb171⟩ := hQ171
      have N171 := Fr.app N0 Nq171
      refine Dn.st st171 ?_
      have Z171 : n0 ≤ T171.heap.size := Nat.le_trans Z0 K171.1
      show Dn p e below s _ _ _ (T171.setTop (mkF m 174 #[.val (.int p0), .val (.long p1), .second, .val (.int p2), .val (.int p3), .val (.int p4), .val (.int p5), .val (.int (4 : Int32)), .val (.int (0 : Int32)), .val (.long v78), .second, .val (.long v89), .second, .val (.long v100), .second, .val (.long v111), .second, .val (.long v154), .second, .unset, .unset, .unset, .unset] [(.ref bb171)]))
      obtain ⟨_, _, ⟨T174, L174, k174, n174⟩, -, X174, ⟨Lc174, hQ174, l174, y174, z174⟩, st174⟩ := Jvm.LawKit.callS X171 hx (y := (⟨"com/example/listino/listino/stats/Moments", "mean", "([D)D"⟩ : MethodName)) hown (mvT hZ (hw _ (List.mem_of_getElem? (i := 5) rfl))) (mvT hZ (hw _ (List.mem_of_getElem? (i := 6) rfl))) (mvT hZ (hw _ (List.mem_of_getElem? (i := 7) rfl))) (mvT hZ (hw _ (List.mem_of_getElem? (i := 8) rfl))) (by decide) (backOf (W := 0) (rm2E_4 l Z a0 hw [] bb171 kb171 v161 v164 v167 v170 v78.toInt v89.toInt v100.toInt v111.toInt v154.toInt T171.heap n0 Z171 V_bb171 d161 d164 d167 d170 ⟨by omega, by omega⟩ ⟨by omega, by omega⟩ ⟨by omega, by omega⟩ ⟨by omega, by omega⟩ (by omega)) hZ (hw _ (List.mem_of_getElem? (i := 8) rfl)) (hw _ (List.mem_of_getElem? (i := 7) rfl)) (by decide) (by decide)) (g := (mkF m 174 #[.val (.int p0), .val (.long p1), .second, .val (.int p2), .val (.int p3), .val (.int p4), .val (.int p5), .val (.int (4 : Int32)), .val (.int (0 : Int32)), .val (.long v78), .second, .val (.long v89), .second, .val (.long v100), .second, .val (.long v111), .second, .val (.long v154), .second, .unset, .unset, .unset, .unset] [(.ref bb171)])) rfl (by rw [hml]; rfl) (argsL := [(.ref bb171)]) (rest := []) (lenOf pd1 rfl) rfl (by show 2 * 0 + _ ≤ _; exact Nat.le_of_eq rfl) (hb hby at_174) (fun _ _ => ⟨rfl, rfl, (by decide : 1 + 0 ≤ _), (by decide : 4 + 0 ≤ _)⟩)
      dsimp only [Pt.U, Pt.locs, Pt.cells, Pt.slots] at X174 l174 y174 z174 st174 hQ174
      subst l174 y174 z174
      obtain ⟨z174, rfl, d174, Nq174, hh174⟩ := hQ174
      have N174 := Fr.app N171 Nq174
      refine Dn.st st174 ?_
      show Dn p e below s _ _ _ (T174.setTop (mkF m 177 #[.val (.int p0), .val (.long p1), .second, .val (.int p2), .val (.int p3), .val (.int p4), .val (.int p5), .val (.int (4 : Int32)), .val (.int (0 : Int32)), .val (.long v78), .second, .val (.long v89), .second, .val (.long v100), .second, .val (.long v111), .second, .val (.long v154), .second, .unset, .unset, .unset, .unset] [(.double z174)]))
      refine Dn.st (fun _ kk => XS.dstore X174.here hx rfl (hb hby at_177) rfl (l' := #[.val (.int p0), .val (.long p1), .second, .val (.int p2), .val (.int p3), .val (.int p4), .val (.int p5), .val (.int (4 : Int32)), .val (.int (0 : Int32)), .val (.long v78), .second, .val (.long v89), .second, .val (.long v100), .second, .val (.long v111), .second, .val (.long v154), .second, .val (.double z174), .second, .unset, .unset]) rfl (XS.iload X174.here hx rfl (hb hby at_179) rfl  (XS.iconst X174.here hx rfl (hb hby at_181) (kk)))) ?_
      show Dn p e below s _ _ _ (T174.setTop (mkF m 182 #[.val (.int p0), .val (.long p1), .second, .val (.int p2), .val (.int p3), .val (.int p4), .val (.int p5), .val (.int (4 : Int32)), .val (.int (0 : Int32)), .val (.long v78), .second, .val (.long v89), .second, .val (.long v100), .second, .val (.long v111), .second, .val (.long v154), .second, .val (.double z174), .second, .unset, .unset] [(.int (3 : Int32)), (.int (4 : Int32))]))
      have hc182 : ¬ ((4 : Int32) = (3 : Int32)) := by decide
      refine Dn.st (fun _ kk => XS.icmpYes X174.here hx rfl (pc0 := 182) (pc' := 196) rfl (hb hby at_182) rfl (feq hc182).2 (by decide) (by decide) (XS.dload X174.here hx rfl (hb hby at_196) rfl  (XS.lload X174.here hx rfl (hb hby at_198) rfl  (kk)))) ?_
      show Dn p e below s _ _ _ (T174.setTop (mkF m 200 #[.val (.int p0), .val (.long p1), .second, .val (.int p2), .val (.int p3), .val (.int p4), .val (.int p5), .val (.int (4 : Int32)), .val (.int (0 : Int32)), .val (.long v78), .second, .val (.long v89), .second, .val (.long v100), .second, .val (.long v111), .second, .val (.long v154), .second, .val (.double z174), .second, .unset, .unset] [(.long v154), (.double z174)]))
      have d200 := DS.l2d (v := v154) (by omega)
      refine Dn.st (fun _ kk => XS.l2dS X174.here hx rfl (hb hby at_200) rfl rfl (kk)) ?_
      show Dn p e below s _ _ _ (T174.setTop (mkF m 201 #[.val (.int p0), .val (.long p1), .second, .val (.int p2), .val (.int p3), .val (.int p4), .val (.int p5), .val (.int (4 : Int32)), .val (.int (0 : Int32)), .val (.long v78), .second, .val (.long v89), .second, .val (.long v100), .second, .val (.long v111), .second, .val (.long v154), .second, .val (.double z174), .second, .unset, .unset] [(.double (FP.l2d v154)), (.double z174)]))
      generalize hv200 : ((FP.l2d v154) : UInt64) = v200 at d200 ⊢
      show Dn p e below s _ _ _ (T174.setTop (mkF m 201 #[.val (.int p0), .val (.long p1), .second, .val (.int p2), .val (.int p3), .val (.int p4), .val (.int p5), .val (.int (4 : Int32)), .val (.int (0 : Int32)), .val (.long v78), .second, .val (.long v89), .second, .val (.long v100), .second, .val (.long v111), .second, .val (.long v154), .second, .val (.double z174), .second, .unset, .unset] [(.double v200), (.double z174)]))
      refine Dn.st (fun _ kk => XS.iload X174.here hx rfl (hb hby at_201) rfl  (kk)) ?_
      show Dn p e below s _ _ _ (T174.setTop (mkF m 203 #[.val (.int p0), .val (.long p1), .second, .val (.int p2), .val (.int p3), .val (.int p4), .val (.int p5), .val (.int (4 : Int32)), .val (.int (0 : Int32)), .val (.long v78), .second, .val (.long v89), .second, .val (.long v100), .second, .val (.long v111), .second, .val (.long v154), .second, .val (.double z174), .second, .unset, .unset] [(.int (4 : Int32)), (.double v200), (.double z174)]))
      have d203 := DS.i2d (4 : Int32)
      refine Dn.st (fun _ kk => XS.i2dS X174.here hx rfl (hb hby at_203) rfl rfl (kk)) ?_
      show Dn p e below s _ _ _ (T174.setTop (mkF m 204 #[.val (.int p0), .val (.long p1), .second, .val (.int p2), .val (.int p3), .val (.int p4), .val (.int p5), .val (.int (4 : Int32)), .val (.int (0 : Int32)), .val (.long v78), .second, .val (.long v89), .second, .val (.long v100), .second, .val (.long v111), .second, .val (.long v154), .second, .val (.double z174), .second, .unset, .unset] [(.double (FP.i2d (4 : Int32))), (.double v200), (.double z174)]))
      generalize hv203 : ((FP.i2d (4 : Int32)) : UInt64) = v203 at d203 ⊢
      show Dn p e below s _ _ _ (T174.setTop (mkF m 204 #[.val (.int p0), .val (.long p1), .second, .val (.int p2), .val (.int p3), .val (.int p4), .val (.int p5), .val (.int (4 : Int32)), .val (.int (0 : Int32)), .val (.long v78), .second, .val (.long v89), .second, .val (.long v100), .second, .val (.long v111), .second, .val (.long v154), .second, .val (.double z174), .second, .unset, .unset] [(.double v203), (.double v200), (.double z174)]))
      have d204 : DS 2 v154.toInt (FP.ddiv v200 v203) := DS.div (n := 2) (Q := v154.toInt) d200 (DS.cast (i' := 4) d203 rfl (by decide)) (by decide) (by show _ * 4 = _ * 1; omega) (by omega) (by decide)
      refine Dn.st (fun _ kk => XS.ddivS X174.here hx rfl (hb hby at_204) rfl d204.nn rfl (kk)) ?_
      show Dn p e below s _ _ _ (T174.setTop (mkF m 205 #[.val (.int p0), .val (.long p1), .second, .val (.int p2), .val (.int p3), .val (.int p4), .val (.int p5), .val (.int (4 : Int32)), .val (.int (0 : Int32)), .val (.long v78), .second, .val (.long v89), .second, .val (.long v100), .second, .val (.long v111), .second, .val (.long v154), .second, .val (.double z174), .second, .unset, .unset] [(.double (FP.ddiv v200 v203)), (.double z174)]))
      generalize hv204 : ((FP.ddiv v200 v203) : UInt64) = v204 at d204 ⊢
      show Dn p e below s _ _ _ (T174.setTop (mkF m 205 #[.val (.int p0), .val (.long p1), .second, .val (.int p2), .val (.int p3), .val (.int p4), .val (.int p5), .val (.int (4 : Int32)), .val (.int (0 : Int32)), .val (.long v78), .second, .val (.long v89), .second, .val (.long v100), .second, .val (.long v111), .second, .val (.long v154), .second, .val (.double z174), .second, .unset, .unset] [(.double v204), (.double z174)]))
      refine Dn.st (fun _ kk => XS.dcmpS X174.here hx rfl (hb hby at_205) rfl (DS.cmpV d174 d204 _) (kk)) ?_
      show Dn p e below s _ _ _ (T174.setTop (mkF m 206 #[.val (.int p0), .val (.long p1), .second, .val (.int p2), .val (.int p3), .val (.int p4), .val (.int p5), .val (.int (4 : Int32)), .val (.int (0 : Int32)), .val (.long v78), .second, .val (.long v89), .second, .val (.long v100), .second, .val (.long v111), .second, .val (.long v154), .second, .val (.double z174), .second, .unset, .unset] [(.int (c3 v154.toInt v154.toInt))]))
      have hc206 : (c3 v154.toInt v154.toInt) = (0 : Int32) := (c3_eq _ _).mpr rfl
      refine Dn.st (fun _ kk => XS.ifNo X174.here hx rfl (hb hby at_206) rfl ((if0 _ _).trans (teq hc206).2) (XS.iconst X174.here hx rfl (hb hby at_209) (XS.goto X174.here hx rfl (pc0 := 210) (pc' := 214) rfl (hb hby at_210) (by decide) (by decide) (kk)))) ?_
      show Dn p e below s _ _ _ (T174.setTop (mkF m 214 #[.val (.int p0), .val (.long p1), .second, .val (.int p2), .val (.int p3), .val (.int p4), .val (.int p5), .val (.int (4 : Int32)), .val (.int (0 : Int32)), .val (.long v78), .second, .val (.long v89), .second, .val (.long v100), .second, .val (.long v111), .second, .val (.long v154), .second, .val (.double z174), .second, .unset, .unset] [(.int (1 : Int32))]))
      exact Dn.ret X174 hlk hx hret rfl (Or.inl ⟨rfl, Or.inr (Or.inl rfl), _, rfl⟩) (hb hby at_214) (by rw [hh174]; exact ⟨rfl, N174⟩) (by decide) (by decide)
    · have hi12 : ¬ v11.toInt = 0 := fun qq => hc12 (Int32.toInt_inj.mp qq)
      refine Dn.st (fun _ kk => XS.ifNo X0.here hx rfl (hb hby at_12) rfl ((if0 _ _).trans (feq hc12).1) (XS.iconst X0.here hx rfl (hb hby at_15) (XS.goto X0.here hx rfl (pc0 := 16) (pc' := 20) rfl (hb hby at_16) (by decide) (by decide) (XS.istore X0.here hx rfl (hb hby at_20) rfl (l' := #[.val (.int p0), .val (.long p1), .second, .val (.int p2), .val (.int p3), .val (.int p4), .val (.int p5), .val (.int (4 : Int32)), .val (.int (1 : Int32)), .unset, .unset, .unset, .unset, .unset, .unset, .unset, .unset, .unset, .unset, .unset, .unset, .unset, .unset]) rfl (XS.iload X0.here hx rfl (hb hby at_22) rfl  (kk)))))) ?_
      show Dn p e below s _ _ _ (s₁.setTop (mkF m 24 #[.val (.int p0), .val (.long p1), .second, .val (.int p2), .val (.int p3), .val (.int p4), .val (.int p5), .val (.int (4 : Int32)), .val (.int (1 : Int32)), .unset, .unset, .unset, .unset, .unset, .unset, .unset, .unset, .unset, .unset, .unset, .unset, .unset, .unset] [(.int (1 : Int32))]))
      have hc24 : ¬ ((1 : Int32) = (0 : Int32)) := by decide
      refine Dn.st (fun _ kk => XS.ifNo X0.here hx rfl (hb hby at_24) rfl ((if0 _ _).trans (feq hc24).1) (XS.lloadN X0.here hx rfl (hb hby at_27) rfl  (X0.ldc2Long hx hown (mvT hZ (hw _ (List.mem_of_getElem? (i := 9) rfl))) (g := (mkF m 28 #[.val (.int p0), .val (.long p1), .second, .val (.int p2), .val (.int p3), .val (.int p4), .val (.int p5), .val (.int (4 : Int32)), .val (.int (1 : Int32)), .unset, .unset, .unset, .unset, .unset, .unset, .unset, .unset, .unset, .unset, .unset, .unset, .unset, .unset] [(.long p1)])) rfl (hb hby at_28) _ (XS.lrem X0.here hx rfl (hb hby at_31) rfl (by decide) (kk))))) ?_
      show Dn p e below s _ _ _ (s₁.setTop (mkF m 32 #[.val (.int p0), .val (.long p1), .second, .val (.int p2), .val (.int p3), .val (.int p4), .val (.int p5), .val (.int (4 : Int32)), .val (.int (1 : Int32)), .unset, .unset, .unset, .unset, .unset, .unset, .unset, .unset, .unset, .unset, .unset, .unset, .unset, .unset] [(.long (p1 - (p1 / (9007199254740992 : Int64)) * (9007199254740992 : Int64)))]))
      generalize hv31 : ((p1 - (p1 / (9007199254740992 : Int64)) * (9007199254740992 : Int64)) : Int64) = v31
      have q31 : (0 ≤ p1.toInt → v31.toInt = p1.toInt % 9007199254740992) ∧ (p1.toInt < 0 → v31.toInt = -((-p1.toInt) % 9007199254740992)) := by have qq := c_lrem p1 (9007199254740992 : Int64) 9007199254740992 rfl; rw [hv31] at qq; exact qq
      have r31 := rng64 v31
      show Dn p e below s _ _ _ (s₁.setTop (mkF m 32 #[.val (.int p0), .val (.long p1), .second, .val (.int p2), .val (.int p3), .val (.int p4), .val (.int p5), .val (.int (4 : Int32)), .val (.int (1 : Int32)), .unset, .unset, .unset, .unset, .unset, .unset, .unset, .unset, .unset, .unset, .unset, .unset, .unset, .unset] [(.long v31)]))
      refine Dn.st (fun _ kk => XS.lstore X0.here hx rfl (hb hby at_32) rfl (l' := #[.val (.int p0), .val (.long p1), .second, .val (.int p2), .val (.int p3), .val (.int p4), .val (.int p5), .val (.int (4 : Int32)), .val (.int (1 : Int32)), .val (.long v31), .second, .unset, .unset, .unset, .unset, .unset, .unset, .unset, .unset, .unset, .unset, .unset, .unset]) rfl (XS.lload X0.here hx rfl (hb hby at_34) rfl  (kk))) ?_
      show Dn p e below s _ _ _ (s₁.setTop (mkF m 36 #[.val (.int p0), .val (.long p1), .second, .val (.int p2), .val (.int p3), .val (.int p4), .val (.int p5), .val (.int (4 : Int32)), .val (.int (1 : Int32)), .val (.long v31), .second, .unset, .unset, .unset, .unset, .unset, .unset, .unset, .unset, .unset, .unset, .unset, .unset] [(.long v31)]))
      have d36 := DS.l2d (v := v31) (by omega)
      refine Dn.st (fun _ kk => XS.l2dS X0.here hx rfl (hb hby at_36) rfl rfl (kk)) ?_
      show Dn p e below s _ _ _ (s₁.setTop (mkF m 37 #[.val (.int p0), .val (.long p1), .second, .val (.int p2), .val (.int p3), .val (.int p4), .val (.int p5), .val (.int (4 : Int32)), .val (.int (1 : Int32)), .val (.long v31), .second, .unset, .unset, .unset, .unset, .unset, .unset, .unset, .unset, .unset, .unset, .unset, .unset] [(.double (FP.l2d v31))]))
      generalize hv36 : ((FP.l2d v31) : UInt64) = v36 at d36 ⊢
      show Dn p e below s _ _ _ (s₁.setTop (mkF m 37 #[.val (.int p0), .val (.long p1), .second, .val (.int p2), .val (.int p3), .val (.int p4), .val (.int p5), .val (.int (4 : Int32)), .val (.int (1 : Int32)), .val (.long v31), .second, .unset, .unset, .unset, .unset, .unset, .unset, .unset, .unset, .unset, .unset, .unset, .unset] [(.double v36)]))
      refine Dn.st (fun _ kk => XS.dstore X0.here hx rfl (hb hby at_37) rfl (l' := #[.val (.int p0), .val (.long p1), .second, .val (.int p2), .val (.int p3), .val (.int p4), .val (.int p5), .val (.int (4 : Int32)), .val (.int (1 : Int32)), .val (.long v31), .second, .val (.double v36), .second, .unset, .unset, .unset, .unset, .unset, .unset, .unset, .unset, .unset, .unset]) rfl (XS.iload X0.here hx rfl (hb hby at_39) rfl  (XS.dload X0.here hx rfl (hb hby at_41) rfl  (XS.dload X0.here hx rfl (hb hby at_43) rfl  (XS.dload X0.here hx rfl (hb hby at_45) rfl  (XS.dload X0.here hx rfl (hb hby at_47) rfl  (kk))))))) ?_
      show Dn p e below s _ _ _ (s₁.setTop (mkF m 49 #[.val (.int p0), .val (.long p1), .second, .val (.int p2), .val (.int p3), .val (.int p4), .val (.int p5), .val (.int (4 : Int32)), .val (.int (1 : Int32)), .val (.long v31), .second, .val (.double v36), .second, .unset, .unset, .unset, .unset, .unset, .unset, .unset, .unset, .unset, .unset] [(.double v36), (.double v36), (.double v36), (.double v36), (.int (4 : Int32))]))
      obtain ⟨_, _, ⟨T49, L49, k49, n49⟩, -, X49, ⟨Lc49, hQ49, l49, y49, z49⟩, st49⟩ := Jvm.LawKit.callS X0 hx (y := (⟨"com/example/listino/listino/stats/MomentsMeanPinLaw", "build", "(IDDDD)[D"⟩ : MethodName)) hown (mvT hZ (hw _ (List.mem_of_getElem? (i := 0) rfl))) (mvT hZ (hw _ (List.mem_of_getElem? (i := 1) rfl))) (mvT hZ (hw _ (List.mem_of_getElem? (i := 2) rfl))) (mvT hZ (hw _ (List.mem_of_getElem? (i := 3) rfl))) (by decide) (backOf (W := 0) (rm1_4 l Z a0 hw []  v36 v36 v36 v36 h0 n0 Z0 ) hZ (hw _ (List.mem_of_getElem? (i := 3) rfl)) (hw _ (List.mem_of_getElem? (i := 2) rfl)) (by decide) (by decide)) (g := (mkF m 49 #[.val (.int p0), .val (.long p1), .second, .val (.int p2), .val (.int p3), .val (.int p4), .val (.int p5), .val (.int (4 : Int32)), .val (.int (1 : Int32)), .val (.long v31), .second, .val (.double v36), .second, .unset, .unset, .unset, .unset, .unset, .unset, .unset, .unset, .unset, .unset] [(.double v36), (.double v36), (.double v36), (.double v36), (.int (4 : Int32))])) rfl (by rw [hml]; rfl) (argsL := [(.int (4 : Int32)), (.double v36), (.double v36), (.double v36), (.double v36)]) (rest := []) (lenOf pd0 rfl) rfl (by show 2 * 0 + _ ≤ _; exact Nat.le_of_eq rfl) (hb hby at_49) (fun _ _ => ⟨rfl, e0, (by decide : 0 + 1 ≤ _), (by decide : 0 + 4 ≤ _)⟩)
      dsimp only [Pt.U, Pt.locs, Pt.cells, Pt.slots] at X49 l49 y49 z49 st49 hQ49
      subst l49 y49 z49
      obtain ⟨bb49, kb49, rfl, gz49, Nq49, K49, V_bb49⟩ := hQ49
      have N49 := Fr.app N0 Nq49
      refine Dn.st st49 ?_
      have Z49 : n0 ≤ T49.heap.size := Nat.le_trans Z0 K49.1
      show Dn p e below s _ _ _ (T49.setTop (mkF m 52 #[.val (.int p0), .val (.long p1), .second, .val (.int p2), .val (.int p3), .val (.int p4), .val (.int p5), .val (.int (4 : Int32)), .val (.int (1 : Int32)), .val (.long v31), .second, .val (.double v36), .second, .unset, .unset, .unset, .unset, .unset, .unset, .unset, .unset, .unset, .unset] [(.ref bb49)]))
      rcases (show (-2251799813685248 ≤ v31.toInt ∧ v31.toInt ≤ 2251799813685248) ∨ (2251799813685248 < v31.toInt ∨ v31.toInt < -2251799813685248) by omega) with hsp | hsp
      · show Dn p e below s _ _ _ (T49.setTop (mkF m 52 #[.val (.int p0), .val (.long p1), .second, .val (.int p2), .val (.int p3), .val (.int p4), .val (.int p5), .val (.int (4 : Int32)), .val (.int (1 : Int32)), .val (.long v31), .second, .val (.double v36), .second, .unset, .unset, .unset, .unset, .unset, .unset, .unset, .unset, .unset, .unset] [(.ref bb49)]))
        obtain ⟨_, _, ⟨T52, L52, k52, n52⟩, -, X52, ⟨Lc52, hQ52, l52, y52, z52⟩, st52⟩ := Jvm.LawKit.callS X49 hx (y := (⟨"com/example/listino/listino/stats/Moments", "mean", "([D)D"⟩ : MethodName)) hown (mvT hZ (hw _ (List.mem_of_getElem? (i := 5) rfl))) (mvT hZ (hw _ (List.mem_of_getElem? (i := 6) rfl))) (mvT hZ (hw _ (List.mem_of_getElem? (i := 7) rfl))) (mvT hZ (hw _ (List.mem_of_getElem? (i := 8) rfl))) (by decide) (backOf (W := 0) (rm2S_4 l Z a0 hw [] bb49 kb49 v36 v31.toInt T49.heap n0 Z49 V_bb49 d36 ⟨by omega, by omega⟩) hZ (hw _ (List.mem_of_getElem? (i := 8) rfl)) (hw _ (List.mem_of_getElem? (i := 7) rfl)) (by decide) (by decide)) (g := (mkF m 52 #[.val (.int p0), .val (.long p1), .second, .val (.int p2), .val (.int p3), .val (.int p4), .val (.int p5), .val (.int (4 : Int32)), .val (.int (1 : Int32)), .val (.long v31), .second, .val (.double v36), .second, .unset, .unset, .unset, .unset, .unset, .unset, .unset, .unset, .unset, .unset] [(.ref bb49)])) rfl (by rw [hml]; rfl) (argsL := [(.ref bb49)]) (rest := []) (lenOf pd1 rfl) rfl (by show 2 * 0 + _ ≤ _; exact Nat.le_of_eq rfl) (hb hby at_52) (fun _ _ => ⟨rfl, rfl, (by decide : 1 + 0 ≤ _), (by decide : 4 + 0 ≤ _)⟩)
        dsimp only [Pt.U, Pt.locs, Pt.cells, Pt.slots] at X52 l52 y52 z52 st52 hQ52
        subst l52 y52 z52
        obtain ⟨z52, rfl, d52, Nq52, hh52⟩ := hQ52
        have N52 := Fr.app N49 Nq52
        refine Dn.st st52 ?_
        show Dn p e below s _ _ _ (T52.setTop (mkF m 55 #[.val (.int p0), .val (.long p1), .second, .val (.int p2), .val (.int p3), .val (.int p4), .val (.int p5), .val (.int (4 : Int32)), .val (.int (1 : Int32)), .val (.long v31), .second, .val (.double v36), .second, .unset, .unset, .unset, .unset, .unset, .unset, .unset, .unset, .unset, .unset] [(.double z52)]))
        refine Dn.st (fun _ kk => XS.dstore X52.here hx rfl (hb hby at_55) rfl (l' := #[.val (.int p0), .val (.long p1), .second, .val (.int p2), .val (.int p3), .val (.int p4), .val (.int p5), .val (.int (4 : Int32)), .val (.int (1 : Int32)), .val (.long v31), .second, .val (.double v36), .second, .val (.double z52), .second, .unset, .unset, .unset, .unset, .unset, .unset, .unset, .unset]) rfl (XS.dload X52.here hx rfl (hb hby at_57) rfl  (XS.dload X52.here hx rfl (hb hby at_59) rfl  (XS.dcmpS X52.here hx rfl (hb hby at_61) rfl (DS.cmpV d52 d36 _) (kk))))) ?_
        show Dn p e below s _ _ _ (T52.setTop (mkF m 62 #[.val (.int p0), .val (.long p1), .second, .val (.int p2), .val (.int p3), .val (.int p4), .val (.int p5), .val (.int (4 : Int32)), .val (.int (1 : Int32)), .val (.long v31), .second, .val (.double v36), .second, .val (.double z52), .second, .unset, .unset, .unset, .unset, .unset, .unset, .unset, .unset] [(.int (c3 v31.toInt v31.toInt))]))
        have hc62 : (c3 v31.toInt v31.toInt) = (0 : Int32) := (c3_eq _ _).mpr rfl
        refine Dn.st (fun _ kk => XS.ifNo X52.here hx rfl (hb hby at_62) rfl ((if0 _ _).trans (teq hc62).2) (XS.iconst X52.here hx rfl (hb hby at_65) (XS.goto X52.here hx rfl (pc0 := 66) (pc' := 70) rfl (hb hby at_66) (by decide) (by decide) (kk)))) ?_
        show Dn p e below s _ _ _ (T52.setTop (mkF m 70 #[.val (.int p0), .val (.long p1), .second, .val (.int p2), .val (.int p3), .val (.int p4), .val (.int p5), .val (.int (4 : Int32)), .val (.int (1 : Int32)), .val (.long v31), .second, .val (.double v36), .second, .val (.double z52), .second, .unset, .unset, .unset, .unset, .unset, .unset, .unset, .unset] [(.int (1 : Int32))]))
        exact Dn.ret X52 hlk hx hret rfl (Or.inl ⟨rfl, Or.inr (Or.inl rfl), _, rfl⟩) (hb hby at_70) (by rw [hh52]; exact ⟨rfl, N52⟩) (by decide) (by decide)
      · show Dn p e below s _ _ _ (T49.setTop (mkF m 52 #[.val (.int p0), .val (.long p1), .second, .val (.int p2), .val (.int p3), .val (.int p4), .val (.int p5), .val (.int (4 : Int32)), .val (.int (1 : Int32)), .val (.long v31), .second, .val (.double v36), .second, .unset, .unset, .unset, .unset, .unset, .unset, .unset, .unset, .unset, .unset] [(.ref bb49)]))
        obtain ⟨_, _, ⟨T52, L52, k52, n52⟩, -, X52, ⟨Lc52, hQ52, l52, y52, z52⟩, st52⟩ := Jvm.LawKit.callS X49 hx (y := (⟨"com/example/listino/listino/stats/Moments", "mean", "([D)D"⟩ : MethodName)) hown (mvT hZ (hw _ (List.mem_of_getElem? (i := 5) rfl))) (mvT hZ (hw _ (List.mem_of_getElem? (i := 6) rfl))) (mvT hZ (hw _ (List.mem_of_getElem? (i := 7) rfl))) (mvT hZ (hw _ (List.mem_of_getElem? (i := 8) rfl))) (by decide) (backOf (W := 0) (rm2L_4 l Z a0 hw [] bb49 kb49 v36 v31.toInt T49.heap n0 Z49 V_bb49 d36 (by omega) (by omega)) hZ (hw _ (List.mem_of_getElem? (i := 8) rfl)) (hw _ (List.mem_of_getElem? (i := 7) rfl)) (by decide) (by decide)) (g := (mkF m 52 #[.val (.int p0), .val (.long p1), .second, .val (.int p2), .val (.int p3), .val (.int p4), .val (.int p5), .val (.int (4 : Int32)), .val (.int (1 : Int32)), .val (.long v31), .second, .val (.double v36), .second, .unset, .unset, .unset, .unset, .unset, .unset, .unset, .unset, .unset, .unset] [(.ref bb49)])) rfl (by rw [hml]; rfl) (argsL := [(.ref bb49)]) (rest := []) (lenOf pd1 rfl) rfl (by show 2 * 0 + _ ≤ _; exact Nat.le_of_eq rfl) (hb hby at_52) (fun _ _ => ⟨rfl, rfl, (by decide : 1 + 0 ≤ _), (by decide : 4 + 0 ≤ _)⟩)
        dsimp only [Pt.U, Pt.locs, Pt.cells, Pt.slots] at X52 l52 y52 z52 st52 hQ52
        subst l52 y52 z52
        obtain ⟨z52, rfl, d52, Nq52, hh52⟩ := hQ52
        have N52 := Fr.app N49 Nq52
        refine Dn.st st52 ?_
        show Dn p e below s _ _ _ (T52.setTop (mkF m 55 #[.val (.int p0), .val (.long p1), .second, .val (.int p2), .val (.int p3), .val (.int p4), .val (.int p5), .val (.int (4 : Int32)), .val (.int (1 : Int32)), .val (.long v31), .second, .val (.double v36), .second, .unset, .unset, .unset, .unset, .unset, .unset, .unset, .unset, .unset, .unset] [(.double z52)]))
        refine Dn.st (fun _ kk => XS.dstore X52.here hx rfl (hb hby at_55) rfl (l' := #[.val (.int p0), .val (.long p1), .second, .val (.int p2), .val (.int p3), .val (.int p4), .val (.int p5), .val (.int (4 : Int32)), .val (.int (1 : Int32)), .val (.long v31), .second, .val (.double v36), .second, .val (.double z52), .second, .unset, .unset, .unset, .unset, .unset, .unset, .unset, .unset]) rfl (XS.dload X52.here hx rfl (hb hby at_57) rfl  (XS.dload X52.here hx rfl (hb hby at_59) rfl  (XS.dcmpS X52.here hx rfl (hb hby at_61) rfl (DS.cmpV d52 d36 _) (kk))))) ?_
        show Dn p e below s _ _ _ (T52.setTop (mkF m 62 #[.val (.int p0), .val (.long p1), .second, .val (.int p2), .val (.int p3), .val (.int p4), .val (.int p5), .val (.int (4 : Int32)), .val (.int (1 : Int32)), .val (.long v31), .second, .val (.double v36), .second, .val (.double z52), .second, .unset, .unset, .unset, .unset, .unset, .unset, .unset, .unset] [(.int (c3 v31.toInt v31.toInt))]))
        have hc62 : (c3 v31.toInt v31.toInt) = (0 : Int32) := (c3_eq _ _).mpr rfl
        refine Dn.st (fun _ kk => XS.ifNo X52.here hx rfl (hb hby at_62) rfl ((if0 _ _).trans (teq hc62).2) (XS.iconst X52.here hx rfl (hb hby at_65) (XS.goto X52.here hx rfl (pc0 := 66) (pc' := 70) rfl (hb hby at_66) (by decide) (by decide) (kk)))) ?_
        show Dn p e below s _ _ _ (T52.setTop (mkF m 70 #[.val (.int p0), .val (.long p1), .second, .val (.int p2), .val (.int p3), .val (.int p4), .val (.int p5), .val (.int (4 : Int32)), .val (.int (1 : Int32)), .val (.long v31), .second, .val (.double v36), .second, .val (.double z52), .second, .unset, .unset, .unset, .unset, .unset, .unset, .unset, .unset] [(.int (1 : Int32))]))
        exact Dn.ret X52 hlk hx hret rfl (Or.inl ⟨rfl, Or.inr (Or.inl rfl), _, rfl⟩) (hb hby at_70) (by rw [hh52]; exact ⟨rfl, N52⟩) (by decide) (by decide)

set_option maxRecDepth 65536 in
set_option maxHeartbeats 40000000 in
theorem comes_1 {Post : Tables → Env → Array Value → State → Outcome → State → Prop} (hpost : ∀ tb e args s v u, (limb_1_1.after args s (.returned v) u = true ∧ limb_1_2.after args s (.returned v) u = true ∧ True) → FrameEnd s (.returned v) u (Jvm.fieldLocs frame_1_writes args s ++ Jvm.arrayLocs frame_1_arrays args s ++ Jvm.staticLocs frame_1_statics s) 16 128 → Post tb e args s (.returned v) u) :
    ArmFor flags0 classFile x code maxLocals ret World_1 tables_1 room_1 Calls_1 rest_1 Pre_1 Post := by
  intro l hfl _ _ p e ha hc hk s m args below hf hA hF happ hP
  obtain ⟨hcalls, hrest, hpre⟩ := hP
  obtain ⟨-, -, -, hnamed, -, -, -, hat⟩ := (Spec.applies_iff hf).mp happ
  obtain ⟨hg, hn⟩ := and_e (Cond.before_iff.mp (show (Jvm.Cond.and given_1 narrow_1).before args s = true from hpre))
  obtain ⟨g1a, g1b⟩ := and_e hg
  obtain ⟨g2a, g2b⟩ := and_e g1b
  obtain ⟨g3a, g3b⟩ := and_e g2b
  obtain ⟨g4a, g4b⟩ := and_e g3b
  obtain ⟨g5a, g5b⟩ := and_e g4b
  obtain ⟨g6a, g6b⟩ := and_e g5b
  obtain ⟨w0, w1, w2, w3, w4, w5, rfl⟩ : ∃ w0 w1 w2 w3 w4 w5 : Value, args = #[w0, w1, w2, w3, w4, w5] := by
    have hs : args.size = 6 := by simpa [Cond.value, given_1] using g1a
    obtain ⟨L⟩ := args
    match L, hs with
    | [w0, w1, w2, w3, w4, w5], _ => exact ⟨w0, w1, w2, w3, w4, w5, rfl⟩
  have hw := fun d (hd : d ∈ tables_1) => atoms_spec (ws := Jvm.Cond.code x code maxLocals ret :: tables_1) hat d (List.mem_cons_of_mem _ hd)
  have hfit : Fit s := fun {y c} hc i hi => by
    obtain ⟨ha, rfl⟩ := Array.getElem?_eq_some_iff.mp hc
    have q := List.all_eq_true.mp ((Array.all_eq_true_iff_forall_mem.mp hF) _ (Array.getElem_mem ha)) i (List.mem_range.mpr hi)
    simpa [Array.getElem?_eq_getElem hi] using q
  obtain ⟨i0, ei0⟩ := is_v g2a
  obtain rfl : w0 = (.int i0) := Option.some.inj ei0
  obtain ⟨i1, ei1⟩ := isL_v g3a
  obtain rfl : w1 = (.long i1) := Option.some.inj ei1
  obtain ⟨i2, ei2⟩ := is_v g4a
  obtain rfl : w2 = (.int i2) := Option.some.inj ei2
  obtain ⟨i3, ei3⟩ := is_v g5a
  obtain rfl : w3 = (.int i3) := Option.some.inj ei3
  obtain ⟨i4, ei4⟩ := is_v g6a
  obtain rfl : w4 = (.int i4) := Option.some.inj ei4
  obtain ⟨i5, ei5⟩ := is_v g6b
  obtain rfl : w5 = (.int i5) := Option.some.inj ei5
  obtain ⟨n, o, h1, h2, h3, _, L, rfl, ⟨rfl, N⟩, hq⟩ := rm0 l s _ hw tables_1 i0 i1 i2 i3 i4 i5  s.heap s.heap.size (Nat.le_refl _)  p e ha hc hk s m _ below hf ((Spec.applies_iff_loose hf).mp happ).1 ⟨rfl, State.Warmed39.refl s, rfl⟩ trivial
  refine ⟨n, _, h1, h2, h3, hpost _ _ _ _ _ _ ⟨Cond.after_iff.mpr rfl, Cond.after_iff.mpr (eq_i res_at (Term.int_eval (1)) rfl), trivial⟩ ⟨hq.1, hq.2.1, (hq.2.2.sift fun y hy => Or.inr (N y hy)).mono (by decide) (by decide)⟩⟩
theorem main_1_1 : Claimed_1_1 := comes_1 fun _ _ _ _ _ _ h hF => ⟨h.1, hF⟩
theorem main_1_2 : Claimed_1_2 := comes_1 fun _ _ _ _ _ _ h hF => ⟨h.2.1, hF⟩
end Jvm.Pilot.@@N@@
namespace Jvm.Pilot.@@N@@
open Jvm Jvm.ClassFile Sem Op Lib Jvm.Free Jvm.Stand Jvm.Pilot.@@N@@.Jvm.D
/-! MADE BY PROGRAM (witnessworld.py) out of the Statement's table words and the real class files: 11 classes; the members and pool entries that the words name. The judged class is class 1, her method 2. -/
namespace start1
open Jvm.ClassFile
def u (s : String) : CpInfo := .utf8 (stringToUtf16 s)
/-- a pool by its gaps: so many unusable entries, then the entry; so many at the end -/
def gap : Nat → List CpInfo → List CpInfo
  | 0, r => r
  | n + 1, r => .unusable :: gap n r
def poolList (es : List (Nat × CpInfo)) (last : Nat) : List CpInfo := es.foldr (fun e r => gap e.1 (e.2 :: r)) (gap last [])
def pool (es : List (Nat × CpInfo)) (last : Nat) : Array CpInfo := ⟨poolList es last⟩
def fileOf (pool : Array CpInfo) (this : Nat) (attrs : Array Attribute := #[]) (ms : Array MethodInfo := #[]) (fl : Nat := 33) (sup : Nat := 0) (ifs : Array Nat := #[]) (fds : Array FieldInfo := #[]) : ClassFile where
  minorVersion := 0
  majorVersion := 65
  constantPool := pool
  accessFlags := fl
  thisClass := this
  superClass := sup
  interfaces := ifs
  fields := fds
  methods := ms
  attributes := attrs
def plain (name : String) (sup : Option ClassId) : Class where
  name := name
  kind := .ordinary
  loader := none
  accessFlags := 33
  super := sup
  interfaces := #[]
  cf := none
  fields := #[]
  methods := #[]
  instanceTypes := #[]
  staticTypes := #[]
  resolved := #[]
  callSites := []
  init := .initialized
  statics := none
  mirror := none

def pool0 : Array CpInfo := pool [(5, u "<init>"), (0, u "()V"), (1, .class_ 10), (1, u "java/lang/Object")] 113

def k0m0 : Method := { name := "<init>", desc := "()V", sig := { parameters := [], returnType := none }, accessFlags := 1, code := none }
/-- java/lang/Object -/
def k0 : Class := { plain "java/lang/Object" none with
  accessFlags := 33
  interfaces := #[]
  cf := some (fileOf pool0 8 #[] #[{ accessFlags := 1, nameIndex := 5, descriptorIndex := 6, attributes := #[] }] 33 0 #[] #[])
  fields := #[]
  methods := #[k0m0]
  instanceTypes := #[]
  staticTypes := #[]
  resolved := Array.replicate 124 none
  statics := none }

def pool1 : Array CpInfo := pool [(2, .class_ 4), (1, u "java/lang/Object"), (0, u "<init>"), (0, u "()V"), (0, .long 9007199254740992), (1, .methodref 10 11), (0, .class_ 12), (0, .nameAndType 13 14), (0, u "com/example/listino/listino/stats/MomentsMeanPinLaw"), (0, u "build"), (0, u "(IDDDD)[D"), (0, .methodref 16 17), (0, .class_ 18), (0, .nameAndType 19 20), (0, u "com/example/listino/listino/stats/Moments"), (0, u "mean"), (0, u "([D)D"), (0, .long 3), (4, u "law"), (0, u "(IJIIII)Z")] 2

def k1m0 : Method := { name := "<init>", desc := "()V", sig := { parameters := [], returnType := none }, accessFlags := 1, code := none }
def k1c1 : Code := { maxStack := 5, maxLocals := 9, code := method_2_code, exceptionTable := #[], attributes := #[] }
def k1m1 : Method := { name := "build", desc := "(IDDDD)[D", sig := { parameters := [.int, .double, .double, .double, .double], returnType := some (.array .double) }, accessFlags := 10, code := some k1c1 }
def k1c2 : Code := { maxStack := 9, maxLocals := 23, code := code, exceptionTable := #[], attributes := #[] }
def k1m2 : Method := { name := "law", desc := "(IJIIII)Z", sig := { parameters := [.int, .long, .int, .int, .int, .int], returnType := some .boolean }, accessFlags := 9, code := some k1c2 }
/-- com/example/listino/listino/stats/MomentsMeanPinLaw -/
def k1 : Class := { plain "com/example/listino/listino/stats/MomentsMeanPinLaw" (some 0) with
  accessFlags := 49
  interfaces := #[]
  cf := some (fileOf pool1 10 #[] #[{ accessFlags := 1, nameIndex := 5, descriptorIndex := 6, attributes := #[] }, { accessFlags := 10, nameIndex := 13, descriptorIndex := 14, attributes := #[] }, { accessFlags := 9, nameIndex := 26, descriptorIndex := 27, attributes := #[] }] 49 2 #[] #[])
  fields := #[]
  methods := #[k1m0, k1m1, k1m2]
  instanceTypes := #[]
  staticTypes := #[]
  resolved := Array.replicate 30 none
  statics := none }

def pool2 : Array CpInfo := pool [(2, .class_ 4), (1, u "java/lang/Object"), (0, u "<init>"), (0, u "()V"), (1, .class_ 10), (1, u "com/example/listino/listino/stats/Moments"), (4, u "mean"), (0, u "([D)D")] 6

def k2m0 : Method := { name := "<init>", desc := "()V", sig := { parameters := [], returnType := none }, accessFlags := 2, code := none }
def k2c1 : Code := { maxStack := 6, maxLocals := 12, code := prog_51_method_2_code, exceptionTable := #[], attributes := #[] }
def k2m1 : Method := { name := "mean", desc := "([D)D", sig := { parameters := [(.array .double)], returnType := some .double }, accessFlags := 8, code := some k2c1 }
/-- com/example/listino/listino/stats/Moments -/
def k2 : Class := { plain "com/example/listino/listino/stats/Moments" (some 0) with
  accessFlags := 48
  interfaces := #[]
  cf := some (fileOf pool2 8 #[] #[{ accessFlags := 2, nameIndex := 5, descriptorIndex := 6, attributes := #[] }, { accessFlags := 8, nameIndex := 15, descriptorIndex := 16, attributes := #[] }] 48 2 #[] #[])
  fields := #[]
  methods := #[k2m0, k2m1]
  instanceTypes := #[]
  staticTypes := #[]
  resolved := Array.replicate 23 none
  statics := none }

def pool3 : Array CpInfo := pool [(1, u "java/lang/Cloneable"), (0, .class_ 1), (0, u "java/lang/Object"), (0, .class_ 3)] 3

/-- java/lang/Cloneable -/
def k3 : Class := { plain "java/lang/Cloneable" (some 0) with
  accessFlags := 1537
  interfaces := #[]
  cf := some (fileOf pool3 2 #[] #[] 1537 4 #[] #[])
  fields := #[]
  methods := #[]
  instanceTypes := #[]
  staticTypes := #[]
  resolved := Array.replicate 8 none
  statics := none }

def pool4 : Array CpInfo := pool [(1, u "java/io/Serializable"), (0, .class_ 1), (0, u "java/lang/Object"), (0, .class_ 3)] 3

/-- java/io/Serializable -/
def k4 : Class := { plain "java/io/Serializable" (some 0) with
  accessFlags := 1537
  interfaces := #[]
  cf := some (fileOf pool4 2 #[] #[] 1537 4 #[] #[])
  fields := #[]
  methods := #[]
  instanceTypes := #[]
  staticTypes := #[]
  resolved := Array.replicate 8 none
  statics := none }

/-- the primitive byte -/
def k5 : Class := { plain "byte" none with kind := .primitive 'B', accessFlags := 0x411 }
/-- [B -/
def k6 : Class := { plain "[B" (some 0) with kind := .array 5 .byte, interfaces := #[3, 4], accessFlags := 1041 }

/-- the primitive double -/
def k7 : Class := { plain "double" none with kind := .primitive 'D', accessFlags := 0x411 }
/-- [D -/
def k8 : Class := { plain "[D" (some 0) with kind := .array 7 .double, interfaces := #[3, 4], accessFlags := 1041 }

/-- the primitive int -/
def k9 : Class := { plain "int" none with kind := .primitive 'I', accessFlags := 0x411 }
/-- [I -/
def k10 : Class := { plain "[I" (some 0) with kind := .array 9 .int, interfaces := #[3, 4], accessFlags := 1041 }

def heap : Heap := #[]
def classes : Array Class := #[k0, k1, k2, k3, k4, k5, k6, k7, k8, k9, k10]
def interned : List (Array UInt16 × Addr) := []
def slotsUsed : Nat := 0
def theMethod : MethodId := ⟨1, 2⟩
def args0 : Array Value := #[.int 5, .long 6, .int 7, .int 8, .int 9, .int 10]
def aboutOver (below : List Frame) : State where
  vm := { classes := classes, interned := interned.toArray }
  heap := heap
  slotsUsed := slotsUsed
  threads := #[{ frames := .invoking theMethod args0 :: below }]
def below0 : List Frame := [.native { method := ⟨0, 0⟩, args := #[] }]
def about1 : State := aboutOver below0
def p0 : Program := .bare "" "" ""
def e0 : Env := launch0.env 0 0 0
theorem w_frames : about1.frames = Frame.invoking theMethod args0 :: below0 := rfl
set_option maxRecDepth 65536 in
theorem w_args : argsFit about1.vm theMethod args0 = true := by decide +kernel
set_option maxRecDepth 65536 in
theorem w_heap : heapFits about1 = true := by decide +kernel
set_option maxRecDepth 65536 in
theorem w_runnable : about1.curStatus? = some .runnable := by decide +kernel
set_option maxRecDepth 65536 in
theorem w_alone : about1.alone = true := by decide +kernel
set_option maxRecDepth 65536 in
theorem w_named : about1.methodNamed? x = some theMethod := by decide +kernel
set_option maxRecDepth 65536 in
theorem w_hears : about1.hears theMethod below0 = true := by decide +kernel
set_option maxRecDepth 65536 in
theorem w_ripe : about1.ripe theMethod args0 below0 = true := by decide +kernel
theorem w_running : about1.status = .running := rfl
set_option maxRecDepth 65536 in
theorem w_room : about1.hasRoom e0.platform room_1 = true :=
  launch0.hasRoom_least _ room_1 (by decide +kernel) (by decide +kernel) (by decide +kernel) (by decide +kernel) (by decide +kernel) (by decide +kernel)
theorem allAtoms_all (ts : List Jvm.Cond) (a : Array Jvm.Value) (st : Jvm.State) : (allAtoms ts).before a st = ts.all (fun c => c.before a st) := by
  induction ts with
  | nil => rfl
  | cons c t ih =>
    show (Jvm.Cond.and c (allAtoms t)).before a st = _
    rw [Jvm.Cond.before_and, ih, List.all_cons]
def words1 : List Jvm.Cond := Jvm.Cond.code x code maxLocals ret :: tables_1
/-- a 'code' word, met by the world's own term for the bytes: nothing is compared byte by byte -/
theorem code_word {y : MethodName} {bytes : ByteArray} {mx : Nat} {rt : Option FieldType} {a : Array Value} {s : State} {m : MethodId} {meth : Method} {c : Code} (h1 : s.methodNamed? y = some m) (h2 : s.vm.method? m = some meth) (h3 : meth.code = some c) (h4 : c.code = bytes)
    (h5 : (c.maxLocals == mx && c.exceptionTable.isEmpty && decide (c.maxStack ≤ mostOperands) && decide (meth.sig.returnType = rt) && !meth.locks && decide (parseMethodDescriptor y.desc = some meth.sig)) = true) : (Jvm.Cond.code y bytes mx rt).before a s = true := by
  simp only [Bool.and_eq_true, beq_iff_eq, Bool.not_eq_true', decide_eq_true_eq] at h5
  obtain ⟨⟨⟨⟨⟨g1, g2⟩, g3⟩, g4⟩, g5⟩, g6⟩ := h5
  simp [Cond.before, Cond.holds, Cond.value, h1, h2, h3, h4, g1, g2, g3, g4, g5, g6]
def isCode : Jvm.Cond → Bool
  | .code _ _ _ _ => true
  | _ => false
theorem all_split {L : List Jvm.Cond} {P : Jvm.Cond → Bool} (h1 : L.all (fun c => isCode c || P c) = true) (h2 : ∀ c ∈ L.filter isCode, P c = true) : L.all P = true := by
  refine List.all_eq_true.mpr fun c hc => ?_
  have h := List.all_eq_true.mp h1 c hc
  rcases Bool.eq_false_or_eq_true (isCode c) with hi | hi
  · exact h2 c (List.mem_filter.mpr ⟨hc, hi⟩)
  · simpa [hi] using h
set_option maxRecDepth 65536 in
theorem w_c0 : (Jvm.Cond.code x code maxLocals ret).before args0 about1 = true := code_word (m := ⟨1, 2⟩) (meth := k1m2) (c := k1c2) (by decide +kernel) rfl rfl rfl (by decide +kernel)
set_option maxRecDepth 65536 in
theorem w_c1 : (Jvm.Cond.code ({ cls := "com/example/listino/listino/stats/MomentsMeanPinLaw", name := "build", desc := "(IDDDD)[D" } : Jvm.MethodName) method_2_code (9 : Nat) (Option.some (Jvm.ClassFile.FieldType.array Jvm.ClassFile.FieldType.double))).before args0 about1 = true := code_word (m := ⟨1, 1⟩) (meth := k1m1) (c := k1c1) (by decide +kernel) rfl rfl rfl (by decide +kernel)
set_option maxRecDepth 65536 in
theorem w_c2 : (Jvm.Cond.code ({ cls := "com/example/listino/listino/stats/Moments", name := "mean", desc := "([D)D" } : Jvm.MethodName) prog_51_method_2_code (12 : Nat) (Option.some Jvm.ClassFile.FieldType.double)).before args0 about1 = true := code_word (m := ⟨2, 1⟩) (meth := k2m1) (c := k2c1) (by decide +kernel) rfl rfl rfl (by decide +kernel)
def codes1 : List Jvm.Cond := [Jvm.Cond.code x code maxLocals ret, Jvm.Cond.code ({ cls := "com/example/listino/listino/stats/MomentsMeanPinLaw", name := "build", desc := "(IDDDD)[D" } : Jvm.MethodName) method_2_code (9 : Nat) (Option.some (Jvm.ClassFile.FieldType.array Jvm.ClassFile.FieldType.double)), Jvm.Cond.code ({ cls := "com/example/listino/listino/stats/Moments", name := "mean", desc := "([D)D" } : Jvm.MethodName) prog_51_method_2_code (12 : Nat) (Option.some Jvm.ClassFile.FieldType.double)]
set_option maxRecDepth 65536 in
theorem codes_eq : words1.filter isCode = codes1 := rfl
theorem w_codes : ∀ c ∈ words1.filter isCode, c.before args0 about1 = true := by
  rw [codes_eq]
  intro c hc
  simp only [codes1, List.mem_cons, List.not_mem_nil, or_false] at hc
  rcases hc with rfl | rfl | rfl
  · exact w_c0
  · exact w_c1
  · exact w_c2
set_option maxRecDepth 65536 in
theorem w_t1 : words1.all (fun c => isCode c || c.before args0 about1) = true := by decide +kernel
theorem w_tables : (allAtoms (Jvm.Cond.code x code maxLocals ret :: tables_1)).before args0 about1 = true := by
  rw [allAtoms_all]
  show words1.all (fun c => c.before args0 about1) = true
  refine all_split ?_ w_codes
  rw [w_t1]
set_option maxRecDepth 65536 in
theorem w_case : (Jvm.Cond.and given_1 narrow_1).before args0 about1 = true := by decide +kernel
theorem w_applies : (headSpec (Jvm.Cond.code x code maxLocals ret :: tables_1) room_1).applies x e0.platform about1 = true :=
  (Spec.applies_iff w_frames).mpr ⟨w_running, w_runnable, w_alone, w_named, w_hears, w_ripe, w_room, w_tables⟩
theorem atStart : AtStart classFile x code maxLocals ret World_1 tables_1 room_1 Calls_1 rest_1 Pre_1 launch0 p0 e0 about1 theMethod args0 below0 :=
  ⟨lists_1, trivial, launch0.admits_env _ _ _, launch0.least_env, fairChoices_fair.cas, fairChoices_fair.clock, w_frames, w_args, w_heap, w_applies, trivial, trivial, w_case⟩
end start1
theorem witness_1 : WitnessClaimed_1 := ⟨start1.p0, start1.e0, start1.about1, start1.theMethod, start1.args0, start1.below0, start1.atStart⟩
end Jvm.Pilot.@@N@@
