import JvmDerived
import JvmDerived.Pilot.@@N@@Statement
import JvmDerived.Pilot.@@N@@Code
set_option linter.unusedVariables false
set_option linter.unusedSimpArgs false
namespace Jvm.Pilot.@@N@@
open Jvm Jvm.ClassFile Sem Op Lib Jvm.Free Jvm.Stand Jvm.LawKit Jvm.RoadKit Bundle Jvm.Pilot.@@N@@.Jvm.D
section Own
variable {p : Program} {l : Launch} {e : Env} {R : Room} {s : State} {m : MethodId} {args : Array Value} {below : List Frame} {meth : Method} {c : Code} {T : State} {locs : List Loc} {cells slots : Nat}
/-- the run from A ends, returns what Q says, and has made and written no more than told -/
def Dn (p : Program) (e : Env) (below : List Frame) (s : State) (Q : Option Value → Heap → List Loc → Prop) (rc rs : Nat) (A : State) : Prop :=
  ∃ s₂ o, Steps p.tables e below A s₂ ∧ s₂.status = .running ∧ Ended s₂ below o ∧ ∃ v L, o = .returned v ∧ Q v s₂.heap L ∧ FrameEnd s o s₂ L rc rs
theorem Dn.st {Q : Option Value → Heap → List Loc → Prop} {rc rs : Nat} {A B : State} (h : ∀ t, Steps p.tables e below B t → Steps p.tables e below A t) (k : Dn p e below s Q rc rs B) : Dn p e below s Q rc rs A := by
  obtain ⟨s2, o, h1, h2⟩ := k; exact ⟨s2, o, h _ h1, h2⟩
theorem Dn.tr {Q : Option Value → Heap → List Loc → Prop} {rc rs : Nat} {A B : State} (h : Steps p.tables e below A B) (k : Dn p e below s Q rc rs B) : Dn p e below s Q rc rs A := by
  obtain ⟨s2, o, h1, h2⟩ := k; exact ⟨s2, o, h.trans h1, h2⟩
theorem Dn.ret (X : Stand p l e R s m args below meth c T locs cells slots) (hlk : meth.locks = false) (hx : p.tables.exec = Jvm.exec) {pc : Nat} {Ls : Array Slot} {w : Value} {t : FieldType} {i : Instr} {rest : List Value} (hret : meth.sig.returnType = some t) (hn : narrow t w = w)
    (hi : (i = .ireturn ∧ (t = .int ∨ t = .boolean ∨ t = .byte ∨ t = .char ∨ t = .short) ∧ ∃ z, w = .int z) ∨ (i = .lreturn ∧ t = .long ∧ ∃ z, w = .long z) ∨ (i = .dreturn ∧ t = .double ∧ ∃ z, w = .double z) ∨ (i = .freturn ∧ t = .float ∧ ∃ z, w = .float z) ∨ (i = .areturn ∧ t.isReference = true ∧ w.isRef = true))
    (hd : decode c.code pc = .ok (i, 1)) {Q : Option Value → Heap → List Loc → Prop} {rc rs : Nat} (hq : Q (some w) T.heap locs) (hc : cells ≤ rc) (hs : slots ≤ rs) : Dn p e below s Q rc rs (T.setTop (mkF m pc Ls (w :: rest))) := by
  obtain ⟨fs, hr, hrun, hended, hW, hsame⟩ := X.leave (v := some w) (fun h => by rw [hret] at h; cases h) hlk
  exact ⟨_, _, retOut X hx hret hn hi hd hr, hrun, hended, _, _, rfl, hq, ⟨_, rfl⟩, hW, hsame.mono hc hs⟩
theorem Dn.ret0 (X : Stand p l e R s m args below meth c T locs cells slots) (hlk : meth.locks = false) (hx : p.tables.exec = Jvm.exec) {pc : Nat} {Ls : Array Slot} (hret : meth.sig.returnType = none)
    (hd : decode c.code pc = .ok (.return_, 1)) {Q : Option Value → Heap → List Loc → Prop} {rc rs : Nat} (hq : Q none T.heap locs) (hc : cells ≤ rc) (hs : slots ≤ rs) : Dn p e below s Q rc rs (T.setTop (mkF m pc Ls [])) := by
  obtain ⟨fs, hr, hrun, hended, hW, hsame⟩ := X.leave (v := none) (fun _ => rfl) hlk
  exact ⟨_, _, X.returnOut hx hret hd hr, hrun, hended, _, _, rfl, hq, ⟨_, rfl⟩, hW, hsame.mono hc hs⟩
theorem own_iincW {tb : Tables} [Ours tb] {target : State} {g : JFrame} (h : At T m c below) (hx : tb.exec = Jvm.exec) (hg : g.method = m) {k : Nat} {cst : Int} {x : Int32} {l' : Array Slot} (hd : decode c.code g.pc = .ok (.iinc k cst, 6)) (hl : g.locals[k]? = some (.val (.int x))) (hl' : storeLocals g.locals k (.int (x + Int32.ofInt cst)) = some l')
    (hr : Steps tb e below (T.setTop { g with pc := g.pc + 6, locals := l' }) target) : Steps tb e below (T.setTop g) target := by
  subst hg
  jvm_step h [h.top, hx, hd, hl, hl']
  exact hr
theorem own_dremS {tb : Tables} [Ours tb] {target : State} {g : JFrame} (h : At T m c below) (hx : tb.exec = Jvm.exec) (hg : g.method = m) {x y v : UInt64} {rest : List Value} (hd : decode c.code g.pc = .ok (.drem, 1)) (hs : g.stack = .double y :: .double x :: rest) (hn : Jvm.Free.Fl.NoNaN64 (FP.drem x y)) (hv : FP.drem x y = v)
    (hr : Steps tb e below (T.setTop { g with pc := g.pc + 1, stack := .double v :: rest }) target) : Steps tb e below (T.setTop g) target := by
  subst hg; subst hv
  obtain ⟨gm, gp, gl, gs, gk, ge, gr⟩ := g
  simp only at hs hd
  subst hs
  jvm_step h [h.top, hx, hd, Op.drem.at_number h.top hn]
  exact hr
end Own
section Dyad
open Jvm.FP Jvm.FP.Core Jvm.Free.Fl
/-- the datum with its exponent moved by k -/
def sft (k : Nat) : Datum → Datum
  | .nan => .nan
  | .inf s => .inf s
  | .fin s c q => .fin s c (q + (k : Int))
/-- x is the number i / 2^k -/
def DS (k : Nat) (i : Int) (x : UInt64) : Prop := Whole i (sft k (val64 x))
theorem sft_zero (d : Datum) : sft 0 d = d := by
  cases d with
  | nan => rfl
  | inf s => rfl
  | fin s c q => show Datum.fin s c (q + ((0 : Nat) : Int)) = _; rw [Int.natCast_zero, Int.add_zero]
theorem sft_sum (k : Nat) (x y : Datum) : exactSum (sft k x) (sft k y) = sft k (exactSum x y) := by
  cases x with
  | nan => rfl
  | inf s =>
    cases y with
    | nan => rfl
    | inf t => show (if s = t then Datum.inf s else .nan) = sft k (if s = t then Datum.inf s else .nan); split <;> rfl
    | fin t d r => rfl
  | fin s c q =>
    cases y with
    | nan => rfl
    | inf t => rfl
    | fin t d r =>
      have h : min (q + (k : Int)) (r + k) = min q r + k := by omega
      have h1 : q + (k : Int) - (min q r + k) = q - min q r := by omega
      have h2 : r + (k : Int) - (min q r + k) = r - min q r := by omega
      have hu : sumUnits s c (q + k) t d (r + k) (min (q + k) (r + k)) = sumUnits s c q t d r (min q r) := by
        show signed s (c * 2 ^ (q + (k : Int) - min (q + k) (r + k)).toNat) + signed t (d * 2 ^ (r + (k : Int) - min (q + k) (r + k)).toNat) = signed s (c * 2 ^ (q - min q r).toNat) + signed t (d * 2 ^ (r - min q r).toNat)
        rw [h, h1, h2]
      show Datum.fin (sumSign s t (sumUnits s c (q + k) t d (r + k) (min (q + k) (r + k)))) (sumUnits s c (q + k) t d (r + k) (min (q + k) (r + k))).natAbs (min (q + k) (r + k)) = Datum.fin (sumSign s t (sumUnits s c q t d r (min q r))) (sumUnits s c q t d r (min q r)).natAbs (min q r + k)
      rw [hu, h]
theorem sft_negate (k : Nat) (x : Datum) : negate (sft k x) = sft k (negate x) := by cases x <;> rfl
theorem sft_product (k m : Nat) (x y : Datum) : exactProduct (sft k x) (sft m y) = sft (k + m) (exactProduct x y) := by
  cases x with
  | nan => rfl
  | inf s =>
    cases y with
    | nan => rfl
    | inf t => rfl
    | fin t d r => show (if d = 0 then Datum.nan else .inf (s != t)) = sft (k + m) (if d = 0 then Datum.nan else .inf (s != t)); split <;> rfl
  | fin s c q =>
    cases y with
    | nan => rfl
    | inf t => show (if c = 0 then Datum.nan else .inf (s != t)) = sft (k + m) (if c = 0 then Datum.nan else .inf (s != t)); split <;> rfl
    | fin t d r =>
      show Datum.fin (s != t) (c * d) (q + k + (r + m)) = Datum.fin (s != t) (c * d) (q + r + ((k + m : Nat) : Int))
      congr 1; omega
theorem sft_order (k : Nat) (x y : Datum) : order (sft k x) (sft k y) = order x y := by
  cases x with
  | nan => rfl
  | inf s => cases y <;> rfl
  | fin s c q =>
    cases y with
    | nan => rfl
    | inf t => rfl
    | fin t d r =>
      have h : min (q + (k : Int)) (r + k) = min q r + k := by omega
      have h1 : q + (k : Int) - (min q r + k) = q - min q r := by omega
      have h2 : r + (k : Int) - (min q r + k) = r - min q r := by omega
      show some (compare (signed s (c * 2 ^ (q + (k : Int) - min (q + k) (r + k)).toNat)) (signed t (d * 2 ^ (r + (k : Int) - min (q + k) (r + k)).toNat))) = some (compare (signed s (c * 2 ^ (q - min q r).toNat)) (signed t (d * 2 ^ (r - min q r).toNat)))
      rw [h, h1, h2]
theorem b64_qmin : b64.qmin = -1074 := by decide +kernel
theorem b64_qmax : b64.qmax = 971 := by decide +kernel
theorem b64_tails : b64.tails = 4503599627370496 := by decide +kernel
theorem fits64 (s : Bool) (c : Nat) (q : Int) : Core.fits b64 (.fin s c q) ↔ c < 2 ^ 53 ∧ -1074 ≤ q ∧ q ≤ 971 ∧ (q = -1074 ∨ 4503599627370496 ≤ c) := by
  show (c < 2 ^ 53 ∧ b64.qmin ≤ q ∧ q ≤ b64.qmax ∧ (q = b64.qmin ∨ b64.tails ≤ c)) ↔ _
  rw [b64_qmin, b64_qmax, b64_tails]
/-- n / 2^k is a double, for n up to 2^53 and k up to 1022 -/
theorem natFitS (s : Bool) {n k : Nat} (hk : k ≤ 1022) (hn : n ≤ 2 ^ 53) :
    ∃ c q, Core.fits b64 (.fin s c q) ∧ n * 2 ^ (-(k : Int) - q).toNat = c * 1 * 2 ^ (q - -(k : Int)).toNat := by
  by_cases h0 : n = 0
  · subst h0
    exact ⟨0, b64.qmin, zero_fits good_b64 s, by simp⟩
  · obtain ⟨c, q, hf, hv⟩ := natFit good_b64 wide_b64 s (show n ≤ 2 ^ b64.p from hn)
    rw [fits64] at hf
    have hq : -52 ≤ q := by
      refine Int.not_lt.mp fun hlt => ?_
      have e1 : (q - 0).toNat = 0 := by omega
      have e2 : (0 - q).toNat = 53 + ((0 - q).toNat - 53) := by omega
      rw [e1, e2, Nat.pow_add] at hv
      have p := Nat.two_pow_pos ((0 - q).toNat - 53)
      have : 2 ^ 53 * 1 ≤ 2 ^ 53 * 2 ^ ((0 - q).toNat - 53) := Nat.mul_le_mul_left _ p
      have : 1 * (2 ^ 53 * 2 ^ ((0 - q).toNat - 53)) ≤ n * (2 ^ 53 * 2 ^ ((0 - q).toNat - 53)) := Nat.mul_le_mul_right _ (by omega)
      omega
    refine ⟨c, q - k, (fits64 _ _ _).mpr ⟨hf.1, by omega, by omega, Or.inr (hf.2.2.2.resolve_left (by omega))⟩, ?_⟩
    rw [show -(k : Int) - (q - k) = 0 - q by omega, show q - k - -(k : Int) = q - 0 by omega]
    exact hv
theorem whole_signed {i : Int} {s : Bool} {c : Nat} {q : Int} (h : Whole i (.fin s c q)) : signed s i.natAbs = i := by
  by_cases hi : i = 0
  · rw [hi]; exact signed_zero s
  · rw [whole_sign h hi]; unfold signed
    by_cases h : i < 0 <;> simp [h] <;> omega
theorem ds_round {k : Nat} {i : Int} {d : Datum} (hk : k ≤ 1022) (hi : i.natAbs ≤ 2 ^ 53) (h : Whole i (sft k d)) : Whole i (sft k (Core.round b64 d)) := by
  cases d with
  | nan => exact h.elim
  | inf s => exact h.elim
  | fin s c q =>
    have hs := whole_signed h
    have h1 := whole_natAbs h
    obtain ⟨c', q', hfit, hv⟩ := natFitS s hk hi
    have e1 : Core.round b64 (.fin s c q) = roundRatio b64 s i.natAbs 1 (-(k : Int)) := by
      refine roundRatio_congr (by decide) (by decide) ?_
      rw [show q - -(k : Int) = q + k by omega, show -(k : Int) - q = -(q + k) by omega]
      simpa using h1
    rw [e1, roundRatio_exact good_b64 (by decide) hfit hv]
    show signed s (c' * 2 ^ (q' + (k : Int)).toNat) = i * _
    rw [show -(k : Int) - q' = -(q' + k) by omega, show q' - -(k : Int) = q' + k by omega, Nat.mul_one] at hv
    rw [← hv, signed_mul, hs]
theorem DS.nn {k : Nat} {i : Int} {x : UInt64} (h : DS k i x) : NoNaN64 x := val64_no.mpr fun q => by
  unfold DS at h; rw [q] at h; exact h.elim
theorem DS.fin {k : Nat} {i : Int} {x : UInt64} (h : DS k i x) : ∃ s c q, val64 x = .fin s c q ∧ Whole i (.fin s c (q + (k : Int))) := by
  unfold DS at h
  cases e : val64 x with
  | nan => rw [e] at h; exact h.elim
  | inf s => rw [e] at h; exact h.elim
  | fin s c q => rw [e] at h; exact ⟨s, c, q, rfl, h⟩
theorem DS.lit {k : Nat} {i : Int} {x : UInt64} {s : Bool} {c : Nat} {q : Int} (hv : val64 x = .fin s c q) (he : signed s (c * 2 ^ (q + (k : Int)).toNat) = i * ((2 ^ (-(q + (k : Int))).toNat : Nat) : Int)) : DS k i x := by
  unfold DS; rw [hv]; exact he
theorem DS.i2d (v : Int32) : DS 0 v.toInt (FP.i2d v) := by unfold DS; rw [sft_zero]; exact i2d_int v
theorem DS.l2d {v : Int64} (h : v.toInt.natAbs ≤ 2 ^ 53) : DS 0 v.toInt (FP.l2d v) := by unfold DS; rw [sft_zero]; exact l2d_int h
theorem DS.dint {i : Int} {x : UInt64} (h : DS 0 i x) : DInt i x := by unfold DS at h; rw [sft_zero] at h; exact h
theorem DS.zero (k : Nat) : DS k 0 0 := DS.lit (s := false) (c := 0) (q := -1074) (by decide +kernel) (by rw [Nat.zero_mul, Int.zero_mul]; rfl)
theorem DS.add {k : Nat} {i j : Int} {x y : UInt64} (hx : DS k i x) (hy : DS k j y) (hb : (i + j).natAbs ≤ 2 ^ 53) (hk : k ≤ 1022) : DS k (i + j) (FP.dadd x y) := by
  show Whole _ (sft k (val64 (Core.dadd x y)))
  rw [val64_dadd]; refine ds_round hk hb ?_; rw [← sft_sum]; exact whole_sum hx hy
theorem DS.sub {k : Nat} {i j : Int} {x y : UInt64} (hx : DS k i x) (hy : DS k j y) (hb : (i - j).natAbs ≤ 2 ^ 53) (hk : k ≤ 1022) : DS k (i - j) (FP.dsub x y) := by
  show Whole _ (sft k (val64 (Core.dsub x y)))
  rw [val64_dsub]; refine ds_round hk hb ?_; rw [← sft_sum, ← sft_negate, Int.sub_eq_add_neg]; exact whole_sum hx (whole_negate hy)
theorem DS.mul {k m : Nat} {i j : Int} {x y : UInt64} (hx : DS k i x) (hy : DS m j y) (hb : (i * j).natAbs ≤ 2 ^ 53) (hk : k + m ≤ 1022) : DS (k + m) (i * j) (FP.dmul x y) := by
  show Whole _ (sft (k + m) (val64 (Core.dmul x y)))
  rw [val64_dmul]; refine ds_round hk hb ?_; rw [← sft_product]; exact whole_product hx hy
theorem DS.addc {k : Nat} {i j Q : Int} {x y : UInt64} (hx : DS k i x) (hy : DS k j y) (e : i + j = Q) (hb : Q.natAbs ≤ 2 ^ 53) (hk : k ≤ 1022) : DS k Q (FP.dadd x y) := by subst e; exact DS.add hx hy hb hk
theorem DS.subc {k : Nat} {i j Q : Int} {x y : UInt64} (hx : DS k i x) (hy : DS k j y) (e : i - j = Q) (hb : Q.natAbs ≤ 2 ^ 53) (hk : k ≤ 1022) : DS k Q (FP.dsub x y) := by subst e; exact DS.sub hx hy hb hk
theorem DS.cmp {k : Nat} {i j : Int} {x y : UInt64} (hx : DS k i x) (hy : DS k j y) : FP.dcmp x y = some (compare i j) := by
  show order (val64 x) (val64 y) = _
  rw [← sft_order k]; exact order_whole hx hy
/-- what dcmp pushes -/
def c3 (i j : Int) : Int32 := if i < j then -1 else if i = j then 0 else 1
theorem c3_lt (i j : Int) : c3 i j < 0 ↔ i < j := by unfold c3; split <;> (try split) <;> simp_all <;> first | decide | omega
theorem c3_gt (i j : Int) : 0 < c3 i j ↔ j < i := by unfold c3; split <;> (try split) <;> simp_all <;> first | decide | omega
theorem c3_eq (i j : Int) : c3 i j = 0 ↔ i = j := by unfold c3; split <;> (try split) <;> simp_all <;> first | decide | omega
theorem cmpV_int (i j : Int) (o : CmpOp) : cmpValue (some (compare i j)) o = c3 i j := by
  unfold c3
  by_cases h1 : i < j
  · have : compare i j = .lt := by simp [compare, compareOfLessAndEq, h1]
    rw [this, if_pos h1]; cases o <;> rfl
  · by_cases h2 : i = j
    · have : compare i j = .eq := by simp [compare, compareOfLessAndEq, h2]
      rw [this, if_neg h1, if_pos h2]; cases o <;> rfl
    · have : compare i j = .gt := by simp [compare, compareOfLessAndEq, h1, h2]
      rw [this, if_neg h1, if_neg h2]; cases o <;> rfl
theorem DS.cmpV {k : Nat} {i j : Int} {x y : UInt64} (hx : DS k i x) (hy : DS k j y) (o : CmpOp) : cmpValue (FP.dcmp x y) o = c3 i j := by rw [hx.cmp hy]; exact cmpV_int i j o
theorem whole_iff {i : Int} {s : Bool} {c : Nat} {q : Int} {N : Nat} (h : 0 ≤ q + N) : Whole i (.fin s c q) ↔ signed s c * ((2 ^ (q + N).toNat : Nat) : Int) = i * ((2 ^ N : Nat) : Int) := by
  show signed s (c * 2 ^ q.toNat) = i * ((2 ^ (-q).toNat : Nat) : Int) ↔ _
  rw [signed_mul]
  have e : q.toNat + N = (q + N).toNat + (-q).toNat := by omega
  have p1 : ((2 ^ N : Nat) : Int) ≠ 0 := by have := Nat.two_pow_pos N; omega
  have p2 : ((2 ^ (-q).toNat : Nat) : Int) ≠ 0 := by have := Nat.two_pow_pos (-q).toNat; omega
  have e1 : signed s c * ((2 ^ q.toNat : Nat) : Int) * ((2 ^ N : Nat) : Int) = signed s c * ((2 ^ (q + N).toNat : Nat) : Int) * ((2 ^ (-q).toNat : Nat) : Int) := by
    rw [Int.mul_assoc, Int.mul_assoc, ← Int.natCast_mul, ← Int.natCast_mul, ← Nat.pow_add, ← Nat.pow_add, e]
  constructor
  · intro hh
    refine Int.eq_of_mul_eq_mul_right p2 ?_
    rw [← e1, hh]; ac_rfl
  · intro hh
    refine Int.eq_of_mul_eq_mul_right p1 ?_
    rw [e1, hh]; ac_rfl
theorem DS.up {k : Nat} {i : Int} {x : UInt64} (h : DS k i x) (m : Nat) : DS (k + m) (i * ((2 ^ m : Nat) : Int)) x := by
  obtain ⟨s, c, q, e, hw⟩ := h.fin
  unfold DS; rw [e]
  show Whole _ (.fin s c (q + ((k + m : Nat) : Int)))
  rw [whole_iff (N := (-q).toNat) (by omega)]
  rw [whole_iff (N := (-q).toNat + m) (by omega)] at hw
  rw [show q + (k : Int) + (((-q).toNat + m : Nat) : Int) = q + ((k + m : Nat) : Int) + ((-q).toNat : Nat) by omega] at hw
  rw [hw, Nat.pow_add, Int.natCast_mul]; ac_rfl
theorem DS.cast {k k' : Nat} {i i' : Int} {x : UInt64} (h : DS k i x) (e1 : k = k') (e2 : i = i') : DS k' i' x := e1 ▸ e2 ▸ h
/-- the quotient, as the rounding of a ratio of whole numbers -/
theorem ds_quot {k m : Nat} {i j : Int} {x y : UInt64} (hx : DS k i x) (hy : DS m j y) (hj : j ≠ 0) :
    ∃ s t, signed s i.natAbs = i ∧ signed t j.natAbs = j ∧ val64 (FP.ddiv x y) = roundRatio b64 (s != t) i.natAbs j.natAbs ((m : Int) - k) := by
  obtain ⟨s, c, q, e, hw⟩ := hx.fin
  obtain ⟨t, d, r, e', hw'⟩ := hy.fin
  have hd : d ≠ 0 := fun z => hj ((whole_zero hw').mp z)
  have h1 := whole_natAbs hw
  have h2 := whole_natAbs hw'
  refine ⟨s, t, whole_signed hw, whole_signed hw', ?_⟩
  show val64 (Core.ddiv x y) = _
  rw [val64_ddiv, e, e']
  show (if d = 0 then _ else roundRatio b64 (s != t) c d (q - r)) = _
  rw [if_neg hd]
  have hj' : 0 < j.natAbs := by omega
  rw [roundRatio_congr (A' := i.natAbs) (B' := d) (e' := -(k : Int) - r) (by omega) (by omega) (by
    rw [show q - r - (-(k : Int) - r) = q + k by omega, show -(k : Int) - r - (q - r) = -(q + k) by omega, Nat.mul_right_comm, h1]; ac_rfl)]
  refine roundRatio_congr (by omega) hj' ?_
  rw [show -(k : Int) - r - ((m : Int) - k) = -(r + m) by omega, show (m : Int) - k - (-(k : Int) - r) = r + m by omega, Nat.mul_assoc, ← h2]; ac_rfl
theorem DS.div {k m n : Nat} {i j Q : Int} {x y : UInt64} (hx : DS k i x) (hy : DS m j y) (hj : j ≠ 0) (hQ : i * ((2 ^ (m + n) : Nat) : Int) = Q * j * ((2 ^ k : Nat) : Int)) (hb : Q.natAbs ≤ 2 ^ 53) (hn : n ≤ 1022) : DS n Q (FP.ddiv x y) := by
  obtain ⟨s, t, hs, ht, hv⟩ := ds_quot hx hy hj
  obtain ⟨c', q', hfit, hf⟩ := natFitS (s != t) hn hb
  have hj' : 0 < j.natAbs := by omega
  have hQn : i.natAbs * 2 ^ (m + n) = Q.natAbs * j.natAbs * 2 ^ k := by
    have := congrArg Int.natAbs hQ
    rwa [Int.natAbs_mul, Int.natAbs_mul, Int.natAbs_mul, Int.natAbs_natCast, Int.natAbs_natCast] at this
  have e1 : roundRatio b64 (s != t) i.natAbs j.natAbs ((m : Int) - k) = roundRatio b64 (s != t) Q.natAbs 1 (-(n : Int)) := by
    refine roundRatio_congr hj' (by decide) ?_
    rw [Nat.mul_one]
    have ea : m + n = ((m : Int) - k - -(n : Int)).toNat + min (m + n) k := by omega
    have eb : k = (-(n : Int) - ((m : Int) - k)).toNat + min (m + n) k := by omega
    generalize ((m : Int) - k - -(n : Int)).toNat = u at ea ⊢
    generalize (-(n : Int) - ((m : Int) - k)).toNat = w at eb ⊢
    have hQ2 : i.natAbs * 2 ^ (u + min (m + n) k) = Q.natAbs * j.natAbs * 2 ^ (w + min (m + n) k) := by rw [← ea, ← eb]; exact hQn
    rw [Nat.pow_add, Nat.pow_add, ← Nat.mul_assoc, ← Nat.mul_assoc] at hQ2
    exact Nat.eq_of_mul_eq_mul_right (Nat.two_pow_pos _) hQ2
  rw [e1, roundRatio_exact good_b64 (by decide) hfit hf] at hv
  unfold DS; rw [hv]
  show signed (s != t) (c' * 2 ^ (q' + (n : Int)).toNat) = Q * _
  rw [show -(n : Int) - q' = -(q' + n) by omega, show q' - -(n : Int) = q' + n by omega, Nat.mul_one] at hf
  rw [← hf, signed_mul]
  congr 1
  have hp : (0 : Int) < ((2 ^ (m + n) : Nat) : Int) := by have := Nat.two_pow_pos (m + n); omega
  have hp2 : (0 : Int) < ((2 ^ k : Nat) : Int) := by have := Nat.two_pow_pos k; omega
  generalize ((2 ^ (m + n) : Nat) : Int) = P1 at hQ hp
  generalize ((2 ^ k : Nat) : Int) = P2 at hQ hp2
  -- the sign of the quotient
  have key : signed (s != t) (Q.natAbs * (j.natAbs * j.natAbs)) = Q * (j.natAbs * j.natAbs : Nat) := by
    have e2 : signed (s != t) (i.natAbs * j.natAbs) = i * j := by rw [signed_xor, hs, ht]
    have e3 : i.natAbs * P1.natAbs = Q.natAbs * j.natAbs * P2.natAbs := by
      have := congrArg Int.natAbs hQ
      rwa [Int.natAbs_mul, Int.natAbs_mul, Int.natAbs_mul] at this
    have e4 : signed (s != t) (Q.natAbs * (j.natAbs * j.natAbs)) * P2 = Q * (j.natAbs * j.natAbs : Nat) * P2 := by
      have p2 : P2 = (P2.natAbs : Int) := by omega
      have p1 : P1 = (P1.natAbs : Int) := by omega
      calc signed (s != t) (Q.natAbs * (j.natAbs * j.natAbs)) * P2
          = signed (s != t) (Q.natAbs * (j.natAbs * j.natAbs) * P2.natAbs) := by rw [signed_mul _ (Q.natAbs * (j.natAbs * j.natAbs)), ← p2]
        _ = signed (s != t) (i.natAbs * j.natAbs * P1.natAbs) := by
            congr 1
            calc Q.natAbs * (j.natAbs * j.natAbs) * P2.natAbs = (Q.natAbs * j.natAbs * P2.natAbs) * j.natAbs := by ac_rfl
              _ = i.natAbs * j.natAbs * P1.natAbs := by rw [← e3]; ac_rfl
        _ = i * j * P1 := by rw [signed_mul, e2, ← p1]
        _ = (i * P1) * j := by ac_rfl
        _ = Q * (j * j) * P2 := by rw [hQ]; ac_rfl
        _ = Q * (j.natAbs * j.natAbs : Nat) * P2 := by rw [Int.natCast_mul, Int.natAbs_mul_self' j]
    exact Int.eq_of_mul_eq_mul_right (by omega) e4
  rw [signed_mul] at key
  exact Int.eq_of_mul_eq_mul_right (by have : 0 < j.natAbs * j.natAbs := Nat.mul_pos hj' hj'; omega) key
/-- by a power of two -/
theorem DS.divp {k t : Nat} {i : Int} {x y : UInt64} (hx : DS k i x) (hy : DS 0 ((2 ^ t : Nat) : Int) y) (hb : i.natAbs ≤ 2 ^ 53) (hn : k + t ≤ 1022) : DS (k + t) i (FP.ddiv x y) :=
  DS.div hx hy (by have := Nat.two_pow_pos t; omega) (by rw [Nat.zero_add, Nat.pow_add, Int.natCast_mul]; ac_rfl) hb hn
theorem sft_rem (k : Nat) (x y : Datum) : exactRemainder (sft k x) (sft k y) = sft k (exactRemainder x y) := by
  cases x with
  | nan => rfl
  | inf s => rfl
  | fin s c q =>
    cases y with
    | nan => rfl
    | inf t => rfl
    | fin t d r =>
      have h : min (q + (k : Int)) (r + k) = min q r + k := by omega
      have h1 : q + (k : Int) - (min q r + k) = q - min q r := by omega
      have h2 : r + (k : Int) - (min q r + k) = r - min q r := by omega
      show (if d = 0 then Datum.nan else .fin s (c * 2 ^ (q + (k : Int) - min (q + k) (r + k)).toNat % (d * 2 ^ (r + (k : Int) - min (q + k) (r + k)).toNat)) (min (q + k) (r + k))) = sft k (if d = 0 then Datum.nan else .fin s (c * 2 ^ (q - min q r).toNat % (d * 2 ^ (r - min q r).toNat)) (min q r))
      rw [h, h1, h2]; split <;> rfl
theorem signed_tmod {s : Bool} {i : Int} (hs : signed s i.natAbs = i) (j : Int) : signed s (i.natAbs % j.natAbs) = i.tmod j := by
  cases i with
  | ofNat a =>
    have e : Int.tmod (Int.ofNat a) j = ((a % j.natAbs : Nat) : Int) := by cases j <;> rfl
    rw [e]; show signed s (a % j.natAbs) = _
    have hs' : signed s a = (a : Int) := hs
    cases s with
    | false => rfl
    | true =>
      have h0 : a = 0 := by
        have : -(a : Int) = (a : Int) := hs'
        omega
      subst h0; rw [Nat.zero_mod]; rfl
  | negSucc a =>
    have e : Int.tmod (Int.negSucc a) j = -(((a + 1) % j.natAbs : Nat) : Int) := by cases j <;> rfl
    rw [e]; show signed s ((a + 1) % j.natAbs) = _
    cases s with
    | true => rfl
    | false =>
      have : ((a + 1 : Nat) : Int) = Int.negSucc a := hs
      omega
theorem whole_rem {i j : Int} {x y : Datum} (hx : Whole i x) (hy : Whole j y) (hj : j ≠ 0) : Whole (i.tmod j) (exactRemainder x y) := by
  cases x with
  | nan => exact hx.elim
  | inf => exact hx.elim
  | fin s c q =>
  cases y with
  | nan => exact hy.elim
  | inf => exact hy.elim
  | fin t d r =>
    have hd : d ≠ 0 := fun z => hj ((whole_zero hy).mp z)
    have h1 := congrArg Int.natAbs (whole_units hx (e := min q r) (by omega))
    have h2 := congrArg Int.natAbs (whole_units hy (e := min q r) (by omega))
    rw [Int.natAbs_mul, Int.natAbs_mul, Int.natAbs_natCast, Int.natAbs_natCast, natAbs_signed] at h1 h2
    show Whole _ (if d = 0 then _ else Datum.fin s (inUnits c q (min q r) % inUnits d r (min q r)) (min q r))
    rw [if_neg hd]
    show signed s (inUnits c q (min q r) % inUnits d r (min q r) * 2 ^ (min q r).toNat) = i.tmod j * ((2 ^ (-(min q r)).toNat : Nat) : Int)
    rw [← Nat.mul_mod_mul_right, h1, h2, Nat.mul_mod_mul_right, signed_mul, signed_tmod (whole_signed hx)]
theorem DS.rem {k : Nat} {i j : Int} {x y : UInt64} (hx : DS k i x) (hy : DS k j y) (hj : j ≠ 0) (hb : (i.tmod j).natAbs ≤ 2 ^ 53) (hk : k ≤ 1022) : DS k (i.tmod j) (FP.drem x y) := by
  show Whole _ (sft k (val64 (Core.drem x y)))
  rw [val64_drem]; refine ds_round hk hb ?_; rw [← sft_rem]; exact whole_rem hx hy hj
end Dyad
theorem own_mul {a b A B : Int} (h1 : -A ≤ a) (h2 : a ≤ A) (h3 : -B ≤ b) (h4 : b ≤ B) : -(A * B) ≤ a * b ∧ a * b ≤ A * B := by
  have e : (a * b).natAbs ≤ A.natAbs * B.natAbs := by rw [Int.natAbs_mul]; exact Nat.mul_le_mul (by omega) (by omega)
  have hA : 0 ≤ A := by omega
  have hB : 0 ≤ B := by omega
  have e2 : ((A.natAbs * B.natAbs : Nat) : Int) = A * B := by rw [Int.natCast_mul, Int.natAbs_of_nonneg hA, Int.natAbs_of_nonneg hB]
  omega
/-- d to the power k, as the loop makes it -/
def own_pw (d : Int) : Nat → Int
  | 0 => d
  | k + 1 => own_pw d k * d
theorem own_pb {d : Int} (h1 : -198 ≤ d) (h2 : d ≤ 198) : ∀ k, -(198 ^ (k + 1) : Nat) ≤ own_pw d k ∧ own_pw d k ≤ (198 ^ (k + 1) : Nat)
  | 0 => by simp [own_pw]; omega
  | k + 1 => by
    have ⟨q1, q2⟩ := own_pb h1 h2 k
    have m := own_mul q1 q2 h1 h2
    have e : ((198 ^ (k + 1 + 1) : Nat) : Int) = ((198 ^ (k + 1) : Nat) : Int) * 198 := by rw [Nat.pow_succ, Int.natCast_mul]; rfl
    show -_ ≤ own_pw d k * d ∧ own_pw d k * d ≤ _
    rw [e]; exact m
theorem own_p6 {d : Int} (h1 : -198 ≤ d) (h2 : d ≤ 198) {t : Nat} (ht : t ≤ 5) : -60254729561664 ≤ own_pw d t ∧ own_pw d t ≤ 60254729561664 := by
  have ⟨q1, q2⟩ := own_pb h1 h2 t
  have e : 198 ^ (t + 1) ≤ 60254729561664 := Nat.le_trans (Nat.pow_le_pow_right (by decide) (by omega : t + 1 ≤ 6)) (by decide)
  omega
theorem own_c4 {v : Int32} (h1 : 0 ≤ v.toInt) (h2 : v.toInt ≤ 3) : v = 0 ∨ v = 1 ∨ v = 2 ∨ v = 3 := by
  have e : ∀ k : Int32, v.toInt = k.toInt → v = k := fun k h => Int32.toInt_inj.mp h
  rcases (show v.toInt = 0 ∨ v.toInt = 1 ∨ v.toInt = 2 ∨ v.toInt = 3 by omega) with h | h | h | h
  · exact Or.inl (e 0 h)
  · exact Or.inr (Or.inl (e 1 h))
  · exact Or.inr (Or.inr (Or.inl (e 2 h)))
  · exact Or.inr (Or.inr (Or.inr (e 3 h)))

theorem d2_0 : decode method_2_code 0 = .ok (.lload_n 0, 1) := by decide +kernel
theorem d2_1 : decode method_2_code 1 = .ok (.lload_n 0, 1) := by decide +kernel
theorem d2_2 : decode method_2_code 2 = .ok (.lmul, 1) := by decide +kernel
theorem d2_3 : decode method_2_code 3 = .ok (.lstore_n 3, 1) := by decide +kernel
theorem d2_4 : decode method_2_code 4 = .ok (.lload_n 3, 1) := by decide +kernel
theorem d2_5 : decode method_2_code 5 = .ok (.lload_n 0, 1) := by decide +kernel
theorem d2_6 : decode method_2_code 6 = .ok (.lmul, 1) := by decide +kernel
theorem d2_7 : decode method_2_code 7 = .ok (.lstore 5, 2) := by decide +kernel
theorem d2_9 : decode method_2_code 9 = .ok (.lload_n 3, 1) := by decide +kernel
theorem d2_10 : decode method_2_code 10 = .ok (.lload_n 3, 1) := by decide +kernel
theorem d2_11 : decode method_2_code 11 = .ok (.lmul, 1) := by decide +kernel
theorem d2_12 : decode method_2_code 12 = .ok (.lstore 7, 2) := by decide +kernel
theorem d2_14 : decode method_2_code 14 = .ok (.lload 7, 2) := by decide +kernel
theorem d2_16 : decode method_2_code 16 = .ok (.lload_n 0, 1) := by decide +kernel
theorem d2_17 : decode method_2_code 17 = .ok (.lmul, 1) := by decide +kernel
theorem d2_18 : decode method_2_code 18 = .ok (.lstore 9, 2) := by decide +kernel
theorem d2_20 : decode method_2_code 20 = .ok (.lload 5, 2) := by decide +kernel
theorem d2_22 : decode method_2_code 22 = .ok (.lload 5, 2) := by decide +kernel
theorem d2_24 : decode method_2_code 24 = .ok (.lmul, 1) := by decide +kernel
theorem d2_25 : decode method_2_code 25 = .ok (.lstore 11, 2) := by decide +kernel
theorem d2_27 : decode method_2_code 27 = .ok (.iload_n 2, 1) := by decide +kernel
theorem d2_28 : decode method_2_code 28 = .ok (.iconst 1, 1) := by decide +kernel
theorem d2_29 : decode method_2_code 29 = .ok (.if_icmp .ne 5, 3) := by decide +kernel
theorem d2_32 : decode method_2_code 32 = .ok (.lload_n 0, 1) := by decide +kernel
theorem d2_33 : decode method_2_code 33 = .ok (.lreturn, 1) := by decide +kernel
theorem d2_34 : decode method_2_code 34 = .ok (.iload_n 2, 1) := by decide +kernel
theorem d2_35 : decode method_2_code 35 = .ok (.iconst 2, 1) := by decide +kernel
theorem d2_36 : decode method_2_code 36 = .ok (.if_icmp .ne 5, 3) := by decide +kernel
theorem d2_39 : decode method_2_code 39 = .ok (.lload_n 3, 1) := by decide +kernel
theorem d2_40 : decode method_2_code 40 = .ok (.lreturn, 1) := by decide +kernel
theorem d2_41 : decode method_2_code 41 = .ok (.iload_n 2, 1) := by decide +kernel
theorem d2_42 : decode method_2_code 42 = .ok (.iconst 3, 1) := by decide +kernel
theorem d2_43 : decode method_2_code 43 = .ok (.if_icmp .ne 6, 3) := by decide +kernel
theorem d2_46 : decode method_2_code 46 = .ok (.lload 5, 2) := by decide +kernel
theorem d2_48 : decode method_2_code 48 = .ok (.lreturn, 1) := by decide +kernel
theorem d2_49 : decode method_2_code 49 = .ok (.iload_n 2, 1) := by decide +kernel
theorem d2_50 : decode method_2_code 50 = .ok (.iconst 4, 1) := by decide +kernel
theorem d2_51 : decode method_2_code 51 = .ok (.if_icmp .ne 6, 3) := by decide +kernel
theorem d2_54 : decode method_2_code 54 = .ok (.lload 7, 2) := by decide +kernel
theorem d2_56 : decode method_2_code 56 = .ok (.lreturn, 1) := by decide +kernel
theorem d2_57 : decode method_2_code 57 = .ok (.iload_n 2, 1) := by decide +kernel
theorem d2_58 : decode method_2_code 58 = .ok (.iconst 5, 1) := by decide +kernel
theorem d2_59 : decode method_2_code 59 = .ok (.if_icmp .ne 6, 3) := by decide +kernel
theorem d2_62 : decode method_2_code 62 = .ok (.lload 9, 2) := by decide +kernel
theorem d2_64 : decode method_2_code 64 = .ok (.lreturn, 1) := by decide +kernel
theorem d2_65 : decode method_2_code 65 = .ok (.lload 11, 2) := by decide +kernel
theorem d2_67 : decode method_2_code 67 = .ok (.lreturn, 1) := by decide +kernel
theorem pn0 : plainName "com/example/listino/listino/stats/MomentsSumOfPowersPinLaw" = true := by first | (simp [plainName, overriddenIn]; done) | decide +kernel
theorem ef2_rm2 (m : MethodId) (x0 : Int64) (x1 : Int32) : entryFrame m #[(.long x0), (.int x1)] 13 = mkF m 0 #[.val (.long x0), .second, .val (.int x1), .unset, .unset, .unset, .unset, .unset, .unset, .unset, .unset, .unset, .unset] [] := by first | (simp [entryFrame, mkF, argsToLocals, Value.category]; done) | rfl
def Q2 (Z : State) (dd : Int64) (kx : Int32) (kn : Nat) (h0 : Heap) (n0 : Nat) (v : Option Value) (h : Heap) (L : List Loc) : Prop := ∃ z : Int64, v = some (.long z) ∧ z.toInt = own_pw dd.toInt kn ∧ Fr n0 L ∧ h = h0
set_option maxRecDepth 65536 in
set_option maxHeartbeats 40000000 in
theorem rm2 (l : Launch) (Z : State) (a0 : Array Value) (hw : ∀ d ∈ tables_1, d.before a0 Z = true) (ws : List Jvm.Cond) (dd : Int64) (kx : Int32) (kn : Nat) (h0 : Heap) (n0 : Nat) (Z0 : n0 ≤ h0.size) (hd1 : -198 ≤ dd.toInt) (hd2 : dd.toInt ≤ 198) (hk : kx.toInt = kn + 1) (hk5 : kn ≤ 5) :
    MetFree l (⟨"com/example/listino/listino/stats/MomentsSumOfPowersPinLaw", "pow", "(JI)J"⟩ : MethodName) (head1 (Jvm.Cond.code (⟨"com/example/listino/listino/stats/MomentsSumOfPowersPinLaw", "pow", "(JI)J"⟩ : MethodName) method_2_code 13 (some .long) :: ws) ({ frames := 0, cells := 0, slots := 0, locals := 0 } : Room)) (fun aa UU => aa = #[(.long dd), (.int kx)] ∧ Z.Warmed39 UU.vm ∧ UU.heap = h0) (fun _ _ _ _ _ => True) (fun _ UU oo UU' => ∃ vv LL, oo = .returned vv ∧ Q2 Z dd kx kn h0 n0 vv UU'.heap LL ∧ FrameEnd UU oo UU' LL ({ frames := 0, cells := 0, slots := 0, locals := 0 } : Room).cells ({ frames := 0, cells := 0, slots := 0, locals := 0 } : Room).slots) := by
  refine MetFree.of_bodySF (plainFor_of_name pn0) hisR ?_
  intro p e s m args below meth c s₁ Bd hml0 hP hK
  obtain ⟨rfl, hZ, hh⟩ := hP
  have hx := Bd.exec
  have hby := Bd.bytes
  have hlk : meth.locks = false := BodyLoose.notSynchronized Bd
  have hret := Bd.returns
  have hml : c.maxLocals = 13 := hml0
  have hown : s.vm.findClass "com/example/listino/listino/stats/MomentsSumOfPowersPinLaw" = some m.cls := findClass_of_methodNamed Bd.named
  have hnm := (name_of_methodNamed Bd.named Bd.method).1
  have X0 : Stand p l e ({ frames := 0, cells := 0, slots := 0, locals := 0 } : Room) s m #[(.long dd), (.int kx)] below meth c s₁ [] 0 0 := Stand.of_body Bd
  have e0 : s₁.heap = h0 := by rw [← hh, Bd.state]; rfl
  have N0 := Fr.nil n0
  have r_dd := rng64 dd
  have r_kx := rng32 kx
  show Dn p e below s (Q2 Z dd kx kn h0 n0) ({ frames := 0, cells := 0, slots := 0, locals := 0 } : Room).cells ({ frames := 0, cells := 0, slots := 0, locals := 0 } : Room).slots (s₁.setTop (entryFrame m #[(.long dd), (.int kx)] 13))
  refine Dn.st (fun _ kk => castTop (ef2_rm2 m dd kx) kk) ?_
  have pb0 := own_p6 hd1 hd2 (t := 0) (by decide)
  have pb1 := own_p6 hd1 hd2 (t := 1) (by decide)
  have pb2 := own_p6 hd1 hd2 (t := 2) (by decide)
  have pb3 := own_p6 hd1 hd2 (t := 3) (by decide)
  have pb4 := own_p6 hd1 hd2 (t := 4) (by decide)
  have pb5 := own_p6 hd1 hd2 (t := 5) (by decide)
  show Dn p e below s _ _ _ (s₁.setTop (mkF m 0 #[.val (.long dd), .second, .val (.int kx), .unset, .unset, .unset, .unset, .unset, .unset, .unset, .unset, .unset, .unset] []))
  refine Dn.st (fun _ kk => XS.lloadN X0.here hx rfl (hb hby d2_0) rfl  (XS.lloadN X0.here hx rfl (hb hby d2_1) rfl  (XS.lmul X0.here hx rfl (hb hby d2_2) rfl (kk)))) ?_
  show Dn p e below s _ _ _ (s₁.setTop (mkF m 3 #[.val (.long dd), .second, .val (.int kx), .unset, .unset, .unset, .unset, .unset, .unset, .unset, .unset, .unset, .unset] [(.long (dd * dd))]))
  generalize hv2 : ((dd * dd) : Int64) = v2
  have q2 : (v2.toInt - (dd.toInt * dd.toInt)) % 18446744073709551616 = 0 := by have qq := c_lmul dd dd; rw [hv2] at qq; exact qq
  have r2 := rng64 v2
  have w2 : v2.toInt = own_pw dd.toInt 1 := by
    have ee : dd.toInt * dd.toInt = own_pw dd.toInt 1 := by rfl
    rw [ee] at q2; omega
  show Dn p e below s _ _ _ (s₁.setTop (mkF m 3 #[.val (.long dd), .second, .val (.int kx), .unset, .unset, .unset, .unset, .unset, .unset, .unset, .unset, .unset, .unset] [(.long v2)]))
  refine Dn.st (fun _ kk => XS.lstoreN X0.here hx rfl (hb hby d2_3) rfl (l' := #[.val (.long dd), .second, .val (.int kx), .val (.long v2), .second, .unset, .unset, .unset, .unset, .unset, .unset, .unset, .unset]) rfl (XS.lloadN X0.here hx rfl (hb hby d2_4) rfl  (XS.lloadN X0.here hx rfl (hb hby d2_5) rfl  (XS.lmul X0.here hx rfl (hb hby d2_6) rfl (kk))))) ?_
  show Dn p e below s _ _ _ (s₁.setTop (mkF m 7 #[.val (.long dd), .second, .val (.int kx), .val (.long v2), .second, .unset, .unset, .unset, .unset, .unset, .unset, .unset, .unset] [(.long (v2 * dd))]))
  generalize hv6 : ((v2 * dd) : Int64) = v6
  have q6 : (v6.toInt - (v2.toInt * dd.toInt)) % 18446744073709551616 = 0 := by have qq := c_lmul v2 dd; rw [hv6] at qq; exact qq
  have r6 := rng64 v6
  have w6 : v6.toInt = own_pw dd.toInt 2 := by
    have ee : v2.toInt * dd.toInt = own_pw dd.toInt 2 := by rw [w2]; rfl
    rw [ee] at q6; omega
  show Dn p e below s _ _ _ (s₁.setTop (mkF m 7 #[.val (.long dd), .second, .val (.int kx), .val (.long v2), .second, .unset, .unset, .unset, .unset, .unset, .unset, .unset, .unset] [(.long v6)]))
  refine Dn.st (fun _ kk => XS.lstore X0.here hx rfl (hb hby d2_7) rfl (l' := #[.val (.long dd), .second, .val (.int kx), .val (.long v2), .second, .val (.long v6), .second, .unset, .unset, .unset, .unset, .unset, .unset]) rfl (XS.lloadN X0.here hx rfl (hb hby d2_9) rfl  (XS.lloadN X0.here hx rfl (hb hby d2_10) rfl  (XS.lmul X0.here hx rfl (hb hby d2_11) rfl (kk))))) ?_
  show Dn p e below s _ _ _ (s₁.setTop (mkF m 12 #[.val (.long dd), .second, .val (.int kx), .val (.long v2), .second, .val (.long v6), .second, .unset, .unset, .unset, .unset, .unset, .unset] [(.long (v2 * v2))]))
  generalize hv11 : ((v2 * v2) : Int64) = v11
  have q11 : (v11.toInt - (v2.toInt * v2.toInt)) % 18446744073709551616 = 0 := by have qq := c_lmul v2 v2; rw [hv11] at qq; exact qq
  have r11 := rng64 v11
  have w11 : v11.toInt = own_pw dd.toInt 3 := by
    have ee : v2.toInt * v2.toInt = own_pw dd.toInt 3 := by rw [w2]; show dd.toInt * dd.toInt * (dd.toInt * dd.toInt) = dd.toInt * dd.toInt * dd.toInt * dd.toInt; ac_rfl
    rw [ee] at q11; omega
  show Dn p e below s _ _ _ (s₁.setTop (mkF m 12 #[.val (.long dd), .second, .val (.int kx), .val (.long v2), .second, .val (.long v6), .second, .unset, .unset, .unset, .unset, .unset, .unset] [(.long v11)]))
  refine Dn.st (fun _ kk => XS.lstore X0.here hx rfl (hb hby d2_12) rfl (l' := #[.val (.long dd), .second, .val (.int kx), .val (.long v2), .second, .val (.long v6), .second, .val (.long v11), .second, .unset, .unset, .unset, .unset]) rfl (XS.lload X0.here hx rfl (hb hby d2_14) rfl  (XS.lloadN X0.here hx rfl (hb hby d2_16) rfl  (XS.lmul X0.here hx rfl (hb hby d2_17) rfl (kk))))) ?_
  show Dn p e below s _ _ _ (s₁.setTop (mkF m 18 #[.val (.long dd), .second, .val (.int kx), .val (.long v2), .second, .val (.long v6), .second, .val (.long v11), .second, .unset, .unset, .unset, .unset] [(.long (v11 * dd))]))
  generalize hv17 : ((v11 * dd) : Int64) = v17
  have q17 : (v17.toInt - (v11.toInt * dd.toInt)) % 18446744073709551616 = 0 := by have qq := c_lmul v11 dd; rw [hv17] at qq; exact qq
  have r17 := rng64 v17
  have w17 : v17.toInt = own_pw dd.toInt 4 := by
    have ee : v11.toInt * dd.toInt = own_pw dd.toInt 4 := by rw [w11]; rfl
    rw [ee] at q17; omega
  show Dn p e below s _ _ _ (s₁.setTop (mkF m 18 #[.val (.long dd), .second, .val (.int kx), .val (.long v2), .second, .val (.long v6), .second, .val (.long v11), .second, .unset, .unset, .unset, .unset] [(.long v17)]))
  refine Dn.st (fun _ kk => XS.lstore X0.here hx rfl (hb hby d2_18) rfl (l' := #[.val (.long dd), .second, .val (.int kx), .val (.long v2), .second, .val (.long v6), .second, .val (.long v11), .second, .val (.long v17), .second, .unset, .unset]) rfl (XS.lload X0.here hx rfl (hb hby d2_20) rfl  (XS.lload X0.here hx rfl (hb hby d2_22) rfl  (XS.lmul X0.here hx rfl (hb hby d2_24) rfl (kk))))) ?_
  show Dn p e below s _ _ _ (s₁.setTop (mkF m 25 #[.val (.long dd), .second, .val (.int kx), .val (.long v2), .second, .val (.long v6), .second, .val (.long v11), .second, .val (.long v17), .second, .unset, .unset] [(.long (v6 * v6))]))
  generalize hv24 : ((v6 * v6) : Int64) = v24
  have q24 : (v24.toInt - (v6.toInt * v6.toInt)) % 18446744073709551616 = 0 := by have qq := c_lmul v6 v6; rw [hv24] at qq; exact qq
  have r24 := rng64 v24
  have w24 : v24.toInt = own_pw dd.toInt 5 := by
    have ee : v6.toInt * v6.toInt = own_pw dd.toInt 5 := by rw [w6]; show dd.toInt * dd.toInt * dd.toInt * (dd.toInt * dd.toInt * dd.toInt) = dd.toInt * dd.toInt * dd.toInt * dd.toInt * dd.toInt * dd.toInt; ac_rfl
    rw [ee] at q24; omega
  show Dn p e below s _ _ _ (s₁.setTop (mkF m 25 #[.val (.long dd), .second, .val (.int kx), .val (.long v2), .second, .val (.long v6), .second, .val (.long v11), .second, .val (.long v17), .second, .unset, .unset] [(.long v24)]))
  refine Dn.st (fun _ kk => XS.lstore X0.here hx rfl (hb hby d2_25) rfl (l' := #[.val (.long dd), .second, .val (.int kx), .val (.long v2), .second, .val (.long v6), .second, .val (.long v11), .second, .val (.long v17), .second, .val (.long v24), .second]) rfl (XS.iloadN X0.here hx rfl (hb hby d2_27) rfl  (XS.iconst X0.here hx rfl (hb hby d2_28) (kk)))) ?_
  show Dn p e below s _ _ _ (s₁.setTop (mkF m 29 #[.val (.long dd), .second, .val (.int kx), .val (.long v2), .second, .val (.long v6), .second, .val (.long v11), .second, .val (.long v17), .second, .val (.long v24), .second] [(.int (1 : Int32)), (.int kx)]))
  by_cases hc29 : kx = (1 : Int32)
  · have hi29 : kx.toInt = 1 := congrArg Int32.toInt hc29
    refine Dn.st (fun _ kk => XS.icmpNo X0.here hx rfl (hb hby d2_29) rfl (teq hc29).2 (XS.lloadN X0.here hx rfl (hb hby d2_32) rfl  (kk))) ?_
    show Dn p e below s _ _ _ (s₁.setTop (mkF m 33 #[.val (.long dd), .second, .val (.int kx), .val (.long v2), .second, .val (.long v6), .second, .val (.long v11), .second, .val (.long v17), .second, .val (.long v24), .second] [(.long dd)]))
    exact Dn.ret X0 hlk hx hret rfl (Or.inr (Or.inl ⟨rfl, rfl, _, rfl⟩)) (hb hby d2_33) (by rw [e0]; exact ⟨_, rfl, (show dd.toInt = own_pw dd.toInt kn from (show kn = 0 by omega) ▸ rfl), N0, rfl⟩) (by decide) (by decide)
  · have hi29 : ¬ kx.toInt = 1 := fun qq => hc29 (Int32.toInt_inj.mp qq)
    refine Dn.st (fun _ kk => XS.icmpYes X0.here hx rfl (pc0 := 29) (pc' := 34) rfl (hb hby d2_29) rfl (feq hc29).2 (by decide) (by decide) (XS.iloadN X0.here hx rfl (hb hby d2_34) rfl  (XS.iconst X0.here hx rfl (hb hby d2_35) (kk)))) ?_
    show Dn p e below s _ _ _ (s₁.setTop (mkF m 36 #[.val (.long dd), .second, .val (.int kx), .val (.long v2), .second, .val (.long v6), .second, .val (.long v11), .second, .val (.long v17), .second, .val (.long v24), .second] [(.int (2 : Int32)), (.int kx)]))
    by_cases hc36 : kx = (2 : Int32)
    · have hi36 : kx.toInt = 2 := congrArg Int32.toInt hc36
      refine Dn.st (fun _ kk => XS.icmpNo X0.here hx rfl (hb hby d2_36) rfl (teq hc36).2 (XS.lloadN X0.here hx rfl (hb hby d2_39) rfl  (kk))) ?_
      show Dn p e below s _ _ _ (s₁.setTop (mkF m 40 #[.val (.long dd), .second, .val (.int kx), .val (.long v2), .second, .val (.long v6), .second, .val (.long v11), .second, .val (.long v17), .second, .val (.long v24), .second] [(.long v2)]))
      exact Dn.ret X0 hlk hx hret rfl (Or.inr (Or.inl ⟨rfl, rfl, _, rfl⟩)) (hb hby d2_40) (by rw [e0]; exact ⟨_, rfl, (show v2.toInt = own_pw dd.toInt kn from (show kn = 1 by omega) ▸ w2), N0, rfl⟩) (by decide) (by decide)
    · have hi36 : ¬ kx.toInt = 2 := fun qq => hc36 (Int32.toInt_inj.mp qq)
      refine Dn.st (fun _ kk => XS.icmpYes X0.here hx rfl (pc0 := 36) (pc' := 41) rfl (hb hby d2_36) rfl (feq hc36).2 (by decide) (by decide) (XS.iloadN X0.here hx rfl (hb hby d2_41) rfl  (XS.iconst X0.here hx rfl (hb hby d2_42) (kk)))) ?_
      show Dn p e below s _ _ _ (s₁.setTop (mkF m 43 #[.val (.long dd), .second, .val (.int kx), .val (.long v2), .second, .val (.long v6), .second, .val (.long v11), .second, .val (.long v17), .second, .val (.long v24), .second] [(.int (3 : Int32)), (.int kx)]))
      by_cases hc43 : kx = (3 : Int32)
      · have hi43 : kx.toInt = 3 := congrArg Int32.toInt hc43
        refine Dn.st (fun _ kk => XS.icmpNo X0.here hx rfl (hb hby d2_43) rfl (teq hc43).2 (XS.lload X0.here hx rfl (hb hby d2_46) rfl  (kk))) ?_
        show Dn p e below s _ _ _ (s₁.setTop (mkF m 48 #[.val (.long dd), .second, .val (.int kx), .val (.long v2), .second, .val (.long v6), .second, .val (.long v11), .second, .val (.long v17), .second, .val (.long v24), .second] [(.long v6)]))
        exact Dn.ret X0 hlk hx hret rfl (Or.inr (Or.inl ⟨rfl, rfl, _, rfl⟩)) (hb hby d2_48) (by rw [e0]; exact ⟨_, rfl, (show v6.toInt = own_pw dd.toInt kn from (show kn = 2 by omega) ▸ w6), N0, rfl⟩) (by decide) (by decide)
      · have hi43 : ¬ kx.toInt = 3 := fun qq => hc43 (Int32.toInt_inj.mp qq)
        refine Dn.st (fun _ kk => XS.icmpYes X0.here hx rfl (pc0 := 43) (pc' := 49) rfl (hb hby d2_43) rfl (feq hc43).2 (by decide) (by decide) (XS.iloadN X0.here hx rfl (hb hby d2_49) rfl  (XS.iconst X0.here hx rfl (hb hby d2_50) (kk)))) ?_
        show Dn p e below s _ _ _ (s₁.setTop (mkF m 51 #[.val (.long dd), .second, .val (.int kx), .val (.long v2), .second, .val (.long v6), .second, .val (.long v11), .second, .val (.long v17), .second, .val (.long v24), .second] [(.int (4 : Int32)), (.int kx)]))
        by_cases hc51 : kx = (4 : Int32)
        · have hi51 : kx.toInt = 4 := congrArg Int32.toInt hc51
          refine Dn.st (fun _ kk => XS.icmpNo X0.here hx rfl (hb hby d2_51) rfl (teq hc51).2 (XS.lload X0.here hx rfl (hb hby d2_54) rfl  (kk))) ?_
          show Dn p e below s _ _ _ (s₁.setTop (mkF m 56 #[.val (.long dd), .second, .val (.int kx), .val (.long v2), .second, .val (.long v6), .second, .val (.long v11), .second, .val (.long v17), .second, .val (.long v24), .second] [(.long v11)]))
          exact Dn.ret X0 hlk hx hret rfl (Or.inr (Or.inl ⟨rfl, rfl, _, rfl⟩)) (hb hby d2_56) (by rw [e0]; exact ⟨_, rfl, (show v11.toInt = own_pw dd.toInt kn from (show kn = 3 by omega) ▸ w11), N0, rfl⟩) (by decide) (by decide)
        · have hi51 : ¬ kx.toInt = 4 := fun qq => hc51 (Int32.toInt_inj.mp qq)
          refine Dn.st (fun _ kk => XS.icmpYes X0.here hx rfl (pc0 := 51) (pc' := 57) rfl (hb hby d2_51) rfl (feq hc51).2 (by decide) (by decide) (XS.iloadN X0.here hx rfl (hb hby d2_57) rfl  (XS.iconst X0.here hx rfl (hb hby d2_58) (kk)))) ?_
          show Dn p e below s _ _ _ (s₁.setTop (mkF m 59 #[.val (.long dd), .second, .val (.int kx), .val (.long v2), .second, .val (.long v6), .second, .val (.long v11), .second, .val (.long v17), .second, .val (.long v24), .second] [(.int (5 : Int32)), (.int kx)]))
          by_cases hc59 : kx = (5 : Int32)
          · have hi59 : kx.toInt = 5 := congrArg Int32.toInt hc59
            refine Dn.st (fun _ kk => XS.icmpNo X0.here hx rfl (hb hby d2_59) rfl (teq hc59).2 (XS.lload X0.here hx rfl (hb hby d2_62) rfl  (kk))) ?_
            show Dn p e below s _ _ _ (s₁.setTop (mkF m 64 #[.val (.long dd), .second, .val (.int kx), .val (.long v2), .second, .val (.long v6), .second, .val (.long v11), .second, .val (.long v17), .second, .val (.long v24), .second] [(.long v17)]))
            exact Dn.ret X0 hlk hx hret rfl (Or.inr (Or.inl ⟨rfl, rfl, _, rfl⟩)) (hb hby d2_64) (by rw [e0]; exact ⟨_, rfl, (show v17.toInt = own_pw dd.toInt kn from (show kn = 4 by omega) ▸ w17), N0, rfl⟩) (by decide) (by decide)
          · have hi59 : ¬ kx.toInt = 5 := fun qq => hc59 (Int32.toInt_inj.mp qq)
            refine Dn.st (fun _ kk => XS.icmpYes X0.here hx rfl (pc0 := 59) (pc' := 65) rfl (hb hby d2_59) rfl (feq hc59).2 (by decide) (by decide) (XS.lload X0.here hx rfl (hb hby d2_65) rfl  (kk))) ?_
            show Dn p e below s _ _ _ (s₁.setTop (mkF m 67 #[.val (.long dd), .second, .val (.int kx), .val (.long v2), .second, .val (.long v6), .second, .val (.long v11), .second, .val (.long v17), .second, .val (.long v24), .second] [(.long v24)]))
            exact Dn.ret X0 hlk hx hret rfl (Or.inr (Or.inl ⟨rfl, rfl, _, rfl⟩)) (hb hby d2_67) (by rw [e0]; exact ⟨_, rfl, (show v24.toInt = own_pw dd.toInt kn from (show kn = 5 by omega) ▸ w24), N0, rfl⟩) (by decide) (by decide)

theorem d1_0 : decode prog_51_method_3_code 0 = .ok (.dconst 0, 1) := by decide +kernel
theorem d1_1 : decode prog_51_method_3_code 1 = .ok (.dstore 4, 2) := by decide +kernel
theorem d1_3 : decode prog_51_method_3_code 3 = .ok (.aload_n 0, 1) := by decide +kernel
theorem d1_4 : decode prog_51_method_3_code 4 = .ok (.astore 6, 2) := by decide +kernel
theorem d1_6 : decode prog_51_method_3_code 6 = .ok (.aload 6, 2) := by decide +kernel
theorem d1_8 : decode prog_51_method_3_code 8 = .ok (.arraylength, 1) := by decide +kernel
theorem d1_9 : decode prog_51_method_3_code 9 = .ok (.istore 7, 2) := by decide +kernel
theorem d1_11 : decode prog_51_method_3_code 11 = .ok (.iconst 0, 1) := by decide +kernel
theorem d1_12 : decode prog_51_method_3_code 12 = .ok (.istore 8, 2) := by decide +kernel
theorem d1_14 : decode prog_51_method_3_code 14 = .ok (.iload 8, 2) := by decide +kernel
theorem d1_16 : decode prog_51_method_3_code 16 = .ok (.iload 7, 2) := by decide +kernel
theorem d1_18 : decode prog_51_method_3_code 18 = .ok (.if_icmp .ge 55, 3) := by decide +kernel
theorem d1_73 : decode prog_51_method_3_code 73 = .ok (.dload 4, 2) := by decide +kernel
theorem d1_75 : decode prog_51_method_3_code 75 = .ok (.dreturn, 1) := by decide +kernel
theorem dc_0 : DS 0 0 (0 : UInt64) := DS.lit (s := false) (c := 0) (q := -1074) (by decide +kernel) (by decide +kernel)
theorem pn1 : plainName "com/example/listino/listino/stats/Moments" = true := by first | (simp [plainName, overriddenIn]; done) | decide +kernel
theorem ef1_rm1_0 (m : MethodId) (x0 : Addr) (x1 : UInt64) (x2 : Int32) : entryFrame m #[(.ref x0), (.double x1), (.int x2)] 16 = mkF m 0 #[.val (.ref x0), .val (.double x1), .second, .val (.int x2), .unset, .unset, .unset, .unset, .unset, .unset, .unset, .unset, .unset, .unset, .unset, .unset] [] := by first | (simp [entryFrame, mkF, argsToLocals, Value.category]; done) | rfl
def Q1_0 (Z : State) (a : Addr) (mm : UInt64) (kx : Int32) (kn : Nat) (ka : ClassId)  (im : Int) (h0 : Heap) (n0 : Nat) (v : Option Value) (h : Heap) (L : List Loc) : Prop := ∃ z, v = some (.double z) ∧ DS 0 0 z ∧ Fr n0 L ∧ h = h0
set_option maxRecDepth 65536 in
set_option maxHeartbeats 40000000 in
theorem rm1_0 (l : Launch) (Z : State) (a0 : Array Value) (hw : ∀ d ∈ tables_1, d.before a0 Z = true) (ws : List Jvm.Cond) (a : Addr) (mm : UInt64) (kx : Int32) (kn : Nat) (ka : ClassId)  (im : Int) (h0 : Heap) (n0 : Nat) (Z0 : n0 ≤ h0.size) (hk : kx.toInt = kn + 1) (hk5 : kn ≤ 5) (Va : Arv Z h0 a ka .double 0 [] (.double 0)) (dm : DS 0 im mm) :
    MetFree l (⟨"com/example/listino/listino/stats/Moments", "sumOfPowers", "([DDI)D"⟩ : MethodName) (head1 (Jvm.Cond.code (⟨"com/example/listino/listino/stats/Moments", "sumOfPowers", "([DDI)D"⟩ : MethodName) prog_51_method_3_code 16 (some .double) :: ws) ({ frames := 0, cells := 0, slots := 0, locals := 0 } : Room)) (fun aa UU => aa = #[(.ref a), (.double mm), (.int kx)] ∧ Z.Warmed39 UU.vm ∧ UU.heap = h0) (fun _ _ _ _ _ => True) (fun _ UU oo UU' => ∃ vv LL, oo = .returned vv ∧ Q1_0 Z a mm kx kn ka   im h0 n0 vv UU'.heap LL ∧ FrameEnd UU oo UU' LL ({ frames := 0, cells := 0, slots := 0, locals := 0 } : Room).cells ({ frames := 0, cells := 0, slots := 0, locals := 0 } : Room).slots) := by
  refine MetFree.of_bodySF (plainFor_of_name pn1) hisR ?_
  intro p e s m args below meth c s₁ Bd hml0 hP hK
  obtain ⟨rfl, hZ, hh⟩ := hP
  have hx := Bd.exec
  have hby := Bd.bytes
  have hlk : meth.locks = false := BodyLoose.notSynchronized Bd
  have hret := Bd.returns
  have hml : c.maxLocals = 16 := hml0
  have hown : s.vm.findClass "com/example/listino/listino/stats/Moments" = some m.cls := findClass_of_methodNamed Bd.named
  have hnm := (name_of_methodNamed Bd.named Bd.method).1
  have X0 : Stand p l e ({ frames := 0, cells := 0, slots := 0, locals := 0 } : Room) s m #[(.ref a), (.double mm), (.int kx)] below meth c s₁ [] 0 0 := Stand.of_body Bd
  have e0 : s₁.heap = h0 := by rw [← hh, Bd.state]; rfl
  have N0 := Fr.nil n0
  have r_kx := rng32 kx
  show Dn p e below s (Q1_0 Z a mm kx kn ka   im h0 n0) ({ frames := 0, cells := 0, slots := 0, locals := 0 } : Room).cells ({ frames := 0, cells := 0, slots := 0, locals := 0 } : Room).slots (s₁.setTop (entryFrame m #[(.ref a), (.double mm), (.int kx)] 16))
  refine Dn.st (fun _ kk => castTop (ef1_rm1_0 m a mm kx) kk) ?_
  show Dn p e below s _ _ _ (s₁.setTop (mkF m 0 #[.val (.ref a), .val (.double mm), .second, .val (.int kx), .unset, .unset, .unset, .unset, .unset, .unset, .unset, .unset, .unset, .unset, .unset, .unset] []))
  refine Dn.st (fun _ kk => XS.dconst0 X0.here hx rfl (hb hby d1_0) rfl (XS.dstore X0.here hx rfl (hb hby d1_1) rfl (l' := #[.val (.ref a), .val (.double mm), .second, .val (.int kx), .val (.double FP.dconst0), .second, .unset, .unset, .unset, .unset, .unset, .unset, .unset, .unset, .unset, .unset]) rfl (XS.aloadN X0.here hx rfl (hb hby d1_3) rfl rfl (XS.astore X0.here hx rfl (hb hby d1_4) rfl rfl (l' := #[.val (.ref a), .val (.double mm), .second, .val (.int kx), .val (.double FP.dconst0), .second, .val (.ref a), .unset, .unset, .unset, .unset, .unset, .unset, .unset, .unset, .unset]) rfl (XS.aload X0.here hx rfl (hb hby d1_6) rfl rfl (kk)))))) ?_
  show Dn p e below s _ _ _ (s₁.setTop (mkF m 8 #[.val (.ref a), .val (.double mm), .second, .val (.int kx), .val (.double FP.dconst0), .second, .val (.ref a), .unset, .unset, .unset, .unset, .unset, .unset, .unset, .unset, .unset] [(.ref a)]))
  have Vc_a_8 := Va
  obtain ⟨cl_a_8, Ar_a_8, q_a_8, S_a_8, N_a_8, H_a_8, G_a_8⟩ := Vc_a_8
  refine Dn.st (fun _ kk => X0.arraylength hx (by rw [e0]; exact Ar_a_8.1) (State.isArrayOf_alike hZ.alike Ar_a_8.2.1) (g := (mkF m 8 #[.val (.ref a), .val (.double mm), .second, .val (.int kx), .val (.double FP.dconst0), .second, .val (.ref a), .unset, .unset, .unset, .unset, .unset, .unset, .unset, .unset, .unset] [(.ref a)])) rfl rfl (hb hby d1_8) _ (kk)) ?_
  show Dn p e below s _ _ _ (s₁.setTop (mkF m 9 #[.val (.ref a), .val (.double mm), .second, .val (.int kx), .val (.double FP.dconst0), .second, .val (.ref a), .unset, .unset, .unset, .unset, .unset, .unset, .unset, .unset, .unset] [(.int cl_a_8.slots.size.toInt32)]))
  rw [len_of S_a_8 N_a_8]
  show Dn p e below s _ _ _ (s₁.setTop (mkF m 9 #[.val (.ref a), .val (.double mm), .second, .val (.int kx), .val (.double FP.dconst0), .second, .val (.ref a), .unset, .unset, .unset, .unset, .unset, .unset, .unset, .unset, .unset] [(.int (0 : Int32))]))
  refine Dn.st (fun _ kk => XS.istore X0.here hx rfl (hb hby d1_9) rfl (l' := #[.val (.ref a), .val (.double mm), .second, .val (.int kx), .val (.double FP.dconst0), .second, .val (.ref a), .val (.int (0 : Int32)), .unset, .unset, .unset, .unset, .unset, .unset, .unset, .unset]) rfl (XS.iconst X0.here hx rfl (hb hby d1_11) (XS.istore X0.here hx rfl (hb hby d1_12) rfl (l' := #[.val (.ref a), .val (.double mm), .second, .val (.int kx), .val (.double FP.dconst0), .second, .val (.ref a), .val (.int (0 : Int32)), .val (.int (0 : Int32)), .unset, .unset, .unset, .unset, .unset, .unset, .unset]) rfl (XS.iload X0.here hx rfl (hb hby d1_14) rfl  (XS.iload X0.here hx rfl (hb hby d1_16) rfl  (kk)))))) ?_
  show Dn p e below s _ _ _ (s₁.setTop (mkF m 18 #[.val (.ref a), .val (.double mm), .second, .val (.int kx), .val (.double FP.dconst0), .second, .val (.ref a), .val (.int (0 : Int32)), .val (.int (0 : Int32)), .unset, .unset, .unset, .unset, .unset, .unset, .unset] [(.int (0 : Int32)), (.int (0 : Int32))]))
  have hc18 : ¬ ((0 : Int32) < (0 : Int32)) := by decide
  refine Dn.st (fun _ kk => XS.icmpYes X0.here hx rfl (pc0 := 18) (pc' := 73) rfl (hb hby d1_18) rfl (flt hc18).2.1 (by decide) (by decide) (XS.dload X0.here hx rfl (hb hby d1_73) rfl  (kk))) ?_
  show Dn p e below s _ _ _ (s₁.setTop (mkF m 75 #[.val (.ref a), .val (.double mm), .second, .val (.int kx), .val (.double FP.dconst0), .second, .val (.ref a), .val (.int (0 : Int32)), .val (.int (0 : Int32)), .unset, .unset, .unset, .unset, .unset, .unset, .unset] [(.double FP.dconst0)]))
  exact Dn.ret X0 hlk hx hret rfl (Or.inr (Or.inr (Or.inl ⟨rfl, rfl, _, rfl⟩))) (hb hby d1_75) (by rw [e0]; exact ⟨_, rfl, dc_0, N0, rfl⟩) (by decide) (by decide)

theorem d1_21 : decode prog_51_method_3_code 21 = .ok (.aload 6, 2) := by decide +kernel
theorem d1_23 : decode prog_51_method_3_code 23 = .ok (.iload 8, 2) := by decide +kernel
theorem d1_25 : decode prog_51_method_3_code 25 = .ok (.daload, 1) := by decide +kernel
theorem d1_26 : decode prog_51_method_3_code 26 = .ok (.dstore 9, 2) := by decide +kernel
theorem d1_28 : decode prog_51_method_3_code 28 = .ok (.dload 9, 2) := by decide +kernel
theorem d1_30 : decode prog_51_method_3_code 30 = .ok (.dload_n 1, 1) := by decide +kernel
theorem d1_31 : decode prog_51_method_3_code 31 = .ok (.dsub, 1) := by decide +kernel
theorem d1_32 : decode prog_51_method_3_code 32 = .ok (.dstore 11, 2) := by decide +kernel
theorem d1_34 : decode prog_51_method_3_code 34 = .ok (.dload 11, 2) := by decide +kernel
theorem d1_36 : decode prog_51_method_3_code 36 = .ok (.dstore 13, 2) := by decide +kernel
theorem d1_38 : decode prog_51_method_3_code 38 = .ok (.iconst 1, 1) := by decide +kernel
theorem d1_39 : decode prog_51_method_3_code 39 = .ok (.istore 15, 2) := by decide +kernel
theorem d1_41 : decode prog_51_method_3_code 41 = .ok (.iload 15, 2) := by decide +kernel
theorem d1_43 : decode prog_51_method_3_code 43 = .ok (.iload_n 3, 1) := by decide +kernel
theorem d1_44 : decode prog_51_method_3_code 44 = .ok (.if_icmp .ge 16, 3) := by decide +kernel
theorem d1_47 : decode prog_51_method_3_code 47 = .ok (.dload 13, 2) := by decide +kernel
theorem d1_49 : decode prog_51_method_3_code 49 = .ok (.dload 11, 2) := by decide +kernel
theorem d1_51 : decode prog_51_method_3_code 51 = .ok (.dmul, 1) := by decide +kernel
theorem d1_52 : decode prog_51_method_3_code 52 = .ok (.dstore 13, 2) := by decide +kernel
theorem d1_54 : decode prog_51_method_3_code 54 = .ok (.iinc 15 1, 3) := by decide +kernel
theorem d1_57 : decode prog_51_method_3_code 57 = .ok (.goto (-16), 3) := by decide +kernel
theorem d1_60 : decode prog_51_method_3_code 60 = .ok (.dload 4, 2) := by decide +kernel
theorem d1_62 : decode prog_51_method_3_code 62 = .ok (.dload 13, 2) := by decide +kernel
theorem d1_64 : decode prog_51_method_3_code 64 = .ok (.dadd, 1) := by decide +kernel
theorem d1_65 : decode prog_51_method_3_code 65 = .ok (.dstore 4, 2) := by decide +kernel
theorem d1_67 : decode prog_51_method_3_code 67 = .ok (.iinc 8 1, 3) := by decide +kernel
theorem d1_70 : decode prog_51_method_3_code 70 = .ok (.goto (-56), 3) := by decide +kernel
theorem ef1_rm1_1 (m : MethodId) (x0 : Addr) (x1 : UInt64) (x2 : Int32) : entryFrame m #[(.ref x0), (.double x1), (.int x2)] 16 = mkF m 0 #[.val (.ref x0), .val (.double x1), .second, .val (.int x2), .unset, .unset, .unset, .unset, .unset, .unset, .unset, .unset, .unset, .unset, .unset, .unset] [] := by first | (simp [entryFrame, mkF, argsToLocals, Value.category]; done) | rfl
def Q1_1 (Z : State) (a : Addr) (mm : UInt64) (kx : Int32) (kn : Nat) (ka : ClassId) (z0 : UInt64) (i0 : Int) (im : Int) (h0 : Heap) (n0 : Nat) (v : Option Value) (h : Heap) (L : List Loc) : Prop := ∃ z, v = some (.double z) ∧ DS 0 (0 + own_pw (i0 - im) kn) z ∧ Fr n0 L ∧ h = h0
set_option maxRecDepth 65536 in
set_option maxHeartbeats 40000000 in
theorem rm1_1 (l : Launch) (Z : State) (a0 : Array Value) (hw : ∀ d ∈ tables_1, d.before a0 Z = true) (ws : List Jvm.Cond) (a : Addr) (mm : UInt64) (kx : Int32) (kn : Nat) (ka : ClassId) (z0 : UInt64) (i0 : Int) (im : Int) (h0 : Heap) (n0 : Nat) (Z0 : n0 ≤ h0.size) (hk : kx.toInt = kn + 1) (hk5 : kn ≤ 5) (Va : Arv Z h0 a ka .double 1 [(.double z0)] (.double 0)) (dm : DS 0 im mm) (dz0 : DS 0 i0 z0) (hd0 : -198 ≤ i0 - im ∧ i0 - im ≤ 198) :
    MetFree l (⟨"com/example/listino/listino/stats/Moments", "sumOfPowers", "([DDI)D"⟩ : MethodName) (head1 (Jvm.Cond.code (⟨"com/example/listino/listino/stats/Moments", "sumOfPowers", "([DDI)D"⟩ : MethodName) prog_51_method_3_code 16 (some .double) :: ws) ({ frames := 0, cells := 0, slots := 0, locals := 0 } : Room)) (fun aa UU => aa = #[(.ref a), (.double mm), (.int kx)] ∧ Z.Warmed39 UU.vm ∧ UU.heap = h0) (fun _ _ _ _ _ => True) (fun _ UU oo UU' => ∃ vv LL, oo = .returned vv ∧ Q1_1 Z a mm kx kn ka z0 i0 im h0 n0 vv UU'.heap LL ∧ FrameEnd UU oo UU' LL ({ frames := 0, cells := 0, slots := 0, locals := 0 } : Room).cells ({ frames := 0, cells := 0, slots := 0, locals := 0 } : Room).slots) := by
  refine MetFree.of_bodySF (plainFor_of_name pn1) hisR ?_
  intro p e s m args below meth c s₁ Bd hml0 hP hK
  obtain ⟨rfl, hZ, hh⟩ := hP
  have hx := Bd.exec
  have hby := Bd.bytes
  have hlk : meth.locks = false := BodyLoose.notSynchronized Bd
  have hret := Bd.returns
  have hml : c.maxLocals = 16 := hml0
  have hown : s.vm.findClass "com/example/listino/listino/stats/Moments" = some m.cls := findClass_of_methodNamed Bd.named
  have hnm := (name_of_methodNamed Bd.named Bd.method).1
  have X0 : Stand p l e ({ frames := 0, cells := 0, slots := 0, locals := 0 } : Room) s m #[(.ref a), (.double mm), (.int kx)] below meth c s₁ [] 0 0 := Stand.of_body Bd
  have e0 : s₁.heap = h0 := by rw [← hh, Bd.state]; rfl
  have N0 := Fr.nil n0
  have r_kx := rng32 kx
  show Dn p e below s (Q1_1 Z a mm kx kn ka z0 i0 im h0 n0) ({ frames := 0, cells := 0, slots := 0, locals := 0 } : Room).cells ({ frames := 0, cells := 0, slots := 0, locals := 0 } : Room).slots (s₁.setTop (entryFrame m #[(.ref a), (.double mm), (.int kx)] 16))
  refine Dn.st (fun _ kk => castTop (ef1_rm1_1 m a mm kx) kk) ?_
  show Dn p e below s _ _ _ (s₁.setTop (mkF m 0 #[.val (.ref a), .val (.double mm), .second, .val (.int kx), .unset, .unset, .unset, .unset, .unset, .unset, .unset, .unset, .unset, .unset, .unset, .unset] []))
  refine Dn.st (fun _ kk => XS.dconst0 X0.here hx rfl (hb hby d1_0) rfl (XS.dstore X0.here hx rfl (hb hby d1_1) rfl (l' := #[.val (.ref a), .val (.double mm), .second, .val (.int kx), .val (.double FP.dconst0), .second, .unset, .unset, .unset, .unset, .unset, .unset, .unset, .unset, .unset, .unset]) rfl (XS.aloadN X0.here hx rfl (hb hby d1_3) rfl rfl (XS.astore X0.here hx rfl (hb hby d1_4) rfl rfl (l' := #[.val (.ref a), .val (.double mm), .second, .val (.int kx), .val (.double FP.dconst0), .second, .val (.ref a), .unset, .unset, .unset, .unset, .unset, .unset, .unset, .unset, .unset]) rfl (XS.aload X0.here hx rfl (hb hby d1_6) rfl rfl (kk)))))) ?_
  show Dn p e below s _ _ _ (s₁.setTop (mkF m 8 #[.val (.ref a), .val (.double mm), .second, .val (.int kx), .val (.double FP.dconst0), .second, .val (.ref a), .unset, .unset, .unset, .unset, .unset, .unset, .unset, .unset, .unset] [(.ref a)]))
  have Vc_a_8 := Va
  obtain ⟨cl_a_8, Ar_a_8, q_a_8, S_a_8, N_a_8, H_a_8, G_a_8⟩ := Vc_a_8
  refine Dn.st (fun _ kk => X0.arraylength hx (by rw [e0]; exact Ar_a_8.1) (State.isArrayOf_alike hZ.alike Ar_a_8.2.1) (g := (mkF m 8 #[.val (.ref a), .val (.double mm), .second, .val (.int kx), .val (.double FP.dconst0), .second, .val (.ref a), .unset, .unset, .unset, .unset, .unset, .unset, .unset, .unset, .unset] [(.ref a)])) rfl rfl (hb hby d1_8) _ (kk)) ?_
  show Dn p e below s _ _ _ (s₁.setTop (mkF m 9 #[.val (.ref a), .val (.double mm), .second, .val (.int kx), .val (.double FP.dconst0), .second, .val (.ref a), .unset, .unset, .unset, .unset, .unset, .unset, .unset, .unset, .unset] [(.int cl_a_8.slots.size.toInt32)]))
  rw [len_of S_a_8 N_a_8]
  show Dn p e below s _ _ _ (s₁.setTop (mkF m 9 #[.val (.ref a), .val (.double mm), .second, .val (.int kx), .val (.double FP.dconst0), .second, .val (.ref a), .unset, .unset, .unset, .unset, .unset, .unset, .unset, .unset, .unset] [(.int (1 : Int32))]))
  refine Dn.st (fun _ kk => XS.istore X0.here hx rfl (hb hby d1_9) rfl (l' := #[.val (.ref a), .val (.double mm), .second, .val (.int kx), .val (.double FP.dconst0), .second, .val (.ref a), .val (.int (1 : Int32)), .unset, .unset, .unset, .unset, .unset, .unset, .unset, .unset]) rfl (XS.iconst X0.here hx rfl (hb hby d1_11) (XS.istore X0.here hx rfl (hb hby d1_12) rfl (l' := #[.val (.ref a), .val (.double mm), .second, .val (.int kx), .val (.double FP.dconst0), .second, .val (.ref a), .val (.int (1 : Int32)), .val (.int (0 : Int32)), .unset, .unset, .unset, .unset, .unset, .unset, .unset]) rfl (XS.iload X0.here hx rfl (hb hby d1_14) rfl  (XS.iload X0.here hx rfl (hb hby d1_16) rfl  (kk)))))) ?_
  show Dn p e below s _ _ _ (s₁.setTop (mkF m 18 #[.val (.ref a), .val (.double mm), .second, .val (.int kx), .val (.double FP.dconst0), .second, .val (.ref a), .val (.int (1 : Int32)), .val (.int (0 : Int32)), .unset, .unset, .unset, .unset, .unset, .unset, .unset] [(.int (1 : Int32)), (.int (0 : Int32))]))
  have hc18 : (0 : Int32) < (1 : Int32) := by decide
  refine Dn.st (fun _ kk => XS.icmpNo X0.here hx rfl (hb hby d1_18) rfl (tlt hc18).2.1 (XS.aload X0.here hx rfl (hb hby d1_21) rfl rfl (XS.iload X0.here hx rfl (hb hby d1_23) rfl  (kk)))) ?_
  show Dn p e below s _ _ _ (s₁.setTop (mkF m 25 #[.val (.ref a), .val (.double mm), .second, .val (.int kx), .val (.double FP.dconst0), .second, .val (.ref a), .val (.int (1 : Int32)), .val (.int (0 : Int32)), .unset, .unset, .unset, .unset, .unset, .unset, .unset] [(.int (0 : Int32)), (.ref a)]))
  have Vc_a_25 := Va
  obtain ⟨cl_a_25, Ar_a_25, q_a_25, S_a_25, N_a_25, H_a_25, G_a_25⟩ := Vc_a_25
  have hin25 : ¬ ((0 : Int32) < 0 ∨ cl_a_25.slots.size ≤ ((0 : Int32)).toNatClampNeg) := inb_of S_a_25 ⟨by decide, by decide⟩
  have hat25 : cl_a_25.slots[((0 : Int32)).toNatClampNeg]? = some (.double z0) := H_a_25.at hin25 rfl
  refine Dn.st (fun _ kk => X0.daload hx (j := (0 : Int32)) (v := (.double z0)) (by rw [e0]; exact Ar_a_25.1) (State.isArrayOf_alike hZ.alike Ar_a_25.2.1) Ar_a_25.2.2 hin25 hat25 (g := (mkF m 25 #[.val (.ref a), .val (.double mm), .second, .val (.int kx), .val (.double FP.dconst0), .second, .val (.ref a), .val (.int (1 : Int32)), .val (.int (0 : Int32)), .unset, .unset, .unset, .unset, .unset, .unset, .unset] [(.int (0 : Int32)), (.ref a)])) rfl rfl (hb hby d1_25) _ (XS.dstore X0.here hx rfl (hb hby d1_26) rfl (l' := #[.val (.ref a), .val (.double mm), .second, .val (.int kx), .val (.double FP.dconst0), .second, .val (.ref a), .val (.int (1 : Int32)), .val (.int (0 : Int32)), .val (.double z0), .second, .unset, .unset, .unset, .unset, .unset]) rfl (XS.dload X0.here hx rfl (hb hby d1_28) rfl  (XS.dloadN X0.here hx rfl (hb hby d1_30) rfl  (kk))))) ?_
  show Dn p e below s _ _ _ (s₁.setTop (mkF m 31 #[.val (.ref a), .val (.double mm), .second, .val (.int kx), .val (.double FP.dconst0), .second, .val (.ref a), .val (.int (1 : Int32)), .val (.int (0 : Int32)), .val (.double z0), .second, .unset, .unset, .unset, .unset, .unset] [(.double mm), (.double z0)]))
  have d31 : DS 0 (i0 - im) (FP.dsub z0 mm) := DS.sub dz0 dm (by omega) (by decide)
  refine Dn.st (fun _ kk => XS.dsubS X0.here hx rfl (hb hby d1_31) rfl d31.nn rfl (kk)) ?_
  show Dn p e below s _ _ _ (s₁.setTop (mkF m 32 #[.val (.ref a), .val (.double mm), .second, .val (.int kx), .val (.double FP.dconst0), .second, .val (.ref a), .val (.int (1 : Int32)), .val (.int (0 : Int32)), .val (.double z0), .second, .unset, .unset, .unset, .unset, .unset] [(.double (FP.dsub z0 mm))]))
  generalize hv31 : ((FP.dsub z0 mm) : UInt64) = v31 at d31 ⊢
  show Dn p e below s _ _ _ (s₁.setTop (mkF m 32 #[.val (.ref a), .val (.double mm), .second, .val (.int kx), .val (.double FP.dconst0), .second, .val (.ref a), .val (.int (1 : Int32)), .val (.int (0 : Int32)), .val (.double z0), .second, .unset, .unset, .unset, .unset, .unset] [(.double v31)]))
  refine Dn.st (fun _ kk => XS.dstore X0.here hx rfl (hb hby d1_32) rfl (l' := #[.val (.ref a), .val (.double mm), .second, .val (.int kx), .val (.double FP.dconst0), .second, .val (.ref a), .val (.int (1 : Int32)), .val (.int (0 : Int32)), .val (.double z0), .second, .val (.double v31), .second, .unset, .unset, .unset]) rfl (XS.dload X0.here hx rfl (hb hby d1_34) rfl  (XS.dstore X0.here hx rfl (hb hby d1_36) rfl (l' := #[.val (.ref a), .val (.double mm), .second, .val (.int kx), .val (.double FP.dconst0), .second, .val (.ref a), .val (.int (1 : Int32)), .val (.int (0 : Int32)), .val (.double z0), .second, .val (.double v31), .second, .val (.double v31), .second, .unset]) rfl (XS.iconst X0.here hx rfl (hb hby d1_38) (XS.istore X0.here hx rfl (hb hby d1_39) rfl (l' := #[.val (.ref a), .val (.double mm), .second, .val (.int kx), .val (.double FP.dconst0), .second, .val (.ref a), .val (.int (1 : Int32)), .val (.int (0 : Int32)), .val (.double z0), .second, .val (.double v31), .second, .val (.double v31), .second, .val (.int (1 : Int32))]) rfl (kk)))))) ?_
  show Dn p e below s _ _ _ (s₁.setTop (mkF m 41 #[.val (.ref a), .val (.double mm), .second, .val (.int kx), .val (.double FP.dconst0), .second, .val (.ref a), .val (.int (1 : Int32)), .val (.int (0 : Int32)), .val (.double z0), .second, .val (.double v31), .second, .val (.double v31), .second, .val (.int (1 : Int32))] []))
  have LP41 : ∀ (rr : Nat) (tt : Nat) (a13 : UInt64) (j15 : Int32), (j15.toInt = tt + 1) → (tt + rr = kn) → (DS 0 (own_pw (i0 - im) tt) a13) → Dn p e below s (Q1_1 Z a mm kx kn ka z0 i0 im h0 n0) ({ frames := 0, cells := 0, slots := 0, locals := 0 } : Room).cells ({ frames := 0, cells := 0, slots := 0, locals := 0 } : Room).slots (s₁.setTop (mkF m 41 #[.val (.ref a), .val (.double mm), .second, .val (.int kx), .val (.double FP.dconst0), .second, .val (.ref a), .val (.int (1 : Int32)), .val (.int (0 : Int32)), .val (.double z0), .second, .val (.double v31), .second, .val (.double a13), .second, .val (.int j15)] [])) := by
    intro rr
    induction rr with
    | zero =>
      intro tt a13 j15 hj hr da
      have r_j15 := rng32 j15
      have pt := own_p6 hd0.1 hd0.2 (t := tt) (by omega)
      show Dn p e below s _ _ _ (s₁.setTop (mkF m 41 #[.val (.ref a), .val (.double mm), .second, .val (.int kx), .val (.double FP.dconst0), .second, .val (.ref a), .val (.int (1 : Int32)), .val (.int (0 : Int32)), .val (.double z0), .second, .val (.double v31), .second, .val (.double a13), .second, .val (.int j15)] []))
      refine Dn.st (fun _ kk => XS.iload X0.here hx rfl (hb hby d1_41) rfl  (XS.iloadN X0.here hx rfl (hb hby d1_43) rfl  (kk))) ?_
      show Dn p e below s _ _ _ (s₁.setTop (mkF m 44 #[.val (.ref a), .val (.double mm), .second, .val (.int kx), .val (.double FP.dconst0), .second, .val (.ref a), .val (.int (1 : Int32)), .val (.int (0 : Int32)), .val (.double z0), .second, .val (.double v31), .second, .val (.double a13), .second, .val (.int j15)] [(.int kx), (.int j15)]))
      by_cases hc44 : j15 < kx
      · have hi44 : j15.toInt < kx.toInt := Int32.lt_iff_toInt_lt.mp hc44
        exfalso
        omega
      · have hi44 : ¬ j15.toInt < kx.toInt := fun qq => hc44 (Int32.lt_iff_toInt_lt.mpr qq)
        refine Dn.st (fun _ kk => XS.icmpYes X0.here hx rfl (pc0 := 44) (pc' := 60) rfl (hb hby d1_44) rfl (flt hc44).2.1 (by decide) (by decide) (XS.dload X0.here hx rfl (hb hby d1_60) rfl  (XS.dload X0.here hx rfl (hb hby d1_62) rfl  (kk)))) ?_
        show Dn p e below s _ _ _ (s₁.setTop (mkF m 64 #[.val (.ref a), .val (.double mm), .second, .val (.int kx), .val (.double FP.dconst0), .second, .val (.ref a), .val (.int (1 : Int32)), .val (.int (0 : Int32)), .val (.double z0), .second, .val (.double v31), .second, .val (.double a13), .second, .val (.int j15)] [(.double a13), (.double FP.dconst0)]))
        have hkt0 : tt = kn := by omega
        have pk0 := own_p6 hd0.1 hd0.2 (t := kn) (by omega)
        rw [hkt0] at da
        have d64 : DS 0 (0 + own_pw (i0 - im) kn) (FP.dadd FP.dconst0 a13) := DS.add (k := 0) dc_0 da (by omega) (by decide)
        refine Dn.st (fun _ kk => XS.daddS X0.here hx rfl (hb hby d1_64) rfl d64.nn rfl (kk)) ?_
        show Dn p e below s _ _ _ (s₁.setTop (mkF m 65 #[.val (.ref a), .val (.double mm), .second, .val (.int kx), .val (.double FP.dconst0), .second, .val (.ref a), .val (.int (1 : Int32)), .val (.int (0 : Int32)), .val (.double z0), .second, .val (.double v31), .second, .val (.double a13), .second, .val (.int j15)] [(.double (FP.dadd FP.dconst0 a13))]))
        generalize hv64 : ((FP.dadd FP.dconst0 a13) : UInt64) = v64 at d64 ⊢
        show Dn p e below s _ _ _ (s₁.setTop (mkF m 65 #[.val (.ref a), .val (.double mm), .second, .val (.int kx), .val (.double FP.dconst0), .second, .val (.ref a), .val (.int (1 : Int32)), .val (.int (0 : Int32)), .val (.double z0), .second, .val (.double v31), .second, .val (.double a13), .second, .val (.int j15)] [(.double v64)]))
        refine Dn.st (fun _ kk => XS.dstore X0.here hx rfl (hb hby d1_65) rfl (l' := #[.val (.ref a), .val (.double mm), .second, .val (.int kx), .val (.double v64), .second, .val (.ref a), .val (.int (1 : Int32)), .val (.int (0 : Int32)), .val (.double z0), .second, .val (.double v31), .second, .val (.double a13), .second, .val (.int j15)]) rfl (XS.iinc X0.here hx rfl (hb hby d1_67) rfl (l' := #[.val (.ref a), .val (.double mm), .second, .val (.int kx), .val (.double v64), .second, .val (.ref a), .val (.int (1 : Int32)), .val (.int (1 : Int32)), .val (.double z0), .second, .val (.double v31), .second, .val (.double a13), .second, .val (.int j15)]) rfl (XS.goto X0.here hx rfl (pc0 := 70) (pc' := 14) rfl (hb hby d1_70) (by decide) (by decide) (XS.iload X0.here hx rfl (hb hby d1_14) rfl  (XS.iload X0.here hx rfl (hb hby d1_16) rfl  (kk)))))) ?_
        show Dn p e below s _ _ _ (s₁.setTop (mkF m 18 #[.val (.ref a), .val (.double mm), .second, .val (.int kx), .val (.double v64), .second, .val (.ref a), .val (.int (1 : Int32)), .val (.int (1 : Int32)), .val (.double z0), .second, .val (.double v31), .second, .val (.double a13), .second, .val (.int j15)] [(.int (1 : Int32)), (.int (1 : Int32))]))
        have hc18_2 : ¬ ((1 : Int32) < (1 : Int32)) := by decide
        refine Dn.st (fun _ kk => XS.icmpYes X0.here hx rfl (pc0 := 18) (pc' := 73) rfl (hb hby d1_18) rfl (flt hc18_2).2.1 (by decide) (by decide) (XS.dload X0.here hx rfl (hb hby d1_73) rfl  (kk))) ?_
        show Dn p e below s _ _ _ (s₁.setTop (mkF m 75 #[.val (.ref a), .val (.double mm), .second, .val (.int kx), .val (.double v64), .second, .val (.ref a), .val (.int (1 : Int32)), .val (.int (1 : Int32)), .val (.double z0), .second, .val (.double v31), .second, .val (.double a13), .second, .val (.int j15)] [(.double v64)]))
        exact Dn.ret X0 hlk hx hret rfl (Or.inr (Or.inr (Or.inl ⟨rfl, rfl, _, rfl⟩))) (hb hby d1_75) (by rw [e0]; exact ⟨_, rfl, d64, N0, rfl⟩) (by decide) (by decide)
    | succ rr ih =>
      intro tt a13 j15 hj hr da
      have r_j15 := rng32 j15
      have pt := own_p6 hd0.1 hd0.2 (t := tt) (by omega)
      have pt1 := own_p6 hd0.1 hd0.2 (t := tt + 1) (by omega)
      show Dn p e below s _ _ _ (s₁.setTop (mkF m 41 #[.val (.ref a), .val (.double mm), .second, .val (.int kx), .val (.double FP.dconst0), .second, .val (.ref a), .val (.int (1 : Int32)), .val (.int (0 : Int32)), .val (.double z0), .second, .val (.double v31), .second, .val (.double a13), .second, .val (.int j15)] []))
      refine Dn.st (fun _ kk => XS.iload X0.here hx rfl (hb hby d1_41) rfl  (XS.iloadN X0.here hx rfl (hb hby d1_43) rfl  (kk))) ?_
      show Dn p e below s _ _ _ (s₁.setTop (mkF m 44 #[.val (.ref a), .val (.double mm), .second, .val (.int kx), .val (.double FP.dconst0), .second, .val (.ref a), .val (.int (1 : Int32)), .val (.int (0 : Int32)), .val (.double z0), .second, .val (.double v31), .second, .val (.double a13), .second, .val (.int j15)] [(.int kx), (.int j15)]))
      by_cases hc44 : j15 < kx
      · have hi44 : j15.toInt < kx.toInt := Int32.lt_iff_toInt_lt.mp hc44
        refine Dn.st (fun _ kk => XS.icmpNo X0.here hx rfl (hb hby d1_44) rfl (tlt hc44).2.1 (XS.dload X0.here hx rfl (hb hby d1_47) rfl  (XS.dload X0.here hx rfl (hb hby d1_49) rfl  (kk)))) ?_
        show Dn p e below s _ _ _ (s₁.setTop (mkF m 51 #[.val (.ref a), .val (.double mm), .second, .val (.int kx), .val (.double FP.dconst0), .second, .val (.ref a), .val (.int (1 : Int32)), .val (.int (0 : Int32)), .val (.double z0), .second, .val (.double v31), .second, .val (.double a13), .second, .val (.int j15)] [(.double v31), (.double a13)]))
        have d51 : DS 0 (own_pw (i0 - im) (tt + 1)) (FP.dmul a13 v31) := DS.mul (k := 0) (m := 0) da d31 (by show (own_pw (i0 - im) (tt + 1)).natAbs ≤ _; omega) (by decide)
        refine Dn.st (fun _ kk => XS.dmulS X0.here hx rfl (hb hby d1_51) rfl d51.nn rfl (kk)) ?_
        show Dn p e below s _ _ _ (s₁.setTop (mkF m 52 #[.val (.ref a), .val (.double mm), .second, .val (.int kx), .val (.double FP.dconst0), .second, .val (.ref a), .val (.int (1 : Int32)), .val (.int (0 : Int32)), .val (.double z0), .second, .val (.double v31), .second, .val (.double a13), .second, .val (.int j15)] [(.double (FP.dmul a13 v31))]))
        generalize hv51 : ((FP.dmul a13 v31) : UInt64) = v51 at d51 ⊢
        show Dn p e below s _ _ _ (s₁.setTop (mkF m 52 #[.val (.ref a), .val (.double mm), .second, .val (.int kx), .val (.double FP.dconst0), .second, .val (.ref a), .val (.int (1 : Int32)), .val (.int (0 : Int32)), .val (.double z0), .second, .val (.double v31), .second, .val (.double a13), .second, .val (.int j15)] [(.double v51)]))
        refine Dn.st (fun _ kk => XS.dstore X0.here hx rfl (hb hby d1_52) rfl (l' := #[.val (.ref a), .val (.double mm), .second, .val (.int kx), .val (.double FP.dconst0), .second, .val (.ref a), .val (.int (1 : Int32)), .val (.int (0 : Int32)), .val (.double z0), .second, .val (.double v31), .second, .val (.double v51), .second, .val (.int j15)]) rfl (XS.iinc X0.here hx rfl (hb hby d1_54) rfl (l' := #[.val (.ref a), .val (.double mm), .second, .val (.int kx), .val (.double FP.dconst0), .second, .val (.ref a), .val (.int (1 : Int32)), .val (.int (0 : Int32)), .val (.double z0), .second, .val (.double v31), .second, .val (.double v51), .second, .val (.int (j15 + (1 : Int32)))]) rfl (kk))) ?_
        show Dn p e below s _ _ _ (s₁.setTop (mkF m 57 #[.val (.ref a), .val (.double mm), .second, .val (.int kx), .val (.double FP.dconst0), .second, .val (.ref a), .val (.int (1 : Int32)), .val (.int (0 : Int32)), .val (.double z0), .second, .val (.double v31), .second, .val (.double v51), .second, .val (.int (j15 + (1 : Int32)))] []))
        generalize hv54 : ((j15 + (1 : Int32)) : Int32) = v54
        have q54 : (v54.toInt - (j15.toInt + 1)) % 4294967296 = 0 := by have qq := c_iadd j15 (1 : Int32); rw [hv54] at qq; exact qq
        have r54 := rng32 v54
        show Dn p e below s _ _ _ (s₁.setTop (mkF m 57 #[.val (.ref a), .val (.double mm), .second, .val (.int kx), .val (.double FP.dconst0), .second, .val (.ref a), .val (.int (1 : Int32)), .val (.int (0 : Int32)), .val (.double z0), .second, .val (.double v31), .second, .val (.double v51), .second, .val (.int v54)] []))
        refine Dn.st (fun _ kk => XS.goto X0.here hx rfl (pc0 := 57) (pc' := 41) rfl (hb hby d1_57) (by decide) (by decide) (kk)) ?_
        show Dn p e below s _ _ _ (s₁.setTop (mkF m 41 #[.val (.ref a), .val (.double mm), .second, .val (.int kx), .val (.double FP.dconst0), .second, .val (.ref a), .val (.int (1 : Int32)), .val (.int (0 : Int32)), .val (.double z0), .second, .val (.double v31), .second, .val (.double v51), .second, .val (.int v54)] []))
        exact ih (tt + 1) v51 v54 (by omega) (by omega) (d51)
      · have hi44 : ¬ j15.toInt < kx.toInt := fun qq => hc44 (Int32.lt_iff_toInt_lt.mpr qq)
        exfalso
        omega
  exact LP41 kn 0 v31 (1 : Int32) rfl (by omega) (d31)

theorem ef1_rm1_2 (m : MethodId) (x0 : Addr) (x1 : UInt64) (x2 : Int32) : entryFrame m #[(.ref x0), (.double x1), (.int x2)] 16 = mkF m 0 #[.val (.ref x0), .val (.double x1), .second, .val (.int x2), .unset, .unset, .unset, .unset, .unset, .unset, .unset, .unset, .unset, .unset, .unset, .unset] [] := by first | (simp [entryFrame, mkF, argsToLocals, Value.category]; done) | rfl
def Q1_2 (Z : State) (a : Addr) (mm : UInt64) (kx : Int32) (kn : Nat) (ka : ClassId) (z0 z1 : UInt64) (i0 i1 : Int) (im : Int) (h0 : Heap) (n0 : Nat) (v : Option Value) (h : Heap) (L : List Loc) : Prop := ∃ z, v = some (.double z) ∧ DS 0 ((0 + own_pw (i0 - im) kn) + own_pw (i1 - im) kn) z ∧ Fr n0 L ∧ h = h0
set_option maxRecDepth 65536 in
set_option maxHeartbeats 40000000 in
theorem rm1_2 (l : Launch) (Z : State) (a0 : Array Value) (hw : ∀ d ∈ tables_1, d.before a0 Z = true) (ws : List Jvm.Cond) (a : Addr) (mm : UInt64) (kx : Int32) (kn : Nat) (ka : ClassId) (z0 z1 : UInt64) (i0 i1 : Int) (im : Int) (h0 : Heap) (n0 : Nat) (Z0 : n0 ≤ h0.size) (hk : kx.toInt = kn + 1) (hk5 : kn ≤ 5) (Va : Arv Z h0 a ka .double 2 [(.double z0), (.double z1)] (.double 0)) (dm : DS 0 im mm) (dz0 : DS 0 i0 z0) (dz1 : DS 0 i1 z1) (hd0 : -198 ≤ i0 - im ∧ i0 - im ≤ 198) (hd1 : -198 ≤ i1 - im ∧ i1 - im ≤ 198) :
    MetFree l (⟨"com/example/listino/listino/stats/Moments", "sumOfPowers", "([DDI)D"⟩ : MethodName) (head1 (Jvm.Cond.code (⟨"com/example/listino/listino/stats/Moments", "sumOfPowers", "([DDI)D"⟩ : MethodName) prog_51_method_3_code 16 (some .double) :: ws) ({ frames := 0, cells := 0, slots := 0, locals := 0 } : Room)) (fun aa UU => aa = #[(.ref a), (.double mm), (.int kx)] ∧ Z.Warmed39 UU.vm ∧ UU.heap = h0) (fun _ _ _ _ _ => True) (fun _ UU oo UU' => ∃ vv LL, oo = .returned vv ∧ Q1_2 Z a mm kx kn ka z0 z1 i0 i1 im h0 n0 vv UU'.heap LL ∧ FrameEnd UU oo UU' LL ({ frames := 0, cells := 0, slots := 0, locals := 0 } : Room).cells ({ frames := 0, cells := 0, slots := 0, locals := 0 } : Room).slots) := by
  refine MetFree.of_bodySF (plainFor_of_name pn1) hisR ?_
  intro p e s m args below meth c s₁ Bd hml0 hP hK
  obtain ⟨rfl, hZ, hh⟩ := hP
  have hx := Bd.exec
  have hby := Bd.bytes
  have hlk : meth.locks = false := BodyLoose.notSynchronized Bd
  have hret := Bd.returns
  have hml : c.maxLocals = 16 := hml0
  have hown : s.vm.findClass "com/example/listino/listino/stats/Moments" = some m.cls := findClass_of_methodNamed Bd.named
  have hnm := (name_of_methodNamed Bd.named Bd.method).1
  have X0 : Stand p l e ({ frames := 0, cells := 0, slots := 0, locals := 0 } : Room) s m #[(.ref a), (.double mm), (.int kx)] below meth c s₁ [] 0 0 := Stand.of_body Bd
  have e0 : s₁.heap = h0 := by rw [← hh, Bd.state]; rfl
  have N0 := Fr.nil n0
  have r_kx := rng32 kx
  show Dn p e below s (Q1_2 Z a mm kx kn ka z0 z1 i0 i1 im h0 n0) ({ frames := 0, cells := 0, slots := 0, locals := 0 } : Room).cells ({ frames := 0, cells := 0, slots := 0, locals := 0 } : Room).slots (s₁.setTop (entryFrame m #[(.ref a), (.double mm), (.int kx)] 16))
  refine Dn.st (fun _ kk => castTop (ef1_rm1_2 m a mm kx) kk) ?_
  show Dn p e below s _ _ _ (s₁.setTop (mkF m 0 #[.val (.ref a), .val (.double mm), .second, .val (.int kx), .unset, .unset, .unset, .unset, .unset, .unset, .unset, .unset, .unset, .unset, .unset, .unset] []))
  refine Dn.st (fun _ kk => XS.dconst0 X0.here hx rfl (hb hby d1_0) rfl (XS.dstore X0.here hx rfl (hb hby d1_1) rfl (l' := #[.val (.ref a), .val (.double mm), .second, .val (.int kx), .val (.double FP.dconst0), .second, .unset, .unset, .unset, .unset, .unset, .unset, .unset, .unset, .unset, .unset]) rfl (XS.aloadN X0.here hx rfl (hb hby d1_3) rfl rfl (XS.astore X0.here hx rfl (hb hby d1_4) rfl rfl (l' := #[.val (.ref a), .val (.double mm), .second, .val (.int kx), .val (.double FP.dconst0), .second, .val (.ref a), .unset, .unset, .unset, .unset, .unset, .unset, .unset, .unset, .unset]) rfl (XS.aload X0.here hx rfl (hb hby d1_6) rfl rfl (kk)))))) ?_
  show Dn p e below s _ _ _ (s₁.setTop (mkF m 8 #[.val (.ref a), .val (.double mm), .second, .val (.int kx), .val (.double FP.dconst0), .second, .val (.ref a), .unset, .unset, .unset, .unset, .unset, .unset, .unset, .unset, .unset] [(.ref a)]))
  have Vc_a_8 := Va
  obtain ⟨cl_a_8, Ar_a_8, q_a_8, S_a_8, N_a_8, H_a_8, G_a_8⟩ := Vc_a_8
  refine Dn.st (fun _ kk => X0.arraylength hx (by rw [e0]; exact Ar_a_8.1) (State.isArrayOf_alike hZ.alike Ar_a_8.2.1) (g := (mkF m 8 #[.val (.ref a), .val (.double mm), .second, .val (.int kx), .val (.double FP.dconst0), .second, .val (.ref a), .unset, .unset, .unset, .unset, .unset, .unset, .unset, .unset, .unset] [(.ref a)])) rfl rfl (hb hby d1_8) _ (kk)) ?_
  show Dn p e below s _ _ _ (s₁.setTop (mkF m 9 #[.val (.ref a), .val (.double mm), .second, .val (.int kx), .val (.double FP.dconst0), .second, .val (.ref a), .unset, .unset, .unset, .unset, .unset, .unset, .unset, .unset, .unset] [(.int cl_a_8.slots.size.toInt32)]))
  rw [len_of S_a_8 N_a_8]
  show Dn p e below s _ _ _ (s₁.setTop (mkF m 9 #[.val (.ref a), .val (.double mm), .second, .val (.int kx), .val (.double FP.dconst0), .second, .val (.ref a), .unset, .unset, .unset, .unset, .unset, .unset, .unset, .unset, .unset] [(.int (2 : Int32))]))
  refine Dn.st (fun _ kk => XS.istore X0.here hx rfl (hb hby d1_9) rfl (l' := #[.val (.ref a), .val (.double mm), .second, .val (.int kx), .val (.double FP.dconst0), .second, .val (.ref a), .val (.int (2 : Int32)), .unset, .unset, .unset, .unset, .unset, .unset, .unset, .unset]) rfl (XS.iconst X0.here hx rfl (hb hby d1_11) (XS.istore X0.here hx rfl (hb hby d1_12) rfl (l' := #[.val (.ref a), .val (.double mm), .second, .val (.int kx), .val (.double FP.dconst0), .second, .val (.ref a), .val (.int (2 : Int32)), .val (.int (0 : Int32)), .unset, .unset, .unset, .unset, .unset, .unset, .unset]) rfl (XS.iload X0.here hx rfl (hb hby d1_14) rfl  (XS.iload X0.here hx rfl (hb hby d1_16) rfl  (kk)))))) ?_
  show Dn p e below s _ _ _ (s₁.setTop (mkF m 18 #[.val (.ref a), .val (.double mm), .second, .val (.int kx), .val (.double FP.dconst0), .second, .val (.ref a), .val (.int (2 : Int32)), .val (.int (0 : Int32)), .unset, .unset, .unset, .unset, .unset, .unset, .unset] [(.int (2 : Int32)), (.int (0 : Int32))]))
  have hc18 : (0 : Int32) < (2 : Int32) := by decide
  refine Dn.st (fun _ kk => XS.icmpNo X0.here hx rfl (hb hby d1_18) rfl (tlt hc18).2.1 (XS.aload X0.here hx rfl (hb hby d1_21) rfl rfl (XS.iload X0.here hx rfl (hb hby d1_23) rfl  (kk)))) ?_
  show Dn p e below s _ _ _ (s₁.setTop (mkF m 25 #[.val (.ref a), .val (.double mm), .second, .val (.int kx), .val (.double FP.dconst0), .second, .val (.ref a), .val (.int (2 : Int32)), .val (.int (0 : Int32)), .unset, .unset, .unset, .unset, .unset, .unset, .unset] [(.int (0 : Int32)), (.ref a)]))
  have Vc_a_25 := Va
  obtain ⟨cl_a_25, Ar_a_25, q_a_25, S_a_25, N_a_25, H_a_25, G_a_25⟩ := Vc_a_25
  have hin25 : ¬ ((0 : Int32) < 0 ∨ cl_a_25.slots.size ≤ ((0 : Int32)).toNatClampNeg) := inb_of S_a_25 ⟨by decide, by decide⟩
  have hat25 : cl_a_25.slots[((0 : Int32)).toNatClampNeg]? = some (.double z0) := H_a_25.at hin25 rfl
  refine Dn.st (fun _ kk => X0.daload hx (j := (0 : Int32)) (v := (.double z0)) (by rw [e0]; exact Ar_a_25.1) (State.isArrayOf_alike hZ.alike Ar_a_25.2.1) Ar_a_25.2.2 hin25 hat25 (g := (mkF m 25 #[.val (.ref a), .val (.double mm), .second, .val (.int kx), .val (.double FP.dconst0), .second, .val (.ref a), .val (.int (2 : Int32)), .val (.int (0 : Int32)), .unset, .unset, .unset, .unset, .unset, .unset, .unset] [(.int (0 : Int32)), (.ref a)])) rfl rfl (hb hby d1_25) _ (XS.dstore X0.here hx rfl (hb hby d1_26) rfl (l' := #[.val (.ref a), .val (.double mm), .second, .val (.int kx), .val (.double FP.dconst0), .second, .val (.ref a), .val (.int (2 : Int32)), .val (.int (0 : Int32)), .val (.double z0), .second, .unset, .unset, .unset, .unset, .unset]) rfl (XS.dload X0.here hx rfl (hb hby d1_28) rfl  (XS.dloadN X0.here hx rfl (hb hby d1_30) rfl  (kk))))) ?_
  show Dn p e below s _ _ _ (s₁.setTop (mkF m 31 #[.val (.ref a), .val (.double mm), .second, .val (.int kx), .val (.double FP.dconst0), .second, .val (.ref a), .val (.int (2 : Int32)), .val (.int (0 : Int32)), .val (.double z0), .second, .unset, .unset, .unset, .unset, .unset] [(.double mm), (.double z0)]))
  have d31 : DS 0 (i0 - im) (FP.dsub z0 mm) := DS.sub dz0 dm (by omega) (by decide)
  refine Dn.st (fun _ kk => XS.dsubS X0.here hx rfl (hb hby d1_31) rfl d31.nn rfl (kk)) ?_
  show Dn p e below s _ _ _ (s₁.setTop (mkF m 32 #[.val (.ref a), .val (.double mm), .second, .val (.int kx), .val (.double FP.dconst0), .second, .val (.ref a), .val (.int (2 : Int32)), .val (.int (0 : Int32)), .val (.double z0), .second, .unset, .unset, .unset, .unset, .unset] [(.double (FP.dsub z0 mm))]))
  generalize hv31 : ((FP.dsub z0 mm) : UInt64) = v31 at d31 ⊢
  show Dn p e below s _ _ _ (s₁.setTop (mkF m 32 #[.val (.ref a), .val (.double mm), .second, .val (.int kx), .val (.double FP.dconst0), .second, .val (.ref a), .val (.int (2 : Int32)), .val (.int (0 : Int32)), .val (.double z0), .second, .unset, .unset, .unset, .unset, .unset] [(.double v31)]))
  refine Dn.st (fun _ kk => XS.dstore X0.here hx rfl (hb hby d1_32) rfl (l' := #[.val (.ref a), .val (.double mm), .second, .val (.int kx), .val (.double FP.dconst0), .second, .val (.ref a), .val (.int (2 : Int32)), .val (.int (0 : Int32)), .val (.double z0), .second, .val (.double v31), .second, .unset, .unset, .unset]) rfl (XS.dload X0.here hx rfl (hb hby d1_34) rfl  (XS.dstore X0.here hx rfl (hb hby d1_36) rfl (l' := #[.val (.ref a), .val (.double mm), .second, .val (.int kx), .val (.double FP.dconst0), .second, .val (.ref a), .val (.int (2 : Int32)), .val (.int (0 : Int32)), .val (.double z0), .second, .val (.double v31), .second, .val (.double v31), .second, .unset]) rfl (XS.iconst X0.here hx rfl (hb hby d1_38) (XS.istore X0.here hx rfl (hb hby d1_39) rfl (l' := #[.val (.ref a), .val (.double mm), .second, .val (.int kx), .val (.double FP.dconst0), .second, .val (.ref a), .val (.int (2 : Int32)), .val (.int (0 : Int32)), .val (.double z0), .second, .val (.double v31), .second, .val (.double v31), .second, .val (.int (1 : Int32))]) rfl (kk)))))) ?_
  show Dn p e below s _ _ _ (s₁.setTop (mkF m 41 #[.val (.ref a), .val (.double mm), .second, .val (.int kx), .val (.double FP.dconst0), .second, .val (.ref a), .val (.int (2 : Int32)), .val (.int (0 : Int32)), .val (.double z0), .second, .val (.double v31), .second, .val (.double v31), .second, .val (.int (1 : Int32))] []))
  have LP41 : ∀ (rr : Nat) (tt : Nat) (a13 : UInt64) (j15 : Int32), (j15.toInt = tt + 1) → (tt + rr = kn) → (DS 0 (own_pw (i0 - im) tt) a13) → Dn p e below s (Q1_2 Z a mm kx kn ka z0 z1 i0 i1 im h0 n0) ({ frames := 0, cells := 0, slots := 0, locals := 0 } : Room).cells ({ frames := 0, cells := 0, slots := 0, locals := 0 } : Room).slots (s₁.setTop (mkF m 41 #[.val (.ref a), .val (.double mm), .second, .val (.int kx), .val (.double FP.dconst0), .second, .val (.ref a), .val (.int (2 : Int32)), .val (.int (0 : Int32)), .val (.double z0), .second, .val (.double v31), .second, .val (.double a13), .second, .val (.int j15)] [])) := by
    intro rr
    induction rr with
    | zero =>
      intro tt a13 j15 hj hr da
      have r_j15 := rng32 j15
      have pt := own_p6 hd0.1 hd0.2 (t := tt) (by omega)
      show Dn p e below s _ _ _ (s₁.setTop (mkF m 41 #[.val (.ref a), .val (.double mm), .second, .val (.int kx), .val (.double FP.dconst0), .second, .val (.ref a), .val (.int (2 : Int32)), .val (.int (0 : Int32)), .val (.double z0), .second, .val (.double v31), .second, .val (.double a13), .second, .val (.int j15)] []))
      refine Dn.st (fun _ kk => XS.iload X0.here hx rfl (hb hby d1_41) rfl  (XS.iloadN X0.here hx rfl (hb hby d1_43) rfl  (kk))) ?_
      show Dn p e below s _ _ _ (s₁.setTop (mkF m 44 #[.val (.ref a), .val (.double mm), .second, .val (.int kx), .val (.double FP.dconst0), .second, .val (.ref a), .val (.int (2 : Int32)), .val (.int (0 : Int32)), .val (.double z0), .second, .val (.double v31), .second, .val (.double a13), .second, .val (.int j15)] [(.int kx), (.int j15)]))
      by_cases hc44 : j15 < kx
      · have hi44 : j15.toInt < kx.toInt := Int32.lt_iff_toInt_lt.mp hc44
        exfalso
        omega
      · have hi44 : ¬ j15.toInt < kx.toInt := fun qq => hc44 (Int32.lt_iff_toInt_lt.mpr qq)
        refine Dn.st (fun _ kk => XS.icmpYes X0.here hx rfl (pc0 := 44) (pc' := 60) rfl (hb hby d1_44) rfl (flt hc44).2.1 (by decide) (by decide) (XS.dload X0.here hx rfl (hb hby d1_60) rfl  (XS.dload X0.here hx rfl (hb hby d1_62) rfl  (kk)))) ?_
        show Dn p e below s _ _ _ (s₁.setTop (mkF m 64 #[.val (.ref a), .val (.double mm), .second, .val (.int kx), .val (.double FP.dconst0), .second, .val (.ref a), .val (.int (2 : Int32)), .val (.int (0 : Int32)), .val (.double z0), .second, .val (.double v31), .second, .val (.double a13), .second, .val (.int j15)] [(.double a13), (.double FP.dconst0)]))
        have hkt0 : tt = kn := by omega
        have pk0 := own_p6 hd0.1 hd0.2 (t := kn) (by omega)
        rw [hkt0] at da
        have d64 : DS 0 (0 + own_pw (i0 - im) kn) (FP.dadd FP.dconst0 a13) := DS.add (k := 0) dc_0 da (by omega) (by decide)
        refine Dn.st (fun _ kk => XS.daddS X0.here hx rfl (hb hby d1_64) rfl d64.nn rfl (kk)) ?_
        show Dn p e below s _ _ _ (s₁.setTop (mkF m 65 #[.val (.ref a), .val (.double mm), .second, .val (.int kx), .val (.double FP.dconst0), .second, .val (.ref a), .val (.int (2 : Int32)), .val (.int (0 : Int32)), .val (.double z0), .second, .val (.double v31), .second, .val (.double a13), .second, .val (.int j15)] [(.double (FP.dadd FP.dconst0 a13))]))
        generalize hv64 : ((FP.dadd FP.dconst0 a13) : UInt64) = v64 at d64 ⊢
        show Dn p e below s _ _ _ (s₁.setTop (mkF m 65 #[.val (.ref a), .val (.double mm), .second, .val (.int kx), .val (.double FP.dconst0), .second, .val (.ref a), .val (.int (2 : Int32)), .val (.int (0 : Int32)), .val (.double z0), .second, .val (.double v31), .second, .val (.double a13), .second, .val (.int j15)] [(.double v64)]))
        refine Dn.st (fun _ kk => XS.dstore X0.here hx rfl (hb hby d1_65) rfl (l' := #[.val (.ref a), .val (.double mm), .second, .val (.int kx), .val (.double v64), .second, .val (.ref a), .val (.int (2 : Int32)), .val (.int (0 : Int32)), .val (.double z0), .second, .val (.double v31), .second, .val (.double a13), .second, .val (.int j15)]) rfl (XS.iinc X0.here hx rfl (hb hby d1_67) rfl (l' := #[.val (.ref a), .val (.double mm), .second, .val (.int kx), .val (.double v64), .second, .val (.ref a), .val (.int (2 : Int32)), .val (.int (1 : Int32)), .val (.double z0), .second, .val (.double v31), .second, .val (.double a13), .second, .val (.int j15)]) rfl (XS.goto X0.here hx rfl (pc0 := 70) (pc' := 14) rfl (hb hby d1_70) (by decide) (by decide) (XS.iload X0.here hx rfl (hb hby d1_14) rfl  (XS.iload X0.here hx rfl (hb hby d1_16) rfl  (kk)))))) ?_
        show Dn p e below s _ _ _ (s₁.setTop (mkF m 18 #[.val (.ref a), .val (.double mm), .second, .val (.int kx), .val (.double v64), .second, .val (.ref a), .val (.int (2 : Int32)), .val (.int (1 : Int32)), .val (.double z0), .second, .val (.double v31), .second, .val (.double a13), .second, .val (.int j15)] [(.int (2 : Int32)), (.int (1 : Int32))]))
        have hc18_2 : (1 : Int32) < (2 : Int32) := by decide
        refine Dn.st (fun _ kk => XS.icmpNo X0.here hx rfl (hb hby d1_18) rfl (tlt hc18_2).2.1 (XS.aload X0.here hx rfl (hb hby d1_21) rfl rfl (XS.iload X0.here hx rfl (hb hby d1_23) rfl  (kk)))) ?_
        show Dn p e below s _ _ _ (s₁.setTop (mkF m 25 #[.val (.ref a), .val (.double mm), .second, .val (.int kx), .val (.double v64), .second, .val (.ref a), .val (.int (2 : Int32)), .val (.int (1 : Int32)), .val (.double z0), .second, .val (.double v31), .second, .val (.double a13), .second, .val (.int j15)] [(.int (1 : Int32)), (.ref a)]))
        have Vc_a_25_2 := Va
        obtain ⟨cl_a_25_2, Ar_a_25_2, q_a_25_2, S_a_25_2, N_a_25_2, H_a_25_2, G_a_25_2⟩ := Vc_a_25_2
        have hin25_2 : ¬ ((1 : Int32) < 0 ∨ cl_a_25_2.slots.size ≤ ((1 : Int32)).toNatClampNeg) := inb_of S_a_25_2 ⟨by decide, by decide⟩
        have hat25_2 : cl_a_25_2.slots[((1 : Int32)).toNatClampNeg]? = some (.double z1) := H_a_25_2.at hin25_2 rfl
        refine Dn.st (fun _ kk => X0.daload hx (j := (1 : Int32)) (v := (.double z1)) (by rw [e0]; exact Ar_a_25_2.1) (State.isArrayOf_alike hZ.alike Ar_a_25_2.2.1) Ar_a_25_2.2.2 hin25_2 hat25_2 (g := (mkF m 25 #[.val (.ref a), .val (.double mm), .second, .val (.int kx), .val (.double v64), .second, .val (.ref a), .val (.int (2 : Int32)), .val (.int (1 : Int32)), .val (.double z0), .second, .val (.double v31), .second, .val (.double a13), .second, .val (.int j15)] [(.int (1 : Int32)), (.ref a)])) rfl rfl (hb hby d1_25) _ (XS.dstore X0.here hx rfl (hb hby d1_26) rfl (l' := #[.val (.ref a), .val (.double mm), .second, .val (.int kx), .val (.double v64), .second, .val (.ref a), .val (.int (2 : Int32)), .val (.int (1 : Int32)), .val (.double z1), .second, .val (.double v31), .second, .val (.double a13), .second, .val (.int j15)]) rfl (XS.dload X0.here hx rfl (hb hby d1_28) rfl  (XS.dloadN X0.here hx rfl (hb hby d1_30) rfl  (kk))))) ?_
        show Dn p e below s _ _ _ (s₁.setTop (mkF m 31 #[.val (.ref a), .val (.double mm), .second, .val (.int kx), .val (.double v64), .second, .val (.ref a), .val (.int (2 : Int32)), .val (.int (1 : Int32)), .val (.double z1), .second, .val (.double v31), .second, .val (.double a13), .second, .val (.int j15)] [(.double mm), (.double z1)]))
        have d31_2 : DS 0 (i1 - im) (FP.dsub z1 mm) := DS.sub dz1 dm (by omega) (by decide)
        refine Dn.st (fun _ kk => XS.dsubS X0.here hx rfl (hb hby d1_31) rfl d31_2.nn rfl (kk)) ?_
        show Dn p e below s _ _ _ (s₁.setTop (mkF m 32 #[.val (.ref a), .val (.double mm), .second, .val (.int kx), .val (.double v64), .second, .val (.ref a), .val (.int (2 : Int32)), .val (.int (1 : Int32)), .val (.double z1), .second, .val (.double v31), .second, .val (.double a13), .second, .val (.int j15)] [(.double (FP.dsub z1 mm))]))
        generalize hv31_2 : ((FP.dsub z1 mm) : UInt64) = v31_2 at d31_2 ⊢
        show Dn p e below s _ _ _ (s₁.setTop (mkF m 32 #[.val (.ref a), .val (.double mm), .second, .val (.int kx), .val (.double v64), .second, .val (.ref a), .val (.int (2 : Int32)), .val (.int (1 : Int32)), .val (.double z1), .second, .val (.double v31), .second, .val (.double a13), .second, .val (.int j15)] [(.double v31_2)]))
        refine Dn.st (fun _ kk => XS.dstore X0.here hx rfl (hb hby d1_32) rfl (l' := #[.val (.ref a), .val (.double mm), .second, .val (.int kx), .val (.double v64), .second, .val (.ref a), .val (.int (2 : Int32)), .val (.int (1 : Int32)), .val (.double z1), .second, .val (.double v31_2), .second, .val (.double a13), .second, .val (.int j15)]) rfl (XS.dload X0.here hx rfl (hb hby d1_34) rfl  (XS.dstore X0.here hx rfl (hb hby d1_36) rfl (l' := #[.val (.ref a), .val (.double mm), .second, .val (.int kx), .val (.double v64), .second, .val (.ref a), .val (.int (2 : Int32)), .val (.int (1 : Int32)), .val (.double z1), .second, .val (.double v31_2), .second, .val (.double v31_2), .second, .val (.int j15)]) rfl (XS.iconst X0.here hx rfl (hb hby d1_38) (XS.istore X0.here hx rfl (hb hby d1_39) rfl (l' := #[.val (.ref a), .val (.double mm), .second, .val (.int kx), .val (.double v64), .second, .val (.ref a), .val (.int (2 : Int32)), .val (.int (1 : Int32)), .val (.double z1), .second, .val (.double v31_2), .second, .val (.double v31_2), .second, .val (.int (1 : Int32))]) rfl (kk)))))) ?_
        show Dn p e below s _ _ _ (s₁.setTop (mkF m 41 #[.val (.ref a), .val (.double mm), .second, .val (.int kx), .val (.double v64), .second, .val (.ref a), .val (.int (2 : Int32)), .val (.int (1 : Int32)), .val (.double z1), .second, .val (.double v31_2), .second, .val (.double v31_2), .second, .val (.int (1 : Int32))] []))
        have LP41_2 : ∀ (rr : Nat) (tt : Nat) (a13 : UInt64) (j15 : Int32), (j15.toInt = tt + 1) → (tt + rr = kn) → (DS 0 (own_pw (i1 - im) tt) a13) → Dn p e below s (Q1_2 Z a mm kx kn ka z0 z1 i0 i1 im h0 n0) ({ frames := 0, cells := 0, slots := 0, locals := 0 } : Room).cells ({ frames := 0, cells := 0, slots := 0, locals := 0 } : Room).slots (s₁.setTop (mkF m 41 #[.val (.ref a), .val (.double mm), .second, .val (.int kx), .val (.double v64), .second, .val (.ref a), .val (.int (2 : Int32)), .val (.int (1 : Int32)), .val (.double z1), .second, .val (.double v31_2), .second, .val (.double a13), .second, .val (.int j15)] [])) := by
          intro rr
          induction rr with
          | zero =>
            intro tt a13 j15 hj hr da
            have r_j15 := rng32 j15
            have pt := own_p6 hd1.1 hd1.2 (t := tt) (by omega)
            show Dn p e below s _ _ _ (s₁.setTop (mkF m 41 #[.val (.ref a), .val (.double mm), .second, .val (.int kx), .val (.double v64), .second, .val (.ref a), .val (.int (2 : Int32)), .val (.int (1 : Int32)), .val (.double z1), .second, .val (.double v31_2), .second, .val (.double a13), .second, .val (.int j15)] []))
            refine Dn.st (fun _ kk => XS.iload X0.here hx rfl (hb hby d1_41) rfl  (XS.iloadN X0.here hx rfl (hb hby d1_43) rfl  (kk))) ?_
            show Dn p e below s _ _ _ (s₁.setTop (mkF m 44 #[.val (.ref a), .val (.double mm), .second, .val (.int kx), .val (.double v64), .second, .val (.ref a), .val (.int (2 : Int32)), .val (.int (1 : Int32)), .val (.double z1), .second, .val (.double v31_2), .second, .val (.double a13), .second, .val (.int j15)] [(.int kx), (.int j15)]))
            by_cases hc44_2 : j15 < kx
            · have hi44_2 : j15.toInt < kx.toInt := Int32.lt_iff_toInt_lt.mp hc44_2
              exfalso
              omega
            · have hi44_2 : ¬ j15.toInt < kx.toInt := fun qq => hc44_2 (Int32.lt_iff_toInt_lt.mpr qq)
              refine Dn.st (fun _ kk => XS.icmpYes X0.here hx rfl (pc0 := 44) (pc' := 60) rfl (hb hby d1_44) rfl (flt hc44_2).2.1 (by decide) (by decide) (XS.dload X0.here hx rfl (hb hby d1_60) rfl  (XS.dload X0.here hx rfl (hb hby d1_62) rfl  (kk)))) ?_
              show Dn p e below s _ _ _ (s₁.setTop (mkF m 64 #[.val (.ref a), .val (.double mm), .second, .val (.int kx), .val (.double v64), .second, .val (.ref a), .val (.int (2 : Int32)), .val (.int (1 : Int32)), .val (.double z1), .second, .val (.double v31_2), .second, .val (.double a13), .second, .val (.int j15)] [(.double a13), (.double v64)]))
              have hkt1 : tt = kn := by omega
              have pk1 := own_p6 hd1.1 hd1.2 (t := kn) (by omega)
              rw [hkt1] at da
              have d64_2 : DS 0 ((0 + own_pw (i0 - im) kn) + own_pw (i1 - im) kn) (FP.dadd v64 a13) := DS.add (k := 0) d64 da (by omega) (by decide)
              refine Dn.st (fun _ kk => XS.daddS X0.here hx rfl (hb hby d1_64) rfl d64_2.nn rfl (kk)) ?_
              show Dn p e below s _ _ _ (s₁.setTop (mkF m 65 #[.val (.ref a), .val (.double mm), .second, .val (.int kx), .val (.double v64), .second, .val (.ref a), .val (.int (2 : Int32)), .val (.int (1 : Int32)), .val (.double z1), .second, .val (.double v31_2), .second, .val (.double a13), .second, .val (.int j15)] [(.double (FP.dadd v64 a13))]))
              generalize hv64_2 : ((FP.dadd v64 a13) : UInt64) = v64_2 at d64_2 ⊢
              show Dn p e below s _ _ _ (s₁.setTop (mkF m 65 #[.val (.ref a), .val (.double mm), .second, .val (.int kx), .val (.double v64), .second, .val (.ref a), .val (.int (2 : Int32)), .val (.int (1 : Int32)), .val (.double z1), .second, .val (.double v31_2), .second, .val (.double a13), .second, .val (.int j15)] [(.double v64_2)]))
              refine Dn.st (fun _ kk => XS.dstore X0.here hx rfl (hb hby d1_65) rfl (l' := #[.val (.ref a), .val (.double mm), .second, .val (.int kx), .val (.double v64_2), .second, .val (.ref a), .val (.int (2 : Int32)), .val (.int (1 : Int32)), .val (.double z1), .second, .val (.double v31_2), .second, .val (.double a13), .second, .val (.int j15)]) rfl (XS.iinc X0.here hx rfl (hb hby d1_67) rfl (l' := #[.val (.ref a), .val (.double mm), .second, .val (.int kx), .val (.double v64_2), .second, .val (.ref a), .val (.int (2 : Int32)), .val (.int (2 : Int32)), .val (.double z1), .second, .val (.double v31_2), .second, .val (.double a13), .second, .val (.int j15)]) rfl (XS.goto X0.here hx rfl (pc0 := 70) (pc' := 14) rfl (hb hby d1_70) (by decide) (by decide) (XS.iload X0.here hx rfl (hb hby d1_14) rfl  (XS.iload X0.here hx rfl (hb hby d1_16) rfl  (kk)))))) ?_
              show Dn p e below s _ _ _ (s₁.setTop (mkF m 18 #[.val (.ref a), .val (.double mm), .second, .val (.int kx), .val (.double v64_2), .second, .val (.ref a), .val (.int (2 : Int32)), .val (.int (2 : Int32)), .val (.double z1), .second, .val (.double v31_2), .second, .val (.double a13), .second, .val (.int j15)] [(.int (2 : Int32)), (.int (2 : Int32))]))
              have hc18_3 : ¬ ((2 : Int32) < (2 : Int32)) := by decide
              refine Dn.st (fun _ kk => XS.icmpYes X0.here hx rfl (pc0 := 18) (pc' := 73) rfl (hb hby d1_18) rfl (flt hc18_3).2.1 (by decide) (by decide) (XS.dload X0.here hx rfl (hb hby d1_73) rfl  (kk))) ?_
              show Dn p e below s _ _ _ (s₁.setTop (mkF m 75 #[.val (.ref a), .val (.double mm), .second, .val (.int kx), .val (.double v64_2), .second, .val (.ref a), .val (.int (2 : Int32)), .val (.int (2 : Int32)), .val (.double z1), .second, .val (.double v31_2), .second, .val (.double a13), .second, .val (.int j15)] [(.double v64_2)]))
              exact Dn.ret X0 hlk hx hret rfl (Or.inr (Or.inr (Or.inl ⟨rfl, rfl, _, rfl⟩))) (hb hby d1_75) (by rw [e0]; exact ⟨_, rfl, d64_2, N0, rfl⟩) (by decide) (by decide)
          | succ rr ih =>
            intro tt a13 j15 hj hr da
            have r_j15 := rng32 j15
            have pt := own_p6 hd1.1 hd1.2 (t := tt) (by omega)
            have pt1 := own_p6 hd1.1 hd1.2 (t := tt + 1) (by omega)
            show Dn p e below s _ _ _ (s₁.setTop (mkF m 41 #[.val (.ref a), .val (.double mm), .second, .val (.int kx), .val (.double v64), .second, .val (.ref a), .val (.int (2 : Int32)), .val (.int (1 : Int32)), .val (.double z1), .second, .val (.double v31_2), .second, .val (.double a13), .second, .val (.int j15)] []))
            refine Dn.st (fun _ kk => XS.iload X0.here hx rfl (hb hby d1_41) rfl  (XS.iloadN X0.here hx rfl (hb hby d1_43) rfl  (kk))) ?_
            show Dn p e below s _ _ _ (s₁.setTop (mkF m 44 #[.val (.ref a), .val (.double mm), .second, .val (.int kx), .val (.double v64), .second, .val (.ref a), .val (.int (2 : Int32)), .val (.int (1 : Int32)), .val (.double z1), .second, .val (.double v31_2), .second, .val (.double a13), .second, .val (.int j15)] [(.int kx), (.int j15)]))
            by_cases hc44_2 : j15 < kx
            · have hi44_2 : j15.toInt < kx.toInt := Int32.lt_iff_toInt_lt.mp hc44_2
              refine Dn.st (fun _ kk => XS.icmpNo X0.here hx rfl (hb hby d1_44) rfl (tlt hc44_2).2.1 (XS.dload X0.here hx rfl (hb hby d1_47) rfl  (XS.dload X0.here hx rfl (hb hby d1_49) rfl  (kk)))) ?_
              show Dn p e below s _ _ _ (s₁.setTop (mkF m 51 #[.val (.ref a), .val (.double mm), .second, .val (.int kx), .val (.double v64), .second, .val (.ref a), .val (.int (2 : Int32)), .val (.int (1 : Int32)), .val (.double z1), .second, .val (.double v31_2), .second, .val (.double a13), .second, .val (.int j15)] [(.double v31_2), (.double a13)]))
              have d51 : DS 0 (own_pw (i1 - im) (tt + 1)) (FP.dmul a13 v31_2) := DS.mul (k := 0) (m := 0) da d31_2 (by show (own_pw (i1 - im) (tt + 1)).natAbs ≤ _; omega) (by decide)
              refine Dn.st (fun _ kk => XS.dmulS X0.here hx rfl (hb hby d1_51) rfl d51.nn rfl (kk)) ?_
              show Dn p e below s _ _ _ (s₁.setTop (mkF m 52 #[.val (.ref a), .val (.double mm), .second, .val (.int kx), .val (.double v64), .second, .val (.ref a), .val (.int (2 : Int32)), .val (.int (1 : Int32)), .val (.double z1), .second, .val (.double v31_2), .second, .val (.double a13), .second, .val (.int j15)] [(.double (FP.dmul a13 v31_2))]))
              generalize hv51 : ((FP.dmul a13 v31_2) : UInt64) = v51 at d51 ⊢
              show Dn p e below s _ _ _ (s₁.setTop (mkF m 52 #[.val (.ref a), .val (.double mm), .second, .val (.int kx), .val (.double v64), .second, .val (.ref a), .val (.int (2 : Int32)), .val (.int (1 : Int32)), .val (.double z1), .second, .val (.double v31_2), .second, .val (.double a13), .second, .val (.int j15)] [(.double v51)]))
              refine Dn.st (fun _ kk => XS.dstore X0.here hx rfl (hb hby d1_52) rfl (l' := #[.val (.ref a), .val (.double mm), .second, .val (.int kx), .val (.double v64), .second, .val (.ref a), .val (.int (2 : Int32)), .val (.int (1 : Int32)), .val (.double z1), .second, .val (.double v31_2), .second, .val (.double v51), .second, .val (.int j15)]) rfl (XS.iinc X0.here hx rfl (hb hby d1_54) rfl (l' := #[.val (.ref a), .val (.double mm), .second, .val (.int kx), .val (.double v64), .second, .val (.ref a), .val (.int (2 : Int32)), .val (.int (1 : Int32)), .val (.double z1), .second, .val (.double v31_2), .second, .val (.double v51), .second, .val (.int (j15 + (1 : Int32)))]) rfl (kk))) ?_
              show Dn p e below s _ _ _ (s₁.setTop (mkF m 57 #[.val (.ref a), .val (.double mm), .second, .val (.int kx), .val (.double v64), .second, .val (.ref a), .val (.int (2 : Int32)), .val (.int (1 : Int32)), .val (.double z1), .second, .val (.double v31_2), .second, .val (.double v51), .second, .val (.int (j15 + (1 : Int32)))] []))
              generalize hv54 : ((j15 + (1 : Int32)) : Int32) = v54
              have q54 : (v54.toInt - (j15.toInt + 1)) % 4294967296 = 0 := by have qq := c_iadd j15 (1 : Int32); rw [hv54] at qq; exact qq
              have r54 := rng32 v54
              show Dn p e below s _ _ _ (s₁.setTop (mkF m 57 #[.val (.ref a), .val (.double mm), .second, .val (.int kx), .val (.double v64), .second, .val (.ref a), .val (.int (2 : Int32)), .val (.int (1 : Int32)), .val (.double z1), .second, .val (.double v31_2), .second, .val (.double v51), .second, .val (.int v54)] []))
              refine Dn.st (fun _ kk => XS.goto X0.here hx rfl (pc0 := 57) (pc' := 41) rfl (hb hby d1_57) (by decide) (by decide) (kk)) ?_
              show Dn p e below s _ _ _ (s₁.setTop (mkF m 41 #[.val (.ref a), .val (.double mm), .second, .val (.int kx), .val (.double v64), .second, .val (.ref a), .val (.int (2 : Int32)), .val (.int (1 : Int32)), .val (.double z1), .second, .val (.double v31_2), .second, .val (.double v51), .second, .val (.int v54)] []))
              exact ih (tt + 1) v51 v54 (by omega) (by omega) (d51)
            · have hi44_2 : ¬ j15.toInt < kx.toInt := fun qq => hc44_2 (Int32.lt_iff_toInt_lt.mpr qq)
              exfalso
              omega
        exact LP41_2 kn 0 v31_2 (1 : Int32) rfl (by omega) (d31_2)
    | succ rr ih =>
      intro tt a13 j15 hj hr da
      have r_j15 := rng32 j15
      have pt := own_p6 hd0.1 hd0.2 (t := tt) (by omega)
      have pt1 := own_p6 hd0.1 hd0.2 (t := tt + 1) (by omega)
      show Dn p e below s _ _ _ (s₁.setTop (mkF m 41 #[.val (.ref a), .val (.double mm), .second, .val (.int kx), .val (.double FP.dconst0), .second, .val (.ref a), .val (.int (2 : Int32)), .val (.int (0 : Int32)), .val (.double z0), .second, .val (.double v31), .second, .val (.double a13), .second, .val (.int j15)] []))
      refine Dn.st (fun _ kk => XS.iload X0.here hx rfl (hb hby d1_41) rfl  (XS.iloadN X0.here hx rfl (hb hby d1_43) rfl  (kk))) ?_
      show Dn p e below s _ _ _ (s₁.setTop (mkF m 44 #[.val (.ref a), .val (.double mm), .second, .val (.int kx), .val (.double FP.dconst0), .second, .val (.ref a), .val (.int (2 : Int32)), .val (.int (0 : Int32)), .val (.double z0), .second, .val (.double v31), .second, .val (.double a13), .second, .val (.int j15)] [(.int kx), (.int j15)]))
      by_cases hc44 : j15 < kx
      · have hi44 : j15.toInt < kx.toInt := Int32.lt_iff_toInt_lt.mp hc44
        refine Dn.st (fun _ kk => XS.icmpNo X0.here hx rfl (hb hby d1_44) rfl (tlt hc44).2.1 (XS.dload X0.here hx rfl (hb hby d1_47) rfl  (XS.dload X0.here hx rfl (hb hby d1_49) rfl  (kk)))) ?_
        show Dn p e below s _ _ _ (s₁.setTop (mkF m 51 #[.val (.ref a), .val (.double mm), .second, .val (.int kx), .val (.double FP.dconst0), .second, .val (.ref a), .val (.int (2 : Int32)), .val (.int (0 : Int32)), .val (.double z0), .second, .val (.double v31), .second, .val (.double a13), .second, .val (.int j15)] [(.double v31), (.double a13)]))
        have d51 : DS 0 (own_pw (i0 - im) (tt + 1)) (FP.dmul a13 v31) := DS.mul (k := 0) (m := 0) da d31 (by show (own_pw (i0 - im) (tt + 1)).natAbs ≤ _; omega) (by decide)
        refine Dn.st (fun _ kk => XS.dmulS X0.here hx rfl (hb hby d1_51) rfl d51.nn rfl (kk)) ?_
        show Dn p e below s _ _ _ (s₁.setTop (mkF m 52 #[.val (.ref a), .val (.double mm), .second, .val (.int kx), .val (.double FP.dconst0), .second, .val (.ref a), .val (.int (2 : Int32)), .val (.int (0 : Int32)), .val (.double z0), .second, .val (.double v31), .second, .val (.double a13), .second, .val (.int j15)] [(.double (FP.dmul a13 v31))]))
        generalize hv51 : ((FP.dmul a13 v31) : UInt64) = v51 at d51 ⊢
        show Dn p e below s _ _ _ (s₁.setTop (mkF m 52 #[.val (.ref a), .val (.double mm), .second, .val (.int kx), .val (.double FP.dconst0), .second, .val (.ref a), .val (.int (2 : Int32)), .val (.int (0 : Int32)), .val (.double z0), .second, .val (.double v31), .second, .val (.double a13), .second, .val (.int j15)] [(.double v51)]))
        refine Dn.st (fun _ kk => XS.dstore X0.here hx rfl (hb hby d1_52) rfl (l' := #[.val (.ref a), .val (.double mm), .second, .val (.int kx), .val (.double FP.dconst0), .second, .val (.ref a), .val (.int (2 : Int32)), .val (.int (0 : Int32)), .val (.double z0), .second, .val (.double v31), .second, .val (.double v51), .second, .val (.int j15)]) rfl (XS.iinc X0.here hx rfl (hb hby d1_54) rfl (l' := #[.val (.ref a), .val (.double mm), .second, .val (.int kx), .val (.double FP.dconst0), .second, .val (.ref a), .val (.int (2 : Int32)), .val (.int (0 : Int32)), .val (.double z0), .second, .val (.double v31), .second, .val (.double v51), .second, .val (.int (j15 + (1 : Int32)))]) rfl (kk))) ?_
        show Dn p e below s _ _ _ (s₁.setTop (mkF m 57 #[.val (.ref a), .val (.double mm), .second, .val (.int kx), .val (.double FP.dconst0), .second, .val (.ref a), .val (.int (2 : Int32)), .val (.int (0 : Int32)), .val (.double z0), .second, .val (.double v31), .second, .val (.double v51), .second, .val (.int (j15 + (1 : Int32)))] []))
        generalize hv54 : ((j15 + (1 : Int32)) : Int32) = v54
        have q54 : (v54.toInt - (j15.toInt + 1)) % 4294967296 = 0 := by have qq := c_iadd j15 (1 : Int32); rw [hv54] at qq; exact qq
        have r54 := rng32 v54
        show Dn p e below s _ _ _ (s₁.setTop (mkF m 57 #[.val (.ref a), .val (.double mm), .second, .val (.int kx), .val (.double FP.dconst0), .second, .val (.ref a), .val (.int (2 : Int32)), .val (.int (0 : Int32)), .val (.double z0), .second, .val (.double v31), .second, .val (.double v51), .second, .val (.int v54)] []))
        refine Dn.st (fun _ kk => XS.goto X0.here hx rfl (pc0 := 57) (pc' := 41) rfl (hb hby d1_57) (by decide) (by decide) (kk)) ?_
        show Dn p e below s _ _ _ (s₁.setTop (mkF m 41 #[.val (.ref a), .val (.double mm), .second, .val (.int kx), .val (.double FP.dconst0), .second, .val (.ref a), .val (.int (2 : Int32)), .val (.int (0 : Int32)), .val (.double z0), .second, .val (.double v31), .second, .val (.double v51), .second, .val (.int v54)] []))
        exact ih (tt + 1) v51 v54 (by omega) (by omega) (d51)
      · have hi44 : ¬ j15.toInt < kx.toInt := fun qq => hc44 (Int32.lt_iff_toInt_lt.mpr qq)
        exfalso
        omega
  exact LP41 kn 0 v31 (1 : Int32) rfl (by omega) (d31)

theorem ef1_rm1_3 (m : MethodId) (x0 : Addr) (x1 : UInt64) (x2 : Int32) : entryFrame m #[(.ref x0), (.double x1), (.int x2)] 16 = mkF m 0 #[.val (.ref x0), .val (.double x1), .second, .val (.int x2), .unset, .unset, .unset, .unset, .unset, .unset, .unset, .unset, .unset, .unset, .unset, .unset] [] := by first | (simp [entryFrame, mkF, argsToLocals, Value.category]; done) | rfl
def Q1_3 (Z : State) (a : Addr) (mm : UInt64) (kx : Int32) (kn : Nat) (ka : ClassId) (z0 z1 z2 : UInt64) (i0 i1 i2 : Int) (im : Int) (h0 : Heap) (n0 : Nat) (v : Option Value) (h : Heap) (L : List Loc) : Prop := ∃ z, v = some (.double z) ∧ DS 0 (((0 + own_pw (i0 - im) kn) + own_pw (i1 - im) kn) + own_pw (i2 - im) kn) z ∧ Fr n0 L ∧ h = h0
set_option maxRecDepth 65536 in
set_option maxHeartbeats 40000000 in
theorem rm1_3 (l : Launch) (Z : State) (a0 : Array Value) (hw : ∀ d ∈ tables_1, d.before a0 Z = true) (ws : List Jvm.Cond) (a : Addr) (mm : UInt64) (kx : Int32) (kn : Nat) (ka : ClassId) (z0 z1 z2 : UInt64) (i0 i1 i2 : Int) (im : Int) (h0 : Heap) (n0 : Nat) (Z0 : n0 ≤ h0.size) (hk : kx.toInt = kn + 1) (hk5 : kn ≤ 5) (Va : Arv Z h0 a ka .double 3 [(.double z0), (.double z1), (.double z2)] (.double 0)) (dm : DS 0 im mm) (dz0 : DS 0 i0 z0) (dz1 : DS 0 i1 z1) (dz2 : DS 0 i2 z2) (hd0 : -198 ≤ i0 - im ∧ i0 - im ≤ 198) (hd1 : -198 ≤ i1 - im ∧ i1 - im ≤ 198) (hd2 : -198 ≤ i2 - im ∧ i2 - im ≤ 198) :
    MetFree l (⟨"com/example/listino/listino/stats/Moments", "sumOfPowers", "([DDI)D"⟩ : MethodName) (head1 (Jvm.Cond.code (⟨"com/example/listino/listino/stats/Moments", "sumOfPowers", "([DDI)D"⟩ : MethodName) prog_51_method_3_code 16 (some .double) :: ws) ({ frames := 0, cells := 0, slots := 0, locals := 0 } : Room)) (fun aa UU => aa = #[(.ref a), (.double mm), (.int kx)] ∧ Z.Warmed39 UU.vm ∧ UU.heap = h0) (fun _ _ _ _ _ => True) (fun _ UU oo UU' => ∃ vv LL, oo = .returned vv ∧ Q1_3 Z a mm kx kn ka z0 z1 z2 i0 i1 i2 im h0 n0 vv UU'.heap LL ∧ FrameEnd UU oo UU' LL ({ frames := 0, cells := 0, slots := 0, locals := 0 } : Room).cells ({ frames := 0, cells := 0, slots := 0, locals := 0 } : Room).slots) := by
  refine MetFree.of_bodySF (plainFor_of_name pn1) hisR ?_
  intro p e s m args below meth c s₁ Bd hml0 hP hK
  obtain ⟨rfl, hZ, hh⟩ := hP
  have hx := Bd.exec
  have hby := Bd.bytes
  have hlk : meth.locks = false := BodyLoose.notSynchronized Bd
  have hret := Bd.returns
  have hml : c.maxLocals = 16 := hml0
  have hown : s.vm.findClass "com/example/listino/listino/stats/Moments" = some m.cls := findClass_of_methodNamed Bd.named
  have hnm := (name_of_methodNamed Bd.named Bd.method).1
  have X0 : Stand p l e ({ frames := 0, cells := 0, slots := 0, locals := 0 } : Room) s m #[(.ref a), (.double mm), (.int kx)] below meth c s₁ [] 0 0 := Stand.of_body Bd
  have e0 : s₁.heap = h0 := by rw [← hh, Bd.state]; rfl
  have N0 := Fr.nil n0
  have r_kx := rng32 kx
  show Dn p e below s (Q1_3 Z a mm kx kn ka z0 z1 z2 i0 i1 i2 im h0 n0) ({ frames := 0, cells := 0, slots := 0, locals := 0 } : Room).cells ({ frames := 0, cells := 0, slots := 0, locals := 0 } : Room).slots (s₁.setTop (entryFrame m #[(.ref a), (.double mm), (.int kx)] 16))
  refine Dn.st (fun _ kk => castTop (ef1_rm1_3 m a mm kx) kk) ?_
  show Dn p e below s _ _ _ (s₁.setTop (mkF m 0 #[.val (.ref a), .val (.double mm), .second, .val (.int kx), .unset, .unset, .unset, .unset, .unset, .unset, .unset, .unset, .unset, .unset, .unset, .unset] []))
  refine Dn.st (fun _ kk => XS.dconst0 X0.here hx rfl (hb hby d1_0) rfl (XS.dstore X0.here hx rfl (hb hby d1_1) rfl (l' := #[.val (.ref a), .val (.double mm), .second, .val (.int kx), .val (.double FP.dconst0), .second, .unset, .unset, .unset, .unset, .unset, .unset, .unset, .unset, .unset, .unset]) rfl (XS.aloadN X0.here hx rfl (hb hby d1_3) rfl rfl (XS.astore X0.here hx rfl (hb hby d1_4) rfl rfl (l' := #[.val (.ref a), .val (.double mm), .second, .val (.int kx), .val (.double FP.dconst0), .second, .val (.ref a), .unset, .unset, .unset, .unset, .unset, .unset, .unset, .unset, .unset]) rfl (XS.aload X0.here hx rfl (hb hby d1_6) rfl rfl (kk)))))) ?_
  show Dn p e below s _ _ _ (s₁.setTop (mkF m 8 #[.val (.ref a), .val (.double mm), .second, .val (.int kx), .val (.double FP.dconst0), .second, .val (.ref a), .unset, .unset, .unset, .unset, .unset, .unset, .unset, .unset, .unset] [(.ref a)]))
  have Vc_a_8 := Va
  obtain ⟨cl_a_8, Ar_a_8, q_a_8, S_a_8, N_a_8, H_a_8, G_a_8⟩ := Vc_a_8
  refine Dn.st (fun _ kk => X0.arraylength hx (by rw [e0]; exact Ar_a_8.1) (State.isArrayOf_alike hZ.alike Ar_a_8.2.1) (g := (mkF m 8 #[.val (.ref a), .val (.double mm), .second, .val (.int kx), .val (.double FP.dconst0), .second, .val (.ref a), .unset, .unset, .unset, .unset, .unset, .unset, .unset, .unset, .unset] [(.ref a)])) rfl rfl (hb hby d1_8) _ (kk)) ?_
  show Dn p e below s _ _ _ (s₁.setTop (mkF m 9 #[.val (.ref a), .val (.double mm), .second, .val (.int kx), .val (.double FP.dconst0), .second, .val (.ref a), .unset, .unset, .unset, .unset, .unset, .unset, .unset, .unset, .unset] [(.int cl_a_8.slots.size.toInt32)]))
  rw [len_of S_a_8 N_a_8]
  show Dn p e below s _ _ _ (s₁.setTop (mkF m 9 #[.val (.ref a), .val (.double mm), .second, .val (.int kx), .val (.double FP.dconst0), .second, .val (.ref a), .unset, .unset, .unset, .unset, .unset, .unset, .unset, .unset, .unset] [(.int (3 : Int32))]))
  refine Dn.st (fun _ kk => XS.istore X0.here hx rfl (hb hby d1_9) rfl (l' := #[.val (.ref a), .val (.double mm), .second, .val (.int kx), .val (.double FP.dconst0), .second, .val (.ref a), .val (.int (3 : Int32)), .unset, .unset, .unset, .unset, .unset, .unset, .unset, .unset]) rfl (XS.iconst X0.here hx rfl (hb hby d1_11) (XS.istore X0.here hx rfl (hb hby d1_12) rfl (l' := #[.val (.ref a), .val (.double mm), .second, .val (.int kx), .val (.double FP.dconst0), .second, .val (.ref a), .val (.int (3 : Int32)), .val (.int (0 : Int32)), .unset, .unset, .unset, .unset, .unset, .unset, .unset]) rfl (XS.iload X0.here hx rfl (hb hby d1_14) rfl  (XS.iload X0.here hx rfl (hb hby d1_16) rfl  (kk)))))) ?_
  show Dn p e below s _ _ _ (s₁.setTop (mkF m 18 #[.val (.ref a), .val (.double mm), .second, .val (.int kx), .val (.double FP.dconst0), .second, .val (.ref a), .val (.int (3 : Int32)), .val (.int (0 : Int32)), .unset, .unset, .unset, .unset, .unset, .unset, .unset] [(.int (3 : Int32)), (.int (0 : Int32))]))
  have hc18 : (0 : Int32) < (3 : Int32) := by decide
  refine Dn.st (fun _ kk => XS.icmpNo X0.here hx rfl (hb hby d1_18) rfl (tlt hc18).2.1 (XS.aload X0.here hx rfl (hb hby d1_21) rfl rfl (XS.iload X0.here hx rfl (hb hby d1_23) rfl  (kk)))) ?_
  show Dn p e below s _ _ _ (s₁.setTop (mkF m 25 #[.val (.ref a), .val (.double mm), .second, .val (.int kx), .val (.double FP.dconst0), .second, .val (.ref a), .val (.int (3 : Int32)), .val (.int (0 : Int32)), .unset, .unset, .unset, .unset, .unset, .unset, .unset] [(.int (0 : Int32)), (.ref a)]))
  have Vc_a_25 := Va
  obtain ⟨cl_a_25, Ar_a_25, q_a_25, S_a_25, N_a_25, H_a_25, G_a_25⟩ := Vc_a_25
  have hin25 : ¬ ((0 : Int32) < 0 ∨ cl_a_25.slots.size ≤ ((0 : Int32)).toNatClampNeg) := inb_of S_a_25 ⟨by decide, by decide⟩
  have hat25 : cl_a_25.slots[((0 : Int32)).toNatClampNeg]? = some (.double z0) := H_a_25.at hin25 rfl
  refine Dn.st (fun _ kk => X0.daload hx (j := (0 : Int32)) (v := (.double z0)) (by rw [e0]; exact Ar_a_25.1) (State.isArrayOf_alike hZ.alike Ar_a_25.2.1) Ar_a_25.2.2 hin25 hat25 (g := (mkF m 25 #[.val (.ref a), .val (.double mm), .second, .val (.int kx), .val (.double FP.dconst0), .second, .val (.ref a), .val (.int (3 : Int32)), .val (.int (0 : Int32)), .unset, .unset, .unset, .unset, .unset, .unset, .unset] [(.int (0 : Int32)), (.ref a)])) rfl rfl (hb hby d1_25) _ (XS.dstore X0.here hx rfl (hb hby d1_26) rfl (l' := #[.val (.ref a), .val (.double mm), .second, .val (.int kx), .val (.double FP.dconst0), .second, .val (.ref a), .val (.int (3 : Int32)), .val (.int (0 : Int32)), .val (.double z0), .second, .unset, .unset, .unset, .unset, .unset]) rfl (XS.dload X0.here hx rfl (hb hby d1_28) rfl  (XS.dloadN X0.here hx rfl (hb hby d1_30) rfl  (kk))))) ?_
  show Dn p e below s _ _ _ (s₁.setTop (mkF m 31 #[.val (.ref a), .val (.double mm), .second, .val (.int kx), .val (.double FP.dconst0), .second, .val (.ref a), .val (.int (3 : Int32)), .val (.int (0 : Int32)), .val (.double z0), .second, .unset, .unset, .unset, .unset, .unset] [(.double mm), (.double z0)]))
  have d31 : DS 0 (i0 - im) (FP.dsub z0 mm) := DS.sub dz0 dm (by omega) (by decide)
  refine Dn.st (fun _ kk => XS.dsubS X0.here hx rfl (hb hby d1_31) rfl d31.nn rfl (kk)) ?_
  show Dn p e below s _ _ _ (s₁.setTop (mkF m 32 #[.val (.ref a), .val (.double mm), .second, .val (.int kx), .val (.double FP.dconst0), .second, .val (.ref a), .val (.int (3 : Int32)), .val (.int (0 : Int32)), .val (.double z0), .second, .unset, .unset, .unset, .unset, .unset] [(.double (FP.dsub z0 mm))]))
  generalize hv31 : ((FP.dsub z0 mm) : UInt64) = v31 at d31 ⊢
  show Dn p e below s _ _ _ (s₁.setTop (mkF m 32 #[.val (.ref a), .val (.double mm), .second, .val (.int kx), .val (.double FP.dconst0), .second, .val (.ref a), .val (.int (3 : Int32)), .val (.int (0 : Int32)), .val (.double z0), .second, .unset, .unset, .unset, .unset, .unset] [(.double v31)]))
  refine Dn.st (fun _ kk => XS.dstore X0.here hx rfl (hb hby d1_32) rfl (l' := #[.val (.ref a), .val (.double mm), .second, .val (.int kx), .val (.double FP.dconst0), .second, .val (.ref a), .val (.int (3 : Int32)), .val (.int (0 : Int32)), .val (.double z0), .second, .val (.double v31), .second, .unset, .unset, .unset]) rfl (XS.dload X0.here hx rfl (hb hby d1_34) rfl  (XS.dstore X0.here hx rfl (hb hby d1_36) rfl (l' := #[.val (.ref a), .val (.double mm), .second, .val (.int kx), .val (.double FP.dconst0), .second, .val (.ref a), .val (.int (3 : Int32)), .val (.int (0 : Int32)), .val (.double z0), .second, .val (.double v31), .second, .val (.double v31), .second, .unset]) rfl (XS.iconst X0.here hx rfl (hb hby d1_38) (XS.istore X0.here hx rfl (hb hby d1_39) rfl (l' := #[.val (.ref a), .val (.double mm), .second, .val (.int kx), .val (.double FP.dconst0), .second, .val (.ref a), .val (.int (3 : Int32)), .val (.int (0 : Int32)), .val (.double z0), .second, .val (.double v31), .second, .val (.double v31), .second, .val (.int (1 : Int32))]) rfl (kk)))))) ?_
  show Dn p e below s _ _ _ (s₁.setTop (mkF m 41 #[.val (.ref a), .val (.double mm), .second, .val (.int kx), .val (.double FP.dconst0), .second, .val (.ref a), .val (.int (3 : Int32)), .val (.int (0 : Int32)), .val (.double z0), .second, .val (.double v31), .second, .val (.double v31), .second, .val (.int (1 : Int32))] []))
  have LP41 : ∀ (rr : Nat) (tt : Nat) (a13 : UInt64) (j15 : Int32), (j15.toInt = tt + 1) → (tt + rr = kn) → (DS 0 (own_pw (i0 - im) tt) a13) → Dn p e below s (Q1_3 Z a mm kx kn ka z0 z1 z2 i0 i1 i2 im h0 n0) ({ frames := 0, cells := 0, slots := 0, locals := 0 } : Room).cells ({ frames := 0, cells := 0, slots := 0, locals := 0 } : Room).slots (s₁.setTop (mkF m 41 #[.val (.ref a), .val (.double mm), .second, .val (.int kx), .val (.double FP.dconst0), .second, .val (.ref a), .val (.int (3 : Int32)), .val (.int (0 : Int32)), .val (.double z0), .second, .val (.double v31), .second, .val (.double a13), .second, .val (.int j15)] [])) := by
    intro rr
    induction rr with
    | zero =>
      intro tt a13 j15 hj hr da
      have r_j15 := rng32 j15
      have pt := own_p6 hd0.1 hd0.2 (t := tt) (by omega)
      show Dn p e below s _ _ _ (s₁.setTop (mkF m 41 #[.val (.ref a), .val (.double mm), .second, .val (.int kx), .val (.double FP.dconst0), .second, .val (.ref a), .val (.int (3 : Int32)), .val (.int (0 : Int32)), .val (.double z0), .second, .val (.double v31), .second, .val (.double a13), .second, .val (.int j15)] []))
      refine Dn.st (fun _ kk => XS.iload X0.here hx rfl (hb hby d1_41) rfl  (XS.iloadN X0.here hx rfl (hb hby d1_43) rfl  (kk))) ?_
      show Dn p e below s _ _ _ (s₁.setTop (mkF m 44 #[.val (.ref a), .val (.double mm), .second, .val (.int kx), .val (.double FP.dconst0), .second, .val (.ref a), .val (.int (3 : Int32)), .val (.int (0 : Int32)), .val (.double z0), .second, .val (.double v31), .second, .val (.double a13), .second, .val (.int j15)] [(.int kx), (.int j15)]))
      by_cases hc44 : j15 < kx
      · have hi44 : j15.toInt < kx.toInt := Int32.lt_iff_toInt_lt.mp hc44
        exfalso
        omega
      · have hi44 : ¬ j15.toInt < kx.toInt := fun qq => hc44 (Int32.lt_iff_toInt_lt.mpr qq)
        refine Dn.st (fun _ kk => XS.icmpYes X0.here hx rfl (pc0 := 44) (pc' := 60) rfl (hb hby d1_44) rfl (flt hc44).2.1 (by decide) (by decide) (XS.dload X0.here hx rfl (hb hby d1_60) rfl  (XS.dload X0.here hx rfl (hb hby d1_62) rfl  (kk)))) ?_
        show Dn p e below s _ _ _ (s₁.setTop (mkF m 64 #[.val (.ref a), .val (.double mm), .second, .val (.int kx), .val (.double FP.dconst0), .second, .val (.ref a), .val (.int (3 : Int32)), .val (.int (0 : Int32)), .val (.double z0), .second, .val (.double v31), .second, .val (.double a13), .second, .val (.int j15)] [(.double a13), (.double FP.dconst0)]))
        have hkt0 : tt = kn := by omega
        have pk0 := own_p6 hd0.1 hd0.2 (t := kn) (by omega)
        rw [hkt0] at da
        have d64 : DS 0 (0 + own_pw (i0 - im) kn) (FP.dadd FP.dconst0 a13) := DS.add (k := 0) dc_0 da (by omega) (by decide)
        refine Dn.st (fun _ kk => XS.daddS X0.here hx rfl (hb hby d1_64) rfl d64.nn rfl (kk)) ?_
        show Dn p e below s _ _ _ (s₁.setTop (mkF m 65 #[.val (.ref a), .val (.double mm), .second, .val (.int kx), .val (.double FP.dconst0), .second, .val (.ref a), .val (.int (3 : Int32)), .val (.int (0 : Int32)), .val (.double z0), .second, .val (.double v31), .second, .val (.double a13), .second, .val (.int j15)] [(.double (FP.dadd FP.dconst0 a13))]))
        generalize hv64 : ((FP.dadd FP.dconst0 a13) : UInt64) = v64 at d64 ⊢
        show Dn p e below s _ _ _ (s₁.setTop (mkF m 65 #[.val (.ref a), .val (.double mm), .second, .val (.int kx), .val (.double FP.dconst0), .second, .val (.ref a), .val (.int (3 : Int32)), .val (.int (0 : Int32)), .val (.double z0), .second, .val (.double v31), .second, .val (.double a13), .second, .val (.int j15)] [(.double v64)]))
        refine Dn.st (fun _ kk => XS.dstore X0.here hx rfl (hb hby d1_65) rfl (l' := #[.val (.ref a), .val (.double mm), .second, .val (.int kx), .val (.double v64), .second, .val (.ref a), .val (.int (3 : Int32)), .val (.int (0 : Int32)), .val (.double z0), .second, .val (.double v31), .second, .val (.double a13), .second, .val (.int j15)]) rfl (XS.iinc X0.here hx rfl (hb hby d1_67) rfl (l' := #[.val (.ref a), .val (.double mm), .second, .val (.int kx), .val (.double v64), .second, .val (.ref a), .val (.int (3 : Int32)), .val (.int (1 : Int32)), .val (.double z0), .second, .val (.double v31), .second, .val (.double a13), .second, .val (.int j15)]) rfl (XS.goto X0.here hx rfl (pc0 := 70) (pc' := 14) rfl (hb hby d1_70) (by decide) (by decide) (XS.iload X0.here hx rfl (hb hby d1_14) rfl  (XS.iload X0.here hx rfl (hb hby d1_16) rfl  (kk)))))) ?_
        show Dn p e below s _ _ _ (s₁.setTop (mkF m 18 #[.val (.ref a), .val (.double mm), .second, .val (.int kx), .val (.double v64), .second, .val (.ref a), .val (.int (3 : Int32)), .val (.int (1 : Int32)), .val (.double z0), .second, .val (.double v31), .second, .val (.double a13), .second, .val (.int j15)] [(.int (3 : Int32)), (.int (1 : Int32))]))
        have hc18_2 : (1 : Int32) < (3 : Int32) := by decide
        refine Dn.st (fun _ kk => XS.icmpNo X0.here hx rfl (hb hby d1_18) rfl (tlt hc18_2).2.1 (XS.aload X0.here hx rfl (hb hby d1_21) rfl rfl (XS.iload X0.here hx rfl (hb hby d1_23) rfl  (kk)))) ?_
        show Dn p e below s _ _ _ (s₁.setTop (mkF m 25 #[.val (.ref a), .val (.double mm), .second, .val (.int kx), .val (.double v64), .second, .val (.ref a), .val (.int (3 : Int32)), .val (.int (1 : Int32)), .val (.double z0), .second, .val (.double v31), .second, .val (.double a13), .second, .val (.int j15)] [(.int (1 : Int32)), (.ref a)]))
        have Vc_a_25_2 := Va
        obtain ⟨cl_a_25_2, Ar_a_25_2, q_a_25_2, S_a_25_2, N_a_25_2, H_a_25_2, G_a_25_2⟩ := Vc_a_25_2
        have hin25_2 : ¬ ((1 : Int32) < 0 ∨ cl_a_25_2.slots.size ≤ ((1 : Int32)).toNatClampNeg) := inb_of S_a_25_2 ⟨by decide, by decide⟩
        have hat25_2 : cl_a_25_2.slots[((1 : Int32)).toNatClampNeg]? = some (.double z1) := H_a_25_2.at hin25_2 rfl
        refine Dn.st (fun _ kk => X0.daload hx (j := (1 : Int32)) (v := (.double z1)) (by rw [e0]; exact Ar_a_25_2.1) (State.isArrayOf_alike hZ.alike Ar_a_25_2.2.1) Ar_a_25_2.2.2 hin25_2 hat25_2 (g := (mkF m 25 #[.val (.ref a), .val (.double mm), .second, .val (.int kx), .val (.double v64), .second, .val (.ref a), .val (.int (3 : Int32)), .val (.int (1 : Int32)), .val (.double z0), .second, .val (.double v31), .second, .val (.double a13), .second, .val (.int j15)] [(.int (1 : Int32)), (.ref a)])) rfl rfl (hb hby d1_25) _ (XS.dstore X0.here hx rfl (hb hby d1_26) rfl (l' := #[.val (.ref a), .val (.double mm), .second, .val (.int kx), .val (.double v64), .second, .val (.ref a), .val (.int (3 : Int32)), .val (.int (1 : Int32)), .val (.double z1), .second, .val (.double v31), .second, .val (.double a13), .second, .val (.int j15)]) rfl (XS.dload X0.here hx rfl (hb hby d1_28) rfl  (XS.dloadN X0.here hx rfl (hb hby d1_30) rfl  (kk))))) ?_
        show Dn p e below s _ _ _ (s₁.setTop (mkF m 31 #[.val (.ref a), .val (.double mm), .second, .val (.int kx), .val (.double v64), .second, .val (.ref a), .val (.int (3 : Int32)), .val (.int (1 : Int32)), .val (.double z1), .second, .val (.double v31), .second, .val (.double a13), .second, .val (.int j15)] [(.double mm), (.double z1)]))
        have d31_2 : DS 0 (i1 - im) (FP.dsub z1 mm) := DS.sub dz1 dm (by omega) (by decide)
        refine Dn.st (fun _ kk => XS.dsubS X0.here hx rfl (hb hby d1_31) rfl d31_2.nn rfl (kk)) ?_
        show Dn p e below s _ _ _ (s₁.setTop (mkF m 32 #[.val (.ref a), .val (.double mm), .second, .val (.int kx), .val (.double v64), .second, .val (.ref a), .val (.int (3 : Int32)), .val (.int (1 : Int32)), .val (.double z1), .second, .val (.double v31), .second, .val (.double a13), .second, .val (.int j15)] [(.double (FP.dsub z1 mm))]))
        generalize hv31_2 : ((FP.dsub z1 mm) : UInt64) = v31_2 at d31_2 ⊢
        show Dn p e below s _ _ _ (s₁.setTop (mkF m 32 #[.val (.ref a), .val (.double mm), .second, .val (.int kx), .val (.double v64), .second, .val (.ref a), .val (.int (3 : Int32)), .val (.int (1 : Int32)), .val (.double z1), .second, .val (.double v31), .second, .val (.double a13), .second, .val (.int j15)] [(.double v31_2)]))
        refine Dn.st (fun _ kk => XS.dstore X0.here hx rfl (hb hby d1_32) rfl (l' := #[.val (.ref a), .val (.double mm), .second, .val (.int kx), .val (.double v64), .second, .val (.ref a), .val (.int (3 : Int32)), .val (.int (1 : Int32)), .val (.double z1), .second, .val (.double v31_2), .second, .val (.double a13), .second, .val (.int j15)]) rfl (XS.dload X0.here hx rfl (hb hby d1_34) rfl  (XS.dstore X0.here hx rfl (hb hby d1_36) rfl (l' := #[.val (.ref a), .val (.double mm), .second, .val (.int kx), .val (.double v64), .second, .val (.ref a), .val (.int (3 : Int32)), .val (.int (1 : Int32)), .val (.double z1), .second, .val (.double v31_2), .second, .val (.double v31_2), .second, .val (.int j15)]) rfl (XS.iconst X0.here hx rfl (hb hby d1_38) (XS.istore X0.here hx rfl (hb hby d1_39) rfl (l' := #[.val (.ref a), .val (.double mm), .second, .val (.int kx), .val (.double v64), .second, .val (.ref a), .val (.int (3 : Int32)), .val (.int (1 : Int32)), .val (.double z1), .second, .val (.double v31_2), .second, .val (.double v31_2), .second, .val (.int (1 : Int32))]) rfl (kk)))))) ?_
        show Dn p e below s _ _ _ (s₁.setTop (mkF m 41 #[.val (.ref a), .val (.double mm), .second, .val (.int kx), .val (.double v64), .second, .val (.ref a), .val (.int (3 : Int32)), .val (.int (1 : Int32)), .val (.double z1), .second, .val (.double v31_2), .second, .val (.double v31_2), .second, .val (.int (1 : Int32))] []))
        have LP41_2 : ∀ (rr : Nat) (tt : Nat) (a13 : UInt64) (j15 : Int32), (j15.toInt = tt + 1) → (tt + rr = kn) → (DS 0 (own_pw (i1 - im) tt) a13) → Dn p e below s (Q1_3 Z a mm kx kn ka z0 z1 z2 i0 i1 i2 im h0 n0) ({ frames := 0, cells := 0, slots := 0, locals := 0 } : Room).cells ({ frames := 0, cells := 0, slots := 0, locals := 0 } : Room).slots (s₁.setTop (mkF m 41 #[.val (.ref a), .val (.double mm), .second, .val (.int kx), .val (.double v64), .second, .val (.ref a), .val (.int (3 : Int32)), .val (.int (1 : Int32)), .val (.double z1), .second, .val (.double v31_2), .second, .val (.double a13), .second, .val (.int j15)] [])) := by
          intro rr
          induction rr with
          | zero =>
            intro tt a13 j15 hj hr da
            have r_j15 := rng32 j15
            have pt := own_p6 hd1.1 hd1.2 (t := tt) (by omega)
            show Dn p e below s _ _ _ (s₁.setTop (mkF m 41 #[.val (.ref a), .val (.double mm), .second, .val (.int kx), .val (.double v64), .second, .val (.ref a), .val (.int (3 : Int32)), .val (.int (1 : Int32)), .val (.double z1), .second, .val (.double v31_2), .second, .val (.double a13), .second, .val (.int j15)] []))
            refine Dn.st (fun _ kk => XS.iload X0.here hx rfl (hb hby d1_41) rfl  (XS.iloadN X0.here hx rfl (hb hby d1_43) rfl  (kk))) ?_
            show Dn p e below s _ _ _ (s₁.setTop (mkF m 44 #[.val (.ref a), .val (.double mm), .second, .val (.int kx), .val (.double v64), .second, .val (.ref a), .val (.int (3 : Int32)), .val (.int (1 : Int32)), .val (.double z1), .second, .val (.double v31_2), .second, .val (.double a13), .second, .val (.int j15)] [(.int kx), (.int j15)]))
            by_cases hc44_2 : j15 < kx
            · have hi44_2 : j15.toInt < kx.toInt := Int32.lt_iff_toInt_lt.mp hc44_2
              exfalso
              omega
            · have hi44_2 : ¬ j15.toInt < kx.toInt := fun qq => hc44_2 (Int32.lt_iff_toInt_lt.mpr qq)
              refine Dn.st (fun _ kk => XS.icmpYes X0.here hx rfl (pc0 := 44) (pc' := 60) rfl (hb hby d1_44) rfl (flt hc44_2).2.1 (by decide) (by decide) (XS.dload X0.here hx rfl (hb hby d1_60) rfl  (XS.dload X0.here hx rfl (hb hby d1_62) rfl  (kk)))) ?_
              show Dn p e below s _ _ _ (s₁.setTop (mkF m 64 #[.val (.ref a), .val (.double mm), .second, .val (.int kx), .val (.double v64), .second, .val (.ref a), .val (.int (3 : Int32)), .val (.int (1 : Int32)), .val (.double z1), .second, .val (.double v31_2), .second, .val (.double a13), .second, .val (.int j15)] [(.double a13), (.double v64)]))
              have hkt1 : tt = kn := by omega
              have pk1 := own_p6 hd1.1 hd1.2 (t := kn) (by omega)
              rw [hkt1] at da
              have d64_2 : DS 0 ((0 + own_pw (i0 - im) kn) + own_pw (i1 - im) kn) (FP.dadd v64 a13) := DS.add (k := 0) d64 da (by omega) (by decide)
              refine Dn.st (fun _ kk => XS.daddS X0.here hx rfl (hb hby d1_64) rfl d64_2.nn rfl (kk)) ?_
              show Dn p e below s _ _ _ (s₁.setTop (mkF m 65 #[.val (.ref a), .val (.double mm), .second, .val (.int kx), .val (.double v64), .second, .val (.ref a), .val (.int (3 : Int32)), .val (.int (1 : Int32)), .val (.double z1), .second, .val (.double v31_2), .second, .val (.double a13), .second, .val (.int j15)] [(.double (FP.dadd v64 a13))]))
              generalize hv64_2 : ((FP.dadd v64 a13) : UInt64) = v64_2 at d64_2 ⊢
              show Dn p e below s _ _ _ (s₁.setTop (mkF m 65 #[.val (.ref a), .val (.double mm), .second, .val (.int kx), .val (.double v64), .second, .val (.ref a), .val (.int (3 : Int32)), .val (.int (1 : Int32)), .val (.double z1), .second, .val (.double v31_2), .second, .val (.double a13), .second, .val (.int j15)] [(.double v64_2)]))
              refine Dn.st (fun _ kk => XS.dstore X0.here hx rfl (hb hby d1_65) rfl (l' := #[.val (.ref a), .val (.double mm), .second, .val (.int kx), .val (.double v64_2), .second, .val (.ref a), .val (.int (3 : Int32)), .val (.int (1 : Int32)), .val (.double z1), .second, .val (.double v31_2), .second, .val (.double a13), .second, .val (.int j15)]) rfl (XS.iinc X0.here hx rfl (hb hby d1_67) rfl (l' := #[.val (.ref a), .val (.double mm), .second, .val (.int kx), .val (.double v64_2), .second, .val (.ref a), .val (.int (3 : Int32)), .val (.int (2 : Int32)), .val (.double z1), .second, .val (.double v31_2), .second, .val (.double a13), .second, .val (.int j15)]) rfl (XS.goto X0.here hx rfl (pc0 := 70) (pc' := 14) rfl (hb hby d1_70) (by decide) (by decide) (XS.iload X0.here hx rfl (hb hby d1_14) rfl  (XS.iload X0.here hx rfl (hb hby d1_16) rfl  (kk)))))) ?_
              show Dn p e below s _ _ _ (s₁.setTop (mkF m 18 #[.val (.ref a), .val (.double mm), .second, .val (.int kx), .val (.double v64_2), .second, .val (.ref a), .val (.int (3 : Int32)), .val (.int (2 : Int32)), .val (.double z1), .second, .val (.double v31_2), .second, .val (.double a13), .second, .val (.int j15)] [(.int (3 : Int32)), (.int (2 : Int32))]))
              have hc18_3 : (2 : Int32) < (3 : Int32) := by decide
              refine Dn.st (fun _ kk => XS.icmpNo X0.here hx rfl (hb hby d1_18) rfl (tlt hc18_3).2.1 (XS.aload X0.here hx rfl (hb hby d1_21) rfl rfl (XS.iload X0.here hx rfl (hb hby d1_23) rfl  (kk)))) ?_
              show Dn p e below s _ _ _ (s₁.setTop (mkF m 25 #[.val (.ref a), .val (.double mm), .second, .val (.int kx), .val (.double v64_2), .second, .val (.ref a), .val (.int (3 : Int32)), .val (.int (2 : Int32)), .val (.double z1), .second, .val (.double v31_2), .second, .val (.double a13), .second, .val (.int j15)] [(.int (2 : Int32)), (.ref a)]))
              have Vc_a_25_3 := Va
              obtain ⟨cl_a_25_3, Ar_a_25_3, q_a_25_3, S_a_25_3, N_a_25_3, H_a_25_3, G_a_25_3⟩ := Vc_a_25_3
              have hin25_3 : ¬ ((2 : Int32) < 0 ∨ cl_a_25_3.slots.size ≤ ((2 : Int32)).toNatClampNeg) := inb_of S_a_25_3 ⟨by decide, by decide⟩
              have hat25_3 : cl_a_25_3.slots[((2 : Int32)).toNatClampNeg]? = some (.double z2) := H_a_25_3.at hin25_3 rfl
              refine Dn.st (fun _ kk => X0.daload hx (j := (2 : Int32)) (v := (.double z2)) (by rw [e0]; exact Ar_a_25_3.1) (State.isArrayOf_alike hZ.alike Ar_a_25_3.2.1) Ar_a_25_3.2.2 hin25_3 hat25_3 (g := (mkF m 25 #[.val (.ref a), .val (.double mm), .second, .val (.int kx), .val (.double v64_2), .second, .val (.ref a), .val (.int (3 : Int32)), .val (.int (2 : Int32)), .val (.double z1), .second, .val (.double v31_2), .second, .val (.double a13), .second, .val (.int j15)] [(.int (2 : Int32)), (.ref a)])) rfl rfl (hb hby d1_25) _ (XS.dstore X0.here hx rfl (hb hby d1_26) rfl (l' := #[.val (.ref a), .val (.double mm), .second, .val (.int kx), .val (.double v64_2), .second, .val (.ref a), .val (.int (3 : Int32)), .val (.int (2 : Int32)), .val (.double z2), .second, .val (.double v31_2), .second, .val (.double a13), .second, .val (.int j15)]) rfl (XS.dload X0.here hx rfl (hb hby d1_28) rfl  (XS.dloadN X0.here hx rfl (hb hby d1_30) rfl  (kk))))) ?_
              show Dn p e below s _ _ _ (s₁.setTop (mkF m 31 #[.val (.ref a), .val (.double mm), .second, .val (.int kx), .val (.double v64_2), .second, .val (.ref a), .val (.int (3 : Int32)), .val (.int (2 : Int32)), .val (.double z2), .second, .val (.double v31_2), .second, .val (.double a13), .second, .val (.int j15)] [(.double mm), (.double z2)]))
              have d31_3 : DS 0 (i2 - im) (FP.dsub z2 mm) := DS.sub dz2 dm (by omega) (by decide)
              refine Dn.st (fun _ kk => XS.dsubS X0.here hx rfl (hb hby d1_31) rfl d31_3.nn rfl (kk)) ?_
              show Dn p e below s _ _ _ (s₁.setTop (mkF m 32 #[.val (.ref a), .val (.double mm), .second, .val (.int kx), .val (.double v64_2), .second, .val (.ref a), .val (.int (3 : Int32)), .val (.int (2 : Int32)), .val (.double z2), .second, .val (.double v31_2), .second, .val (.double a13), .second, .val (.int j15)] [(.double (FP.dsub z2 mm))]))
              generalize hv31_3 : ((FP.dsub z2 mm) : UInt64) = v31_3 at d31_3 ⊢
              show Dn p e below s _ _ _ (s₁.setTop (mkF m 32 #[.val (.ref a), .val (.double mm), .second, .val (.int kx), .val (.double v64_2), .second, .val (.ref a), .val (.int (3 : Int32)), .val (.int (2 : Int32)), .val (.double z2), .second, .val (.double v31_2), .second, .val (.double a13), .second, .val (.int j15)] [(.double v31_3)]))
              refine Dn.st (fun _ kk => XS.dstore X0.here hx rfl (hb hby d1_32) rfl (l' := #[.val (.ref a), .val (.double mm), .second, .val (.int kx), .val (.double v64_2), .second, .val (.ref a), .val (.int (3 : Int32)), .val (.int (2 : Int32)), .val (.double z2), .second, .val (.double v31_3), .second, .val (.double a13), .second, .val (.int j15)]) rfl (XS.dload X0.here hx rfl (hb hby d1_34) rfl  (XS.dstore X0.here hx rfl (hb hby d1_36) rfl (l' := #[.val (.ref a), .val (.double mm), .second, .val (.int kx), .val (.double v64_2), .second, .val (.ref a), .val (.int (3 : Int32)), .val (.int (2 : Int32)), .val (.double z2), .second, .val (.double v31_3), .second, .val (.double v31_3), .second, .val (.int j15)]) rfl (XS.iconst X0.here hx rfl (hb hby d1_38) (XS.istore X0.here hx rfl (hb hby d1_39) rfl (l' := #[.val (.ref a), .val (.double mm), .second, .val (.int kx), .val (.double v64_2), .second, .val (.ref a), .val (.int (3 : Int32)), .val (.int (2 : Int32)), .val (.double z2), .second, .val (.double v31_3), .second, .val (.double v31_3), .second, .val (.int (1 : Int32))]) rfl (kk)))))) ?_
              show Dn p e below s _ _ _ (s₁.setTop (mkF m 41 #[.val (.ref a), .val (.double mm), .second, .val (.int kx), .val (.double v64_2), .second, .val (.ref a), .val (.int (3 : Int32)), .val (.int (2 : Int32)), .val (.double z2), .second, .val (.double v31_3), .second, .val (.double v31_3), .second, .val (.int (1 : Int32))] []))
              have LP41_3 : ∀ (rr : Nat) (tt : Nat) (a13 : UInt64) (j15 : Int32), (j15.toInt = tt + 1) → (tt + rr = kn) → (DS 0 (own_pw (i2 - im) tt) a13) → Dn p e below s (Q1_3 Z a mm kx kn ka z0 z1 z2 i0 i1 i2 im h0 n0) ({ frames := 0, cells := 0, slots := 0, locals := 0 } : Room).cells ({ frames := 0, cells := 0, slots := 0, locals := 0 } : Room).slots (s₁.setTop (mkF m 41 #[.val (.ref a), .val (.double mm), .second, .val (.int kx), .val (.double v64_2), .second, .val (.ref a), .val (.int (3 : Int32)), .val (.int (2 : Int32)), .val (.double z2), .second, .val (.double v31_3), .second, .val (.double a13), .second, .val (.int j15)] [])) := by
                intro rr
                induction rr with
                | zero =>
                  intro tt a13 j15 hj hr da
                  have r_j15 := rng32 j15
                  have pt := own_p6 hd2.1 hd2.2 (t := tt) (by omega)
                  show Dn p e below s _ _ _ (s₁.setTop (mkF m 41 #[.val (.ref a), .val (.double mm), .second, .val (.int kx), .val (.double v64_2), .second, .val (.ref a), .val (.int (3 : Int32)), .val (.int (2 : Int32)), .val (.double z2), .second, .val (.double v31_3), .second, .val (.double a13), .second, .val (.int j15)] []))
                  refine Dn.st (fun _ kk => XS.iload X0.here hx rfl (hb hby d1_41) rfl  (XS.iloadN X0.here hx rfl (hb hby d1_43) rfl  (kk))) ?_
                  show Dn p e below s _ _ _ (s₁.setTop (mkF m 44 #[.val (.ref a), .val (.double mm), .second, .val (.int kx), .val (.double v64_2), .second, .val (.ref a), .val (.int (3 : Int32)), .val (.int (2 : Int32)), .val (.double z2), .second, .val (.double v31_3), .second, .val (.double a13), .second, .val (.int j15)] [(.int kx), (.int j15)]))
                  by_cases hc44_3 : j15 < kx
                  · have hi44_3 : j15.toInt < kx.toInt := Int32.lt_iff_toInt_lt.mp hc44_3
                    exfalso
                    omega
                  · have hi44_3 : ¬ j15.toInt < kx.toInt := fun qq => hc44_3 (Int32.lt_iff_toInt_lt.mpr qq)
                    refine Dn.st (fun _ kk => XS.icmpYes X0.here hx rfl (pc0 := 44) (pc' := 60) rfl (hb hby d1_44) rfl (flt hc44_3).2.1 (by decide) (by decide) (XS.dload X0.here hx rfl (hb hby d1_60) rfl  (XS.dload X0.here hx rfl (hb hby d1_62) rfl  (kk)))) ?_
                    show Dn p e below s _ _ _ (s₁.setTop (mkF m 64 #[.val (.ref a), .val (.double mm), .second, .val (.int kx), .val (.double v64_2), .second, .val (.ref a), .val (.int (3 : Int32)), .val (.int (2 : Int32)), .val (.double z2), .second, .val (.double v31_3), .second, .val (.double a13), .second, .val (.int j15)] [(.double a13), (.double v64_2)]))
                    have hkt2 : tt = kn := by omega
                    have pk2 := own_p6 hd2.1 hd2.2 (t := kn) (by omega)
                    rw [hkt2] at da
                    have d64_3 : DS 0 (((0 + own_pw (i0 - im) kn) + own_pw (i1 - im) kn) + own_pw (i2 - im) kn) (FP.dadd v64_2 a13) := DS.add (k := 0) d64_2 da (by omega) (by decide)
                    refine Dn.st (fun _ kk => XS.daddS X0.here hx rfl (hb hby d1_64) rfl d64_3.nn rfl (kk)) ?_
                    show Dn p e below s _ _ _ (s₁.setTop (mkF m 65 #[.val (.ref a), .val (.double mm), .second, .val (.int kx), .val (.double v64_2), .second, .val (.ref a), .val (.int (3 : Int32)), .val (.int (2 : Int32)), .val (.double z2), .second, .val (.double v31_3), .second, .val (.double a13), .second, .val (.int j15)] [(.double (FP.dadd v64_2 a13))]))
                    generalize hv64_3 : ((FP.dadd v64_2 a13) : UInt64) = v64_3 at d64_3 ⊢
                    show Dn p e below s _ _ _ (s₁.setTop (mkF m 65 #[.val (.ref a), .val (.double mm), .second, .val (.int kx), .val (.double v64_2), .second, .val (.ref a), .val (.int (3 : Int32)), .val (.int (2 : Int32)), .val (.double z2), .second, .val (.double v31_3), .second, .val (.double a13), .second, .val (.int j15)] [(.double v64_3)]))
                    refine Dn.st (fun _ kk => XS.dstore X0.here hx rfl (hb hby d1_65) rfl (l' := #[.val (.ref a), .val (.double mm), .second, .val (.int kx), .val (.double v64_3), .second, .val (.ref a), .val (.int (3 : Int32)), .val (.int (2 : Int32)), .val (.double z2), .second, .val (.double v31_3), .second, .val (.double a13), .second, .val (.int j15)]) rfl (XS.iinc X0.here hx rfl (hb hby d1_67) rfl (l' := #[.val (.ref a), .val (.double mm), .second, .val (.int kx), .val (.double v64_3), .second, .val (.ref a), .val (.int (3 : Int32)), .val (.int (3 : Int32)), .val (.double z2), .second, .val (.double v31_3), .second, .val (.double a13), .second, .val (.int j15)]) rfl (XS.goto X0.here hx rfl (pc0 := 70) (pc' := 14) rfl (hb hby d1_70) (by decide) (by decide) (XS.iload X0.here hx rfl (hb hby d1_14) rfl  (XS.iload X0.here hx rfl (hb hby d1_16) rfl  (kk)))))) ?_
                    show Dn p e below s _ _ _ (s₁.setTop (mkF m 18 #[.val (.ref a), .val (.double mm), .second, .val (.int kx), .val (.double v64_3), .second, .val (.ref a), .val (.int (3 : Int32)), .val (.int (3 : Int32)), .val (.double z2), .second, .val (.double v31_3), .second, .val (.double a13), .second, .val (.int j15)] [(.int (3 : Int32)), (.int (3 : Int32))]))
                    have hc18_4 : ¬ ((3 : Int32) < (3 : Int32)) := by decide
                    refine Dn.st (fun _ kk => XS.icmpYes X0.here hx rfl (pc0 := 18) (pc' := 73) rfl (hb hby d1_18) rfl (flt hc18_4).2.1 (by decide) (by decide) (XS.dload X0.here hx rfl (hb hby d1_73) rfl  (kk))) ?_
                    show Dn p e below s _ _ _ (s₁.setTop (mkF m 75 #[.val (.ref a), .val (.double mm), .second, .val (.int kx), .val (.double v64_3), .second, .val (.ref a), .val (.int (3 : Int32)), .val (.int (3 : Int32)), .val (.double z2), .second, .val (.double v31_3), .second, .val (.double a13), .second, .val (.int j15)] [(.double v64_3)]))
                    exact Dn.ret X0 hlk hx hret rfl (Or.inr (Or.inr (Or.inl ⟨rfl, rfl, _, rfl⟩))) (hb hby d1_75) (by rw [e0]; exact ⟨_, rfl, d64_3, N0, rfl⟩) (by decide) (by decide)
                | succ rr ih =>
                  intro tt a13 j15 hj hr da
                  have r_j15 := rng32 j15
                  have pt := own_p6 hd2.1 hd2.2 (t := tt) (by omega)
                  have pt1 := own_p6 hd2.1 hd2.2 (t := tt + 1) (by omega)
                  show Dn p e below s _ _ _ (s₁.setTop (mkF m 41 #[.val (.ref a), .val (.double mm), .second, .val (.int kx), .val (.double v64_2), .second, .val (.ref a), .val (.int (3 : Int32)), .val (.int (2 : Int32)), .val (.double z2), .second, .val (.double v31_3), .second, .val (.double a13), .second, .val (.int j15)] []))
                  refine Dn.st (fun _ kk => XS.iload X0.here hx rfl (hb hby d1_41) rfl  (XS.iloadN X0.here hx rfl (hb hby d1_43) rfl  (kk))) ?_
                  show Dn p e below s _ _ _ (s₁.setTop (mkF m 44 #[.val (.ref a), .val (.double mm), .second, .val (.int kx), .val (.double v64_2), .second, .val (.ref a), .val (.int (3 : Int32)), .val (.int (2 : Int32)), .val (.double z2), .second, .val (.double v31_3), .second, .val (.double a13), .second, .val (.int j15)] [(.int kx), (.int j15)]))
                  by_cases hc44_3 : j15 < kx
                  · have hi44_3 : j15.toInt < kx.toInt := Int32.lt_iff_toInt_lt.mp hc44_3
                    refine Dn.st (fun _ kk => XS.icmpNo X0.here hx rfl (hb hby d1_44) rfl (tlt hc44_3).2.1 (XS.dload X0.here hx rfl (hb hby d1_47) rfl  (XS.dload X0.here hx rfl (hb hby d1_49) rfl  (kk)))) ?_
                    show Dn p e below s _ _ _ (s₁.setTop (mkF m 51 #[.val (.ref a), .val (.double mm), .second, .val (.int kx), .val (.double v64_2), .second, .val (.ref a), .val (.int (3 : Int32)), .val (.int (2 : Int32)), .val (.double z2), .second, .val (.double v31_3), .second, .val (.double a13), .second, .val (.int j15)] [(.double v31_3), (.double a13)]))
                    have d51 : DS 0 (own_pw (i2 - im) (tt + 1)) (FP.dmul a13 v31_3) := DS.mul (k := 0) (m := 0) da d31_3 (by show (own_pw (i2 - im) (tt + 1)).natAbs ≤ _; omega) (by decide)
                    refine Dn.st (fun _ kk => XS.dmulS X0.here hx rfl (hb hby d1_51) rfl d51.nn rfl (kk)) ?_
                    show Dn p e below s _ _ _ (s₁.setTop (mkF m 52 #[.val (.ref a), .val (.double mm), .second, .val (.int kx), .val (.double v64_2), .second, .val (.ref a), .val (.int (3 : Int32)), .val (.int (2 : Int32)), .val (.double z2), .second, .val (.double v31_3), .second, .val (.double a13), .second, .val (.int j15)] [(.double (FP.dmul a13 v31_3))]))
                    generalize hv51 : ((FP.dmul a13 v31_3) : UInt64) = v51 at d51 ⊢
                    show Dn p e below s _ _ _ (s₁.setTop (mkF m 52 #[.val (.ref a), .val (.double mm), .second, .val (.int kx), .val (.double v64_2), .second, .val (.ref a), .val (.int (3 : Int32)), .val (.int (2 : Int32)), .val (.double z2), .second, .val (.double v31_3), .second, .val (.double a13), .second, .val (.int j15)] [(.double v51)]))
                    refine Dn.st (fun _ kk => XS.dstore X0.here hx rfl (hb hby d1_52) rfl (l' := #[.val (.ref a), .val (.double mm), .second, .val (.int kx), .val (.double v64_2), .second, .val (.ref a), .val (.int (3 : Int32)), .val (.int (2 : Int32)), .val (.double z2), .second, .val (.double v31_3), .second, .val (.double v51), .second, .val (.int j15)]) rfl (XS.iinc X0.here hx rfl (hb hby d1_54) rfl (l' := #[.val (.ref a), .val (.double mm), .second, .val (.int kx), .val (.double v64_2), .second, .val (.ref a), .val (.int (3 : Int32)), .val (.int (2 : Int32)), .val (.double z2), .second, .val (.double v31_3), .second, .val (.double v51), .second, .val (.int (j15 + (1 : Int32)))]) rfl (kk))) ?_
                    show Dn p e below s _ _ _ (s₁.setTop (mkF m 57 #[.val (.ref a), .val (.double mm), .second, .val (.int kx), .val (.double v64_2), .second, .val (.ref a), .val (.int (3 : Int32)), .val (.int (2 : Int32)), .val (.double z2), .second, .val (.double v31_3), .second, .val (.double v51), .second, .val (.int (j15 + (1 : Int32)))] []))
                    generalize hv54 : ((j15 + (1 : Int32)) : Int32) = v54
                    have q54 : (v54.toInt - (j15.toInt + 1)) % 4294967296 = 0 := by have qq := c_iadd j15 (1 : Int32); rw [hv54] at qq; exact qq
                    have r54 := rng32 v54
                    show Dn p e below s _ _ _ (s₁.setTop (mkF m 57 #[.val (.ref a), .val (.double mm), .second, .val (.int kx), .val (.double v64_2), .second, .val (.ref a), .val (.int (3 : Int32)), .val (.int (2 : Int32)), .val (.double z2), .second, .val (.double v31_3), .second, .val (.double v51), .second, .val (.int v54)] []))
                    refine Dn.st (fun _ kk => XS.goto X0.here hx rfl (pc0 := 57) (pc' := 41) rfl (hb hby d1_57) (by decide) (by decide) (kk)) ?_
                    show Dn p e below s _ _ _ (s₁.setTop (mkF m 41 #[.val (.ref a), .val (.double mm), .second, .val (.int kx), .val (.double v64_2), .second, .val (.ref a), .val (.int (3 : Int32)), .val (.int (2 : Int32)), .val (.double z2), .second, .val (.double v31_3), .second, .val (.double v51), .second, .val (.int v54)] []))
                    exact ih (tt + 1) v51 v54 (by omega) (by omega) (d51)
                  · have hi44_3 : ¬ j15.toInt < kx.toInt := fun qq => hc44_3 (Int32.lt_iff_toInt_lt.mpr qq)
                    exfalso
                    omega
              exact LP41_3 kn 0 v31_3 (1 : Int32) rfl (by omega) (d31_3)
          | succ rr ih =>
            intro tt a13 j15 hj hr da
            have r_j15 := rng32 j15
            have pt := own_p6 hd1.1 hd1.2 (t := tt) (by omega)
            have pt1 := own_p6 hd1.1 hd1.2 (t := tt + 1) (by omega)
            show Dn p e below s _ _ _ (s₁.setTop (mkF m 41 #[.val (.ref a), .val (.double mm), .second, .val (.int kx), .val (.double v64), .second, .val (.ref a), .val (.int (3 : Int32)), .val (.int (1 : Int32)), .val (.double z1), .second, .val (.double v31_2), .second, .val (.double a13), .second, .val (.int j15)] []))
            refine Dn.st (fun _ kk => XS.iload X0.here hx rfl (hb hby d1_41) rfl  (XS.iloadN X0.here hx rfl (hb hby d1_43) rfl  (kk))) ?_
            show Dn p e below s _ _ _ (s₁.setTop (mkF m 44 #[.val (.ref a), .val (.double mm), .second, .val (.int kx), .val (.double v64), .second, .val (.ref a), .val (.int (3 : Int32)), .val (.int (1 : Int32)), .val (.double z1), .second, .val (.double v31_2), .second, .val (.double a13), .second, .val (.int j15)] [(.int kx), (.int j15)]))
            by_cases hc44_2 : j15 < kx
            · have hi44_2 : j15.toInt < kx.toInt := Int32.lt_iff_toInt_lt.mp hc44_2
              refine Dn.st (fun _ kk => XS.icmpNo X0.here hx rfl (hb hby d1_44) rfl (tlt hc44_2).2.1 (XS.dload X0.here hx rfl (hb hby d1_47) rfl  (XS.dload X0.here hx rfl (hb hby d1_49) rfl  (kk)))) ?_
              show Dn p e below s _ _ _ (s₁.setTop (mkF m 51 #[.val (.ref a), .val (.double mm), .second, .val (.int kx), .val (.double v64), .second, .val (.ref a), .val (.int (3 : Int32)), .val (.int (1 : Int32)), .val (.double z1), .second, .val (.double v31_2), .second, .val (.double a13), .second, .val (.int j15)] [(.double v31_2), (.double a13)]))
              have d51 : DS 0 (own_pw (i1 - im) (tt + 1)) (FP.dmul a13 v31_2) := DS.mul (k := 0) (m := 0) da d31_2 (by show (own_pw (i1 - im) (tt + 1)).natAbs ≤ _; omega) (by decide)
              refine Dn.st (fun _ kk => XS.dmulS X0.here hx rfl (hb hby d1_51) rfl d51.nn rfl (kk)) ?_
              show Dn p e below s _ _ _ (s₁.setTop (mkF m 52 #[.val (.ref a), .val (.double mm), .second, .val (.int kx), .val (.double v64), .second, .val (.ref a), .val (.int (3 : Int32)), .val (.int (1 : Int32)), .val (.double z1), .second, .val (.double v31_2), .second, .val (.double a13), .second, .val (.int j15)] [(.double (FP.dmul a13 v31_2))]))
              generalize hv51 : ((FP.dmul a13 v31_2) : UInt64) = v51 at d51 ⊢
              show Dn p e below s _ _ _ (s₁.setTop (mkF m 52 #[.val (.ref a), .val (.double mm), .second, .val (.int kx), .val (.double v64), .second, .val (.ref a), .val (.int (3 : Int32)), .val (.int (1 : Int32)), .val (.double z1), .second, .val (.double v31_2), .second, .val (.double a13), .second, .val (.int j15)] [(.double v51)]))
              refine Dn.st (fun _ kk => XS.dstore X0.here hx rfl (hb hby d1_52) rfl (l' := #[.val (.ref a), .val (.double mm), .second, .val (.int kx), .val (.double v64), .second, .val (.ref a), .val (.int (3 : Int32)), .val (.int (1 : Int32)), .val (.double z1), .second, .val (.double v31_2), .second, .val (.double v51), .second, .val (.int j15)]) rfl (XS.iinc X0.here hx rfl (hb hby d1_54) rfl (l' := #[.val (.ref a), .val (.double mm), .second, .val (.int kx), .val (.double v64), .second, .val (.ref a), .val (.int (3 : Int32)), .val (.int (1 : Int32)), .val (.double z1), .second, .val (.double v31_2), .second, .val (.double v51), .second, .val (.int (j15 + (1 : Int32)))]) rfl (kk))) ?_
              show Dn p e below s _ _ _ (s₁.setTop (mkF m 57 #[.val (.ref a), .val (.double mm), .second, .val (.int kx), .val (.double v64), .second, .val (.ref a), .val (.int (3 : Int32)), .val (.int (1 : Int32)), .val (.double z1), .second, .val (.double v31_2), .second, .val (.double v51), .second, .val (.int (j15 + (1 : Int32)))] []))
              generalize hv54 : ((j15 + (1 : Int32)) : Int32) = v54
              have q54 : (v54.toInt - (j15.toInt + 1)) % 4294967296 = 0 := by have qq := c_iadd j15 (1 : Int32); rw [hv54] at qq; exact qq
              have r54 := rng32 v54
              show Dn p e below s _ _ _ (s₁.setTop (mkF m 57 #[.val (.ref a), .val (.double mm), .second, .val (.int kx), .val (.double v64), .second, .val (.ref a), .val (.int (3 : Int32)), .val (.int (1 : Int32)), .val (.double z1), .second, .val (.double v31_2), .second, .val (.double v51), .second, .val (.int v54)] []))
              refine Dn.st (fun _ kk => XS.goto X0.here hx rfl (pc0 := 57) (pc' := 41) rfl (hb hby d1_57) (by decide) (by decide) (kk)) ?_
              show Dn p e below s _ _ _ (s₁.setTop (mkF m 41 #[.val (.ref a), .val (.double mm), .second, .val (.int kx), .val (.double v64), .second, .val (.ref a), .val (.int (3 : Int32)), .val (.int (1 : Int32)), .val (.double z1), .second, .val (.double v31_2), .second, .val (.double v51), .second, .val (.int v54)] []))
              exact ih (tt + 1) v51 v54 (by omega) (by omega) (d51)
            · have hi44_2 : ¬ j15.toInt < kx.toInt := fun qq => hc44_2 (Int32.lt_iff_toInt_lt.mpr qq)
              exfalso
              omega
        exact LP41_2 kn 0 v31_2 (1 : Int32) rfl (by omega) (d31_2)
    | succ rr ih =>
      intro tt a13 j15 hj hr da
      have r_j15 := rng32 j15
      have pt := own_p6 hd0.1 hd0.2 (t := tt) (by omega)
      have pt1 := own_p6 hd0.1 hd0.2 (t := tt + 1) (by omega)
      show Dn p e below s _ _ _ (s₁.setTop (mkF m 41 #[.val (.ref a), .val (.double mm), .second, .val (.int kx), .val (.double FP.dconst0), .second, .val (.ref a), .val (.int (3 : Int32)), .val (.int (0 : Int32)), .val (.double z0), .second, .val (.double v31), .second, .val (.double a13), .second, .val (.int j15)] []))
      refine Dn.st (fun _ kk => XS.iload X0.here hx rfl (hb hby d1_41) rfl  (XS.iloadN X0.here hx rfl (hb hby d1_43) rfl  (kk))) ?_
      show Dn p e below s _ _ _ (s₁.setTop (mkF m 44 #[.val (.ref a), .val (.double mm), .second, .val (.int kx), .val (.double FP.dconst0), .second, .val (.ref a), .val (.int (3 : Int32)), .val (.int (0 : Int32)), .val (.double z0), .second, .val (.double v31), .second, .val (.double a13), .second, .val (.int j15)] [(.int kx), (.int j15)]))
      by_cases hc44 : j15 < kx
      · have hi44 : j15.toInt < kx.toInt := Int32.lt_iff_toInt_lt.mp hc44
        refine Dn.st (fun _ kk => XS.icmpNo X0.here hx rfl (hb hby d1_44) rfl (tlt hc44).2.1 (XS.dload X0.here hx rfl (hb hby d1_47) rfl  (XS.dload X0.here hx rfl (hb hby d1_49) rfl  (kk)))) ?_
        show Dn p e below s _ _ _ (s₁.setTop (mkF m 51 #[.val (.ref a), .val (.double mm), .second, .val (.int kx), .val (.double FP.dconst0), .second, .val (.ref a), .val (.int (3 : Int32)), .val (.int (0 : Int32)), .val (.double z0), .second, .val (.double v31), .second, .val (.double a13), .second, .val (.int j15)] [(.double v31), (.double a13)]))
        have d51 : DS 0 (own_pw (i0 - im) (tt + 1)) (FP.dmul a13 v31) := DS.mul (k := 0) (m := 0) da d31 (by show (own_pw (i0 - im) (tt + 1)).natAbs ≤ _; omega) (by decide)
        refine Dn.st (fun _ kk => XS.dmulS X0.here hx rfl (hb hby d1_51) rfl d51.nn rfl (kk)) ?_
        show Dn p e below s _ _ _ (s₁.setTop (mkF m 52 #[.val (.ref a), .val (.double mm), .second, .val (.int kx), .val (.double FP.dconst0), .second, .val (.ref a), .val (.int (3 : Int32)), .val (.int (0 : Int32)), .val (.double z0), .second, .val (.double v31), .second, .val (.double a13), .second, .val (.int j15)] [(.double (FP.dmul a13 v31))]))
        generalize hv51 : ((FP.dmul a13 v31) : UInt64) = v51 at d51 ⊢
        show Dn p e below s _ _ _ (s₁.setTop (mkF m 52 #[.val (.ref a), .val (.double mm), .second, .val (.int kx), .val (.double FP.dconst0), .second, .val (.ref a), .val (.int (3 : Int32)), .val (.int (0 : Int32)), .val (.double z0), .second, .val (.double v31), .second, .val (.double a13), .second, .val (.int j15)] [(.double v51)]))
        refine Dn.st (fun _ kk => XS.dstore X0.here hx rfl (hb hby d1_52) rfl (l' := #[.val (.ref a), .val (.double mm), .second, .val (.int kx), .val (.double FP.dconst0), .second, .val (.ref a), .val (.int (3 : Int32)), .val (.int (0 : Int32)), .val (.double z0), .second, .val (.double v31), .second, .val (.double v51), .second, .val (.int j15)]) rfl (XS.iinc X0.here hx rfl (hb hby d1_54) rfl (l' := #[.val (.ref a), .val (.double mm), .second, .val (.int kx), .val (.double FP.dconst0), .second, .val (.ref a), .val (.int (3 : Int32)), .val (.int (0 : Int32)), .val (.double z0), .second, .val (.double v31), .second, .val (.double v51), .second, .val (.int (j15 + (1 : Int32)))]) rfl (kk))) ?_
        show Dn p e below s _ _ _ (s₁.setTop (mkF m 57 #[.val (.ref a), .val (.double mm), .second, .val (.int kx), .val (.double FP.dconst0), .second, .val (.ref a), .val (.int (3 : Int32)), .val (.int (0 : Int32)), .val (.double z0), .second, .val (.double v31), .second, .val (.double v51), .second, .val (.int (j15 + (1 : Int32)))] []))
        generalize hv54 : ((j15 + (1 : Int32)) : Int32) = v54
        have q54 : (v54.toInt - (j15.toInt + 1)) % 4294967296 = 0 := by have qq := c_iadd j15 (1 : Int32); rw [hv54] at qq; exact qq
        have r54 := rng32 v54
        show Dn p e below s _ _ _ (s₁.setTop (mkF m 57 #[.val (.ref a), .val (.double mm), .second, .val (.int kx), .val (.double FP.dconst0), .second, .val (.ref a), .val (.int (3 : Int32)), .val (.int (0 : Int32)), .val (.double z0), .second, .val (.double v31), .second, .val (.double v51), .second, .val (.int v54)] []))
        refine Dn.st (fun _ kk => XS.goto X0.here hx rfl (pc0 := 57) (pc' := 41) rfl (hb hby d1_57) (by decide) (by decide) (kk)) ?_
        show Dn p e below s _ _ _ (s₁.setTop (mkF m 41 #[.val (.ref a), .val (.double mm), .second, .val (.int kx), .val (.double FP.dconst0), .second, .val (.ref a), .val (.int (3 : Int32)), .val (.int (0 : Int32)), .val (.double z0), .second, .val (.double v31), .second, .val (.double v51), .second, .val (.int v54)] []))
        exact ih (tt + 1) v51 v54 (by omega) (by omega) (d51)
      · have hi44 : ¬ j15.toInt < kx.toInt := fun qq => hc44 (Int32.lt_iff_toInt_lt.mpr qq)
        exfalso
        omega
  exact LP41 kn 0 v31 (1 : Int32) rfl (by omega) (d31)

theorem pd0 : parseMethodDescriptor "([DDI)D" = some ⟨[(.array .double), .double, .int], some .double⟩ := by decide +kernel
theorem pd1 : parseMethodDescriptor "(JI)J" = some ⟨[.long, .int], some .long⟩ := by decide +kernel
theorem ef0_rm0 (m : MethodId) (x0 : Int32) (x1 : Int32) (x2 : Int32) (x3 : Int32) (x4 : Int32) : entryFrame m #[(.int x0), (.int x1), (.int x2), (.int x3), (.int x4)] maxLocals = mkF m 0 #[.val (.int x0), .val (.int x1), .val (.int x2), .val (.int x3), .val (.int x4), .unset, .unset, .unset, .unset, .unset, .unset, .unset, .unset, .unset, .unset, .unset, .unset, .unset, .unset, .unset] [] := by first | (simp [entryFrame, mkF, argsToLocals, Value.category, maxLocals]; done) | rfl
def Q0 (Z : State) (p0 : Int32) (p1 : Int32) (p2 : Int32) (p3 : Int32) (p4 : Int32) (h0 : Heap) (n0 : Nat) (v : Option Value) (h : Heap) (L : List Loc) : Prop := v = some (.int 1) ∧ Fr n0 L
set_option maxRecDepth 65536 in
set_option maxHeartbeats 40000000 in
theorem rm0 (l : Launch) (Z : State) (a0 : Array Value) (hw : ∀ d ∈ tables_1, d.before a0 Z = true) (ws : List Jvm.Cond) (p0 : Int32) (p1 : Int32) (p2 : Int32) (p3 : Int32) (p4 : Int32) (h0 : Heap) (n0 : Nat) (Z0 : n0 ≤ h0.size) :
    MetFree l x (head1 (Jvm.Cond.code x code maxLocals ret :: ws) room_1) (fun aa UU => aa = #[(.int p0), (.int p1), (.int p2), (.int p3), (.int p4)] ∧ Z.Warmed39 UU.vm ∧ UU.heap = h0) (fun _ _ _ _ _ => True) (fun _ UU oo UU' => ∃ vv LL, oo = .returned vv ∧ Q0 Z p0 p1 p2 p3 p4 h0 n0 vv UU'.heap LL ∧ FrameEnd UU oo UU' LL 16 128) := by
  refine MetFree.of_bodySF (plainFor_of_name pn0) hisR ?_
  intro p e s m args below meth c s₁ Bd hml0 hP hK
  obtain ⟨rfl, hZ, hh⟩ := hP
  have hx := Bd.exec
  have hby := Bd.bytes
  have hlk : meth.locks = false := BodyLoose.notSynchronized Bd
  have hret := Bd.returns
  have hml : c.maxLocals = 20 := hml0
  have hown : s.vm.findClass "com/example/listino/listino/stats/MomentsSumOfPowersPinLaw" = some m.cls := findClass_of_methodNamed Bd.named
  have hnm := (name_of_methodNamed Bd.named Bd.method).1
  have X0 : Stand p l e room_1 s m #[(.int p0), (.int p1), (.int p2), (.int p3), (.int p4)] below meth c s₁ [] 0 0 := Stand.of_body Bd
  have e0 : s₁.heap = h0 := by rw [← hh, Bd.state]; rfl
  have N0 := Fr.nil n0
  have r_p0 := rng32 p0
  have r_p1 := rng32 p1
  have r_p2 := rng32 p2
  have r_p3 := rng32 p3
  have r_p4 := rng32 p4
  show Dn p e below s (Q0 Z p0 p1 p2 p3 p4 h0 n0) 16 128 (s₁.setTop (entryFrame m #[(.int p0), (.int p1), (.int p2), (.int p3), (.int p4)] maxLocals))
  refine Dn.st (fun _ kk => castTop (ef0_rm0 m p0 p1 p2 p3 p4) kk) ?_
  show Dn p e below s _ _ _ (s₁.setTop (mkF m 0 #[.val (.int p0), .val (.int p1), .val (.int p2), .val (.int p3), .val (.int p4), .unset, .unset, .unset, .unset, .unset, .unset, .unset, .unset, .unset, .unset, .unset, .unset, .unset, .unset, .unset] []))
  refine Dn.st (fun _ kk => XS.iloadN X0.here hx rfl (hb hby at_0) rfl  (XS.bipush X0.here hx rfl (hb hby at_1) (iremM X0 hx rfl (hb hby at_3) rfl (by decide) (kk)))) ?_
  show Dn p e below s _ _ _ (s₁.setTop (mkF m 4 #[.val (.int p0), .val (.int p1), .val (.int p2), .val (.int p3), .val (.int p4), .unset, .unset, .unset, .unset, .unset, .unset, .unset, .unset, .unset, .unset, .unset, .unset, .unset, .unset, .unset] [(.int (p0 % (100 : Int32)))]))
  generalize hv3 : ((p0 % (100 : Int32)) : Int32) = v3
  have q3 : (0 ≤ p0.toInt → v3.toInt = p0.toInt % 100) ∧ (p0.toInt < 0 → v3.toInt = -((-p0.toInt) % 100)) := by have qq := c_irem p0 (100 : Int32) 100 rfl; rw [hv3] at qq; exact qq
  have r3 := rng32 v3
  show Dn p e below s _ _ _ (s₁.setTop (mkF m 4 #[.val (.int p0), .val (.int p1), .val (.int p2), .val (.int p3), .val (.int p4), .unset, .unset, .unset, .unset, .unset, .unset, .unset, .unset, .unset, .unset, .unset, .unset, .unset, .unset, .unset] [(.int v3)]))
  refine Dn.st (fun _ kk => XS.i2l X0.here hx rfl (hb hby at_4) rfl (kk)) ?_
  show Dn p e below s _ _ _ (s₁.setTop (mkF m 5 #[.val (.int p0), .val (.int p1), .val (.int p2), .val (.int p3), .val (.int p4), .unset, .unset, .unset, .unset, .unset, .unset, .unset, .unset, .unset, .unset, .unset, .unset, .unset, .unset, .unset] [(.long (v3.toInt64))]))
  generalize hv4 : ((v3.toInt64) : Int64) = v4
  have q4 : v4.toInt = v3.toInt := by have qq := c_i2l v3; rw [hv4] at qq; exact qq
  have r4 := rng64 v4
  show Dn p e below s _ _ _ (s₁.setTop (mkF m 5 #[.val (.int p0), .val (.int p1), .val (.int p2), .val (.int p3), .val (.int p4), .unset, .unset, .unset, .unset, .unset, .unset, .unset, .unset, .unset, .unset, .unset, .unset, .unset, .unset, .unset] [(.long v4)]))
  refine Dn.st (fun _ kk => XS.lstore X0.here hx rfl (hb hby at_5) rfl (l' := #[.val (.int p0), .val (.int p1), .val (.int p2), .val (.int p3), .val (.int p4), .val (.long v4), .second, .unset, .unset, .unset, .unset, .unset, .unset, .unset, .unset, .unset, .unset, .unset, .unset, .unset]) rfl (XS.iloadN X0.here hx rfl (hb hby at_7) rfl  (XS.bipush X0.here hx rfl (hb hby at_8) (iremM X0 hx rfl (hb hby at_10) rfl (by decide) (kk))))) ?_
  show Dn p e below s _ _ _ (s₁.setTop (mkF m 11 #[.val (.int p0), .val (.int p1), .val (.int p2), .val (.int p3), .val (.int p4), .val (.long v4), .second, .unset, .unset, .unset, .unset, .unset, .unset, .unset, .unset, .unset, .unset, .unset, .unset, .unset] [(.int (p1 % (100 : Int32)))]))
  generalize hv10 : ((p1 % (100 : Int32)) : Int32) = v10
  have q10 : (0 ≤ p1.toInt → v10.toInt = p1.toInt % 100) ∧ (p1.toInt < 0 → v10.toInt = -((-p1.toInt) % 100)) := by have qq := c_irem p1 (100 : Int32) 100 rfl; rw [hv10] at qq; exact qq
  have r10 := rng32 v10
  show Dn p e below s _ _ _ (s₁.setTop (mkF m 11 #[.val (.int p0), .val (.int p1), .val (.int p2), .val (.int p3), .val (.int p4), .val (.long v4), .second, .unset, .unset, .unset, .unset, .unset, .unset, .unset, .unset, .unset, .unset, .unset, .unset, .unset] [(.int v10)]))
  refine Dn.st (fun _ kk => XS.i2l X0.here hx rfl (hb hby at_11) rfl (kk)) ?_
  show Dn p e below s _ _ _ (s₁.setTop (mkF m 12 #[.val (.int p0), .val (.int p1), .val (.int p2), .val (.int p3), .val (.int p4), .val (.long v4), .second, .unset, .unset, .unset, .unset, .unset, .unset, .unset, .unset, .unset, .unset, .unset, .unset, .unset] [(.long (v10.toInt64))]))
  generalize hv11 : ((v10.toInt64) : Int64) = v11
  have q11 : v11.toInt = v10.toInt := by have qq := c_i2l v10; rw [hv11] at qq; exact qq
  have r11 := rng64 v11
  show Dn p e below s _ _ _ (s₁.setTop (mkF m 12 #[.val (.int p0), .val (.int p1), .val (.int p2), .val (.int p3), .val (.int p4), .val (.long v4), .second, .unset, .unset, .unset, .unset, .unset, .unset, .unset, .unset, .unset, .unset, .unset, .unset, .unset] [(.long v11)]))
  refine Dn.st (fun _ kk => XS.lstore X0.here hx rfl (hb hby at_12) rfl (l' := #[.val (.int p0), .val (.int p1), .val (.int p2), .val (.int p3), .val (.int p4), .val (.long v4), .second, .val (.long v11), .second, .unset, .unset, .unset, .unset, .unset, .unset, .unset, .unset, .unset, .unset, .unset]) rfl (XS.iloadN X0.here hx rfl (hb hby at_14) rfl  (XS.bipush X0.here hx rfl (hb hby at_15) (iremM X0 hx rfl (hb hby at_17) rfl (by decide) (kk))))) ?_
  show Dn p e below s _ _ _ (s₁.setTop (mkF m 18 #[.val (.int p0), .val (.int p1), .val (.int p2), .val (.int p3), .val (.int p4), .val (.long v4), .second, .val (.long v11), .second, .unset, .unset, .unset, .unset, .unset, .unset, .unset, .unset, .unset, .unset, .unset] [(.int (p2 % (100 : Int32)))]))
  generalize hv17 : ((p2 % (100 : Int32)) : Int32) = v17
  have q17 : (0 ≤ p2.toInt → v17.toInt = p2.toInt % 100) ∧ (p2.toInt < 0 → v17.toInt = -((-p2.toInt) % 100)) := by have qq := c_irem p2 (100 : Int32) 100 rfl; rw [hv17] at qq; exact qq
  have r17 := rng32 v17
  show Dn p e below s _ _ _ (s₁.setTop (mkF m 18 #[.val (.int p0), .val (.int p1), .val (.int p2), .val (.int p3), .val (.int p4), .val (.long v4), .second, .val (.long v11), .second, .unset, .unset, .unset, .unset, .unset, .unset, .unset, .unset, .unset, .unset, .unset] [(.int v17)]))
  refine Dn.st (fun _ kk => XS.i2l X0.here hx rfl (hb hby at_18) rfl (kk)) ?_
  show Dn p e below s _ _ _ (s₁.setTop (mkF m 19 #[.val (.int p0), .val (.int p1), .val (.int p2), .val (.int p3), .val (.int p4), .val (.long v4), .second, .val (.long v11), .second, .unset, .unset, .unset, .unset, .unset, .unset, .unset, .unset, .unset, .unset, .unset] [(.long (v17.toInt64))]))
  generalize hv18 : ((v17.toInt64) : Int64) = v18
  have q18 : v18.toInt = v17.toInt := by have qq := c_i2l v17; rw [hv18] at qq; exact qq
  have r18 := rng64 v18
  show Dn p e below s _ _ _ (s₁.setTop (mkF m 19 #[.val (.int p0), .val (.int p1), .val (.int p2), .val (.int p3), .val (.int p4), .val (.long v4), .second, .val (.long v11), .second, .unset, .unset, .unset, .unset, .unset, .unset, .unset, .unset, .unset, .unset, .unset] [(.long v18)]))
  refine Dn.st (fun _ kk => XS.lstore X0.here hx rfl (hb hby at_19) rfl (l' := #[.val (.int p0), .val (.int p1), .val (.int p2), .val (.int p3), .val (.int p4), .val (.long v4), .second, .val (.long v11), .second, .val (.long v18), .second, .unset, .unset, .unset, .unset, .unset, .unset, .unset, .unset, .unset]) rfl (XS.iloadN X0.here hx rfl (hb hby at_21) rfl  (XS.bipush X0.here hx rfl (hb hby at_22) (iremM X0 hx rfl (hb hby at_24) rfl (by decide) (kk))))) ?_
  show Dn p e below s _ _ _ (s₁.setTop (mkF m 25 #[.val (.int p0), .val (.int p1), .val (.int p2), .val (.int p3), .val (.int p4), .val (.long v4), .second, .val (.long v11), .second, .val (.long v18), .second, .unset, .unset, .unset, .unset, .unset, .unset, .unset, .unset, .unset] [(.int (p3 % (100 : Int32)))]))
  generalize hv24 : ((p3 % (100 : Int32)) : Int32) = v24
  have q24 : (0 ≤ p3.toInt → v24.toInt = p3.toInt % 100) ∧ (p3.toInt < 0 → v24.toInt = -((-p3.toInt) % 100)) := by have qq := c_irem p3 (100 : Int32) 100 rfl; rw [hv24] at qq; exact qq
  have r24 := rng32 v24
  show Dn p e below s _ _ _ (s₁.setTop (mkF m 25 #[.val (.int p0), .val (.int p1), .val (.int p2), .val (.int p3), .val (.int p4), .val (.long v4), .second, .val (.long v11), .second, .val (.long v18), .second, .unset, .unset, .unset, .unset, .unset, .unset, .unset, .unset, .unset] [(.int v24)]))
  refine Dn.st (fun _ kk => XS.i2l X0.here hx rfl (hb hby at_25) rfl (kk)) ?_
  show Dn p e below s _ _ _ (s₁.setTop (mkF m 26 #[.val (.int p0), .val (.int p1), .val (.int p2), .val (.int p3), .val (.int p4), .val (.long v4), .second, .val (.long v11), .second, .val (.long v18), .second, .unset, .unset, .unset, .unset, .unset, .unset, .unset, .unset, .unset] [(.long (v24.toInt64))]))
  generalize hv25 : ((v24.toInt64) : Int64) = v25
  have q25 : v25.toInt = v24.toInt := by have qq := c_i2l v24; rw [hv25] at qq; exact qq
  have r25 := rng64 v25
  show Dn p e below s _ _ _ (s₁.setTop (mkF m 26 #[.val (.int p0), .val (.int p1), .val (.int p2), .val (.int p3), .val (.int p4), .val (.long v4), .second, .val (.long v11), .second, .val (.long v18), .second, .unset, .unset, .unset, .unset, .unset, .unset, .unset, .unset, .unset] [(.long v25)]))
  refine Dn.st (fun _ kk => XS.lstore X0.here hx rfl (hb hby at_26) rfl (l' := #[.val (.int p0), .val (.int p1), .val (.int p2), .val (.int p3), .val (.int p4), .val (.long v4), .second, .val (.long v11), .second, .val (.long v18), .second, .val (.long v25), .second, .unset, .unset, .unset, .unset, .unset, .unset, .unset]) rfl (XS.iconst X0.here hx rfl (hb hby at_28) (XS.iload X0.here hx rfl (hb hby at_29) rfl  (XS.bipush X0.here hx rfl (hb hby at_31) (XS.iand X0.here hx rfl (hb hby at_33) rfl (kk)))))) ?_
  show Dn p e below s _ _ _ (s₁.setTop (mkF m 34 #[.val (.int p0), .val (.int p1), .val (.int p2), .val (.int p3), .val (.int p4), .val (.long v4), .second, .val (.long v11), .second, .val (.long v18), .second, .val (.long v25), .second, .unset, .unset, .unset, .unset, .unset, .unset, .unset] [(.int (p4 &&& (7 : Int32))), (.int (1 : Int32))]))
  generalize hv33 : ((p4 &&& (7 : Int32)) : Int32) = v33
  have q33 : v33.toInt = p4.toInt % 8 := by have qq := c_mask p4 (7 : Int32) 3 (by decide) (by decide); rw [hv33] at qq; exact qq
  have r33 := rng32 v33
  show Dn p e below s _ _ _ (s₁.setTop (mkF m 34 #[.val (.int p0), .val (.int p1), .val (.int p2), .val (.int p3), .val (.int p4), .val (.long v4), .second, .val (.long v11), .second, .val (.long v18), .second, .val (.long v25), .second, .unset, .unset, .unset, .unset, .unset, .unset, .unset] [(.int v33), (.int (1 : Int32))]))
  refine Dn.st (fun _ kk => XS.bipush X0.here hx rfl (hb hby at_34) (iremM X0 hx rfl (hb hby at_36) rfl (by decide) (kk))) ?_
  show Dn p e below s _ _ _ (s₁.setTop (mkF m 37 #[.val (.int p0), .val (.int p1), .val (.int p2), .val (.int p3), .val (.int p4), .val (.long v4), .second, .val (.long v11), .second, .val (.long v18), .second, .val (.long v25), .second, .unset, .unset, .unset, .unset, .unset, .unset, .unset] [(.int (v33 % (6 : Int32))), (.int (1 : Int32))]))
  generalize hv36 : ((v33 % (6 : Int32)) : Int32) = v36
  have q36 : (0 ≤ v33.toInt → v36.toInt = v33.toInt % 6) ∧ (v33.toInt < 0 → v36.toInt = -((-v33.toInt) % 6)) := by have qq := c_irem v33 (6 : Int32) 6 rfl; rw [hv36] at qq; exact qq
  have r36 := rng32 v36
  show Dn p e below s _ _ _ (s₁.setTop (mkF m 37 #[.val (.int p0), .val (.int p1), .val (.int p2), .val (.int p3), .val (.int p4), .val (.long v4), .second, .val (.long v11), .second, .val (.long v18), .second, .val (.long v25), .second, .unset, .unset, .unset, .unset, .unset, .unset, .unset] [(.int v36), (.int (1 : Int32))]))
  refine Dn.st (fun _ kk => XS.iadd X0.here hx rfl (hb hby at_37) rfl (kk)) ?_
  show Dn p e below s _ _ _ (s₁.setTop (mkF m 38 #[.val (.int p0), .val (.int p1), .val (.int p2), .val (.int p3), .val (.int p4), .val (.long v4), .second, .val (.long v11), .second, .val (.long v18), .second, .val (.long v25), .second, .unset, .unset, .unset, .unset, .unset, .unset, .unset] [(.int ((1 : Int32) + v36))]))
  generalize hv37 : (((1 : Int32) + v36) : Int32) = v37
  have q37 : (v37.toInt - (1 + v36.toInt)) % 4294967296 = 0 := by have qq := c_iadd (1 : Int32) v36; rw [hv37] at qq; exact qq
  have r37 := rng32 v37
  show Dn p e below s _ _ _ (s₁.setTop (mkF m 38 #[.val (.int p0), .val (.int p1), .val (.int p2), .val (.int p3), .val (.int p4), .val (.long v4), .second, .val (.long v11), .second, .val (.long v18), .second, .val (.long v25), .second, .unset, .unset, .unset, .unset, .unset, .unset, .unset] [(.int v37)]))
  refine Dn.st (fun _ kk => XS.istore X0.here hx rfl (hb hby at_38) rfl (l' := #[.val (.int p0), .val (.int p1), .val (.int p2), .val (.int p3), .val (.int p4), .val (.long v4), .second, .val (.long v11), .second, .val (.long v18), .second, .val (.long v25), .second, .val (.int v37), .unset, .unset, .unset, .unset, .unset, .unset]) rfl (XS.iload X0.here hx rfl (hb hby at_40) rfl  (XS.iconst X0.here hx rfl (hb hby at_42) (XS.iushr X0.here hx rfl (hb hby at_43) rfl (kk))))) ?_
  show Dn p e below s _ _ _ (s₁.setTop (mkF m 44 #[.val (.int p0), .val (.int p1), .val (.int p2), .val (.int p3), .val (.int p4), .val (.long v4), .second, .val (.long v11), .second, .val (.long v18), .second, .val (.long v25), .second, .val (.int v37), .unset, .unset, .unset, .unset, .unset, .unset] [(.int ((p4.toUInt32 >>> ((3 : Int32) &&& 31).toUInt32).toInt32))]))
  generalize hv43 : (((p4.toUInt32 >>> ((3 : Int32) &&& 31).toUInt32).toInt32) : Int32) = v43
  have q43 : v43.toInt = (p4.toInt % 4294967296) / 8 := by have qq := c_iushr p4 (3 : Int32) 3 (by decide) (by decide); rw [hv43] at qq; exact qq
  have r43 := rng32 v43
  show Dn p e below s _ _ _ (s₁.setTop (mkF m 44 #[.val (.int p0), .val (.int p1), .val (.int p2), .val (.int p3), .val (.int p4), .val (.long v4), .second, .val (.long v11), .second, .val (.long v18), .second, .val (.long v25), .second, .val (.int v37), .unset, .unset, .unset, .unset, .unset, .unset] [(.int v43)]))
  refine Dn.st (fun _ kk => XS.iconst X0.here hx rfl (hb hby at_44) (XS.iand X0.here hx rfl (hb hby at_45) rfl (kk))) ?_
  show Dn p e below s _ _ _ (s₁.setTop (mkF m 46 #[.val (.int p0), .val (.int p1), .val (.int p2), .val (.int p3), .val (.int p4), .val (.long v4), .second, .val (.long v11), .second, .val (.long v18), .second, .val (.long v25), .second, .val (.int v37), .unset, .unset, .unset, .unset, .unset, .unset] [(.int (v43 &&& (3 : Int32)))]))
  generalize hv45 : ((v43 &&& (3 : Int32)) : Int32) = v45
  have q45 : v45.toInt = v43.toInt % 4 := by have qq := c_mask v43 (3 : Int32) 2 (by decide) (by decide); rw [hv45] at qq; exact qq
  have r45 := rng32 v45
  show Dn p e below s _ _ _ (s₁.setTop (mkF m 46 #[.val (.int p0), .val (.int p1), .val (.int p2), .val (.int p3), .val (.int p4), .val (.long v4), .second, .val (.long v11), .second, .val (.long v18), .second, .val (.long v25), .second, .val (.int v37), .unset, .unset, .unset, .unset, .unset, .unset] [(.int v45)]))
  rcases own_c4 (v := v45) (by omega) (by omega) with hk46 | hk46 | hk46 | hk46
  · subst hk46
    show Dn p e below s _ _ _ (s₁.setTop (mkF m 46 #[.val (.int p0), .val (.int p1), .val (.int p2), .val (.int p3), .val (.int p4), .val (.long v4), .second, .val (.long v11), .second, .val (.long v18), .second, .val (.long v25), .second, .val (.int v37), .unset, .unset, .unset, .unset, .unset, .unset] [(.int (0 : Int32))]))
    refine Dn.st (fun _ kk => XS.istore X0.here hx rfl (hb hby at_46) rfl (l' := #[.val (.int p0), .val (.int p1), .val (.int p2), .val (.int p3), .val (.int p4), .val (.long v4), .second, .val (.long v11), .second, .val (.long v18), .second, .val (.long v25), .second, .val (.int v37), .val (.int (0 : Int32)), .unset, .unset, .unset, .unset, .unset]) rfl (XS.iload X0.here hx rfl (hb hby at_48) rfl  (kk))) ?_
    show Dn p e below s _ _ _ (s₁.setTop (mkF m 50 #[.val (.int p0), .val (.int p1), .val (.int p2), .val (.int p3), .val (.int p4), .val (.long v4), .second, .val (.long v11), .second, .val (.long v18), .second, .val (.long v25), .second, .val (.int v37), .val (.int (0 : Int32)), .unset, .unset, .unset, .unset, .unset] [(.int (0 : Int32))]))
    obtain ⟨T50, h50, k50, X50, e50, E50, A50, st50⟩ := newP X0 hx hZ (hw _ (List.mem_of_getElem? (i := 0) rfl)) e0 (g := (mkF m 50 #[.val (.int p0), .val (.int p1), .val (.int p2), .val (.int p3), .val (.int p4), .val (.long v4), .second, .val (.long v11), .second, .val (.long v18), .second, .val (.long v25), .second, .val (.int v37), .val (.int (0 : Int32)), .unset, .unset, .unset, .unset, .unset] [(.int (0 : Int32))])) rfl (hb hby at_50) rfl (by decide) (cap := 0) (by decide) (by decide) (by decide) (by decide)
    obtain ⟨b50, g50⟩ : ∃ z, z = h0.size := ⟨_, rfl⟩
    rw [← g50] at A50 st50
    have gn_b50 : n0 ≤ b50 := Nat.le_trans Z0 (Nat.le_of_eq g50.symm)
    have Z50 : n0 ≤ h50.size := Nat.le_trans Z0 E50.1
    have V_b50 : Arv Z h50 b50 k50 .double (0 : Int32) [] (.double (0 : UInt64)) := (Arv.new A50 (by decide)).pad (pad_rep [] (.double (0 : UInt64)) 0)
    refine Dn.st st50 ?_
    show Dn p e below s _ _ _ (T50.setTop (mkF m 52 #[.val (.int p0), .val (.int p1), .val (.int p2), .val (.int p3), .val (.int p4), .val (.long v4), .second, .val (.long v11), .second, .val (.long v18), .second, .val (.long v25), .second, .val (.int v37), .val (.int (0 : Int32)), .unset, .unset, .unset, .unset, .unset] [(.ref b50)]))
    refine Dn.st (fun _ kk => XS.astore X50.here hx rfl (hb hby at_52) rfl rfl (l' := #[.val (.int p0), .val (.int p1), .val (.int p2), .val (.int p3), .val (.int p4), .val (.long v4), .second, .val (.long v11), .second, .val (.long v18), .second, .val (.long v25), .second, .val (.int v37), .val (.int (0 : Int32)), .val (.ref b50), .unset, .unset, .unset, .unset]) rfl (XS.lconst X50.here hx rfl (hb hby at_54) (XS.lstore X50.here hx rfl (hb hby at_55) rfl (l' := #[.val (.int p0), .val (.int p1), .val (.int p2), .val (.int p3), .val (.int p4), .val (.long v4), .second, .val (.long v11), .second, .val (.long v18), .second, .val (.long v25), .second, .val (.int v37), .val (.int (0 : Int32)), .val (.ref b50), .val (.long (0 : Int64)), .second, .unset, .unset]) rfl (XS.iload X50.here hx rfl (hb hby at_57) rfl  (kk))))) ?_
    show Dn p e below s _ _ _ (T50.setTop (mkF m 59 #[.val (.int p0), .val (.int p1), .val (.int p2), .val (.int p3), .val (.int p4), .val (.long v4), .second, .val (.long v11), .second, .val (.long v18), .second, .val (.long v25), .second, .val (.int v37), .val (.int (0 : Int32)), .val (.ref b50), .val (.long (0 : Int64)), .second, .unset, .unset] [(.int (0 : Int32))]))
    have hc59 : ¬ ((0 : Int32) < (0 : Int32)) := by decide
    refine Dn.st (fun _ kk => XS.ifYes X50.here hx rfl (pc0 := 59) (pc' := 84) rfl (hb hby at_59) rfl ((if0 _ _).trans (flt hc59).2.2.2) (by decide) (by decide) (XS.iload X50.here hx rfl (hb hby at_84) rfl  (XS.iconst X50.here hx rfl (hb hby at_86) (kk)))) ?_
    show Dn p e below s _ _ _ (T50.setTop (mkF m 87 #[.val (.int p0), .val (.int p1), .val (.int p2), .val (.int p3), .val (.int p4), .val (.long v4), .second, .val (.long v11), .second, .val (.long v18), .second, .val (.long v25), .second, .val (.int v37), .val (.int (0 : Int32)), .val (.ref b50), .val (.long (0 : Int64)), .second, .unset, .unset] [(.int (1 : Int32)), (.int (0 : Int32))]))
    have hc87 : ¬ ((1 : Int32) < (0 : Int32)) := by decide
    refine Dn.st (fun _ kk => XS.icmpYes X50.here hx rfl (pc0 := 87) (pc' := 112) rfl (hb hby at_87) rfl (flt hc87).2.2.2 (by decide) (by decide) (XS.iload X50.here hx rfl (hb hby at_112) rfl  (XS.iconst X50.here hx rfl (hb hby at_114) (kk)))) ?_
    show Dn p e below s _ _ _ (T50.setTop (mkF m 115 #[.val (.int p0), .val (.int p1), .val (.int p2), .val (.int p3), .val (.int p4), .val (.long v4), .second, .val (.long v11), .second, .val (.long v18), .second, .val (.long v25), .second, .val (.int v37), .val (.int (0 : Int32)), .val (.ref b50), .val (.long (0 : Int64)), .second, .unset, .unset] [(.int (2 : Int32)), (.int (0 : Int32))]))
    have hc115 : ¬ ((2 : Int32) < (0 : Int32)) := by decide
    refine Dn.st (fun _ kk => XS.icmpYes X50.here hx rfl (pc0 := 115) (pc' := 140) rfl (hb hby at_115) rfl (flt hc115).2.2.2 (by decide) (by decide) (XS.aload X50.here hx rfl (hb hby at_140) rfl rfl (XS.lload X50.here hx rfl (hb hby at_142) rfl  (kk)))) ?_
    show Dn p e below s _ _ _ (T50.setTop (mkF m 144 #[.val (.int p0), .val (.int p1), .val (.int p2), .val (.int p3), .val (.int p4), .val (.long v4), .second, .val (.long v11), .second, .val (.long v18), .second, .val (.long v25), .second, .val (.int v37), .val (.int (0 : Int32)), .val (.ref b50), .val (.long (0 : Int64)), .second, .unset, .unset] [(.long v25), (.ref b50)]))
    have d144 := DS.l2d (v := v25) (by omega)
    refine Dn.st (fun _ kk => XS.l2dS X50.here hx rfl (hb hby at_144) rfl rfl (kk)) ?_
    show Dn p e below s _ _ _ (T50.setTop (mkF m 145 #[.val (.int p0), .val (.int p1), .val (.int p2), .val (.int p3), .val (.int p4), .val (.long v4), .second, .val (.long v11), .second, .val (.long v18), .second, .val (.long v25), .second, .val (.int v37), .val (.int (0 : Int32)), .val (.ref b50), .val (.long (0 : Int64)), .second, .unset, .unset] [(.double (FP.l2d v25)), (.ref b50)]))
    generalize hv144 : ((FP.l2d v25) : UInt64) = v144 at d144 ⊢
    show Dn p e below s _ _ _ (T50.setTop (mkF m 145 #[.val (.int p0), .val (.int p1), .val (.int p2), .val (.int p3), .val (.int p4), .val (.long v4), .second, .val (.long v11), .second, .val (.long v18), .second, .val (.long v25), .second, .val (.int v37), .val (.int (0 : Int32)), .val (.ref b50), .val (.long (0 : Int64)), .second, .unset, .unset] [(.double v144), (.ref b50)]))
    refine Dn.st (fun _ kk => XS.iload X50.here hx rfl (hb hby at_145) rfl  (kk)) ?_
    show Dn p e below s _ _ _ (T50.setTop (mkF m 147 #[.val (.int p0), .val (.int p1), .val (.int p2), .val (.int p3), .val (.int p4), .val (.long v4), .second, .val (.long v11), .second, .val (.long v18), .second, .val (.long v25), .second, .val (.int v37), .val (.int (0 : Int32)), .val (.ref b50), .val (.long (0 : Int64)), .second, .unset, .unset] [(.int v37), (.double v144), (.ref b50)]))
    obtain ⟨_, _, ⟨T147, L147, k147, n147⟩, -, X147, ⟨Lc147, hQ147, l147, y147, z147⟩, st147⟩ := Jvm.LawKit.callS X50 hx (y := (⟨"com/example/listino/listino/stats/Moments", "sumOfPowers", "([DDI)D"⟩ : MethodName)) hown (mvT hZ (hw _ (List.mem_of_getElem? (i := 1) rfl))) (mvT hZ (hw _ (List.mem_of_getElem? (i := 2) rfl))) (mvT hZ (hw _ (List.mem_of_getElem? (i := 3) rfl))) (mvT hZ (hw _ (List.mem_of_getElem? (i := 4) rfl))) (by decide) (backOf (W := 0) (rm1_0 l Z a0 hw [] b50 v144 v37 (v37.toInt - 1).toNat k50   v25.toInt h50 n0 Z50 (by omega) (by omega) V_b50 d144  ) hZ (hw _ (List.mem_of_getElem? (i := 4) rfl)) (hw _ (List.mem_of_getElem? (i := 3) rfl)) (by decide) (by decide)) (g := (mkF m 147 #[.val (.int p0), .val (.int p1), .val (.int p2), .val (.int p3), .val (.int p4), .val (.long v4), .second, .val (.long v11), .second, .val (.long v18), .second, .val (.long v25), .second, .val (.int v37), .val (.int (0 : Int32)), .val (.ref b50), .val (.long (0 : Int64)), .second, .unset, .unset] [(.int v37), (.double v144), (.ref b50)])) rfl (by rw [hml]; rfl) (argsL := [(.ref b50), (.double v144), (.int v37)]) (rest := []) (lenOf pd0 rfl) rfl (by show 2 * 0 + _ ≤ _; exact Nat.le_of_eq rfl) (hb hby at_147) (fun _ _ => ⟨rfl, e50, (by decide : 1 + 0 ≤ _), (by decide : 0 + 0 ≤ _)⟩)
    dsimp only [Pt.U, Pt.locs, Pt.cells, Pt.slots] at X147 l147 y147 z147 st147 hQ147
    subst l147 y147 z147
    obtain ⟨z147, rfl, d147, Nq147, hh147⟩ := hQ147
    have N147 := Fr.app N0 Nq147
    refine Dn.st st147 ?_
    show Dn p e below s _ _ _ (T147.setTop (mkF m 150 #[.val (.int p0), .val (.int p1), .val (.int p2), .val (.int p3), .val (.int p4), .val (.long v4), .second, .val (.long v11), .second, .val (.long v18), .second, .val (.long v25), .second, .val (.int v37), .val (.int (0 : Int32)), .val (.ref b50), .val (.long (0 : Int64)), .second, .unset, .unset] [(.double z147)]))
    refine Dn.st (fun _ kk => XS.dstore X147.here hx rfl (hb hby at_150) rfl (l' := #[.val (.int p0), .val (.int p1), .val (.int p2), .val (.int p3), .val (.int p4), .val (.long v4), .second, .val (.long v11), .second, .val (.long v18), .second, .val (.long v25), .second, .val (.int v37), .val (.int (0 : Int32)), .val (.ref b50), .val (.long (0 : Int64)), .second, .val (.double z147), .second]) rfl (XS.dload X147.here hx rfl (hb hby at_152) rfl  (XS.lload X147.here hx rfl (hb hby at_154) rfl  (kk)))) ?_
    show Dn p e below s _ _ _ (T147.setTop (mkF m 156 #[.val (.int p0), .val (.int p1), .val (.int p2), .val (.int p3), .val (.int p4), .val (.long v4), .second, .val (.long v11), .second, .val (.long v18), .second, .val (.long v25), .second, .val (.int v37), .val (.int (0 : Int32)), .val (.ref b50), .val (.long (0 : Int64)), .second, .val (.double z147), .second] [(.long (0 : Int64)), (.double z147)]))
    have d156 := DS.l2d (v := (0 : Int64)) (by first | omega | decide)
    refine Dn.st (fun _ kk => XS.l2dS X147.here hx rfl (hb hby at_156) rfl rfl (kk)) ?_
    show Dn p e below s _ _ _ (T147.setTop (mkF m 157 #[.val (.int p0), .val (.int p1), .val (.int p2), .val (.int p3), .val (.int p4), .val (.long v4), .second, .val (.long v11), .second, .val (.long v18), .second, .val (.long v25), .second, .val (.int v37), .val (.int (0 : Int32)), .val (.ref b50), .val (.long (0 : Int64)), .second, .val (.double z147), .second] [(.double (FP.l2d (0 : Int64))), (.double z147)]))
    generalize hv156 : ((FP.l2d (0 : Int64)) : UInt64) = v156 at d156 ⊢
    show Dn p e below s _ _ _ (T147.setTop (mkF m 157 #[.val (.int p0), .val (.int p1), .val (.int p2), .val (.int p3), .val (.int p4), .val (.long v4), .second, .val (.long v11), .second, .val (.long v18), .second, .val (.long v25), .second, .val (.int v37), .val (.int (0 : Int32)), .val (.ref b50), .val (.long (0 : Int64)), .second, .val (.double z147), .second] [(.double v156), (.double z147)]))
    refine Dn.st (fun _ kk => XS.dcmpS X147.here hx rfl (hb hby at_157) rfl (DS.cmpV d147 d156 _) (kk)) ?_
    show Dn p e below s _ _ _ (T147.setTop (mkF m 158 #[.val (.int p0), .val (.int p1), .val (.int p2), .val (.int p3), .val (.int p4), .val (.long v4), .second, .val (.long v11), .second, .val (.long v18), .second, .val (.long v25), .second, .val (.int v37), .val (.int (0 : Int32)), .val (.ref b50), .val (.long (0 : Int64)), .second, .val (.double z147), .second] [(.int (c3 0 (0 : Int64).toInt))]))
    by_cases hc158 : (c3 0 (0 : Int64).toInt) = (0 : Int32)
    · have hi158 := (c3_eq _ _).mp hc158
      refine Dn.st (fun _ kk => XS.ifNo X147.here hx rfl (hb hby at_158) rfl ((if0 _ _).trans (teq hc158).2) (XS.iconst X147.here hx rfl (hb hby at_161) (XS.goto X147.here hx rfl (pc0 := 162) (pc' := 166) rfl (hb hby at_162) (by decide) (by decide) (kk)))) ?_
      show Dn p e below s _ _ _ (T147.setTop (mkF m 166 #[.val (.int p0), .val (.int p1), .val (.int p2), .val (.int p3), .val (.int p4), .val (.long v4), .second, .val (.long v11), .second, .val (.long v18), .second, .val (.long v25), .second, .val (.int v37), .val (.int (0 : Int32)), .val (.ref b50), .val (.long (0 : Int64)), .second, .val (.double z147), .second] [(.int (1 : Int32))]))
      exact Dn.ret X147 hlk hx hret rfl (Or.inl ⟨rfl, Or.inr (Or.inl rfl), _, rfl⟩) (hb hby at_166) (by rw [hh147]; exact ⟨rfl, N147⟩) (by decide) (by decide)
    · have hi158 := mt (c3_eq _ _).mpr hc158
      refine Dn.st (fun _ kk => XS.ifYes X147.here hx rfl (pc0 := 158) (pc' := 165) rfl (hb hby at_158) rfl ((if0 _ _).trans (feq hc158).2) (by decide) (by decide) (kk)) ?_
      show Dn p e below s _ _ _ (T147.setTop (mkF m 165 #[.val (.int p0), .val (.int p1), .val (.int p2), .val (.int p3), .val (.int p4), .val (.long v4), .second, .val (.long v11), .second, .val (.long v18), .second, .val (.long v25), .second, .val (.int v37), .val (.int (0 : Int32)), .val (.ref b50), .val (.long (0 : Int64)), .second, .val (.double z147), .second] []))
      exfalso
      first | omega | exact hi158 rfl
  · subst hk46
    show Dn p e below s _ _ _ (s₁.setTop (mkF m 46 #[.val (.int p0), .val (.int p1), .val (.int p2), .val (.int p3), .val (.int p4), .val (.long v4), .second, .val (.long v11), .second, .val (.long v18), .second, .val (.long v25), .second, .val (.int v37), .unset, .unset, .unset, .unset, .unset, .unset] [(.int (1 : Int32))]))
    refine Dn.st (fun _ kk => XS.istore X0.here hx rfl (hb hby at_46) rfl (l' := #[.val (.int p0), .val (.int p1), .val (.int p2), .val (.int p3), .val (.int p4), .val (.long v4), .second, .val (.long v11), .second, .val (.long v18), .second, .val (.long v25), .second, .val (.int v37), .val (.int (1 : Int32)), .unset, .unset, .unset, .unset, .unset]) rfl (XS.iload X0.here hx rfl (hb hby at_48) rfl  (kk))) ?_
    show Dn p e below s _ _ _ (s₁.setTop (mkF m 50 #[.val (.int p0), .val (.int p1), .val (.int p2), .val (.int p3), .val (.int p4), .val (.long v4), .second, .val (.long v11), .second, .val (.long v18), .second, .val (.long v25), .second, .val (.int v37), .val (.int (1 : Int32)), .unset, .unset, .unset, .unset, .unset] [(.int (1 : Int32))]))
    obtain ⟨T50, h50, k50, X50, e50, E50, A50, st50⟩ := newP X0 hx hZ (hw _ (List.mem_of_getElem? (i := 0) rfl)) e0 (g := (mkF m 50 #[.val (.int p0), .val (.int p1), .val (.int p2), .val (.int p3), .val (.int p4), .val (.long v4), .second, .val (.long v11), .second, .val (.long v18), .second, .val (.long v25), .second, .val (.int v37), .val (.int (1 : Int32)), .unset, .unset, .unset, .unset, .unset] [(.int (1 : Int32))])) rfl (hb hby at_50) rfl (by decide) (cap := 1) (by decide) (by decide) (by decide) (by decide)
    obtain ⟨b50, g50⟩ : ∃ z, z = h0.size := ⟨_, rfl⟩
    rw [← g50] at A50 st50
    have gn_b50 : n0 ≤ b50 := Nat.le_trans Z0 (Nat.le_of_eq g50.symm)
    have Z50 : n0 ≤ h50.size := Nat.le_trans Z0 E50.1
    have V_b50 : Arv Z h50 b50 k50 .double (1 : Int32) [(.double (0 : UInt64))] (.double (0 : UInt64)) := (Arv.new A50 (by decide)).pad (pad_rep [] (.double (0 : UInt64)) 1)
    refine Dn.st st50 ?_
    show Dn p e below s _ _ _ (T50.setTop (mkF m 52 #[.val (.int p0), .val (.int p1), .val (.int p2), .val (.int p3), .val (.int p4), .val (.long v4), .second, .val (.long v11), .second, .val (.long v18), .second, .val (.long v25), .second, .val (.int v37), .val (.int (1 : Int32)), .unset, .unset, .unset, .unset, .unset] [(.ref b50)]))
    refine Dn.st (fun _ kk => XS.astore X50.here hx rfl (hb hby at_52) rfl rfl (l' := #[.val (.int p0), .val (.int p1), .val (.int p2), .val (.int p3), .val (.int p4), .val (.long v4), .second, .val (.long v11), .second, .val (.long v18), .second, .val (.long v25), .second, .val (.int v37), .val (.int (1 : Int32)), .val (.ref b50), .unset, .unset, .unset, .unset]) rfl (XS.lconst X50.here hx rfl (hb hby at_54) (XS.lstore X50.here hx rfl (hb hby at_55) rfl (l' := #[.val (.int p0), .val (.int p1), .val (.int p2), .val (.int p3), .val (.int p4), .val (.long v4), .second, .val (.long v11), .second, .val (.long v18), .second, .val (.long v25), .second, .val (.int v37), .val (.int (1 : Int32)), .val (.ref b50), .val (.long (0 : Int64)), .second, .unset, .unset]) rfl (XS.iload X50.here hx rfl (hb hby at_57) rfl  (kk))))) ?_
    show Dn p e below s _ _ _ (T50.setTop (mkF m 59 #[.val (.int p0), .val (.int p1), .val (.int p2), .val (.int p3), .val (.int p4), .val (.long v4), .second, .val (.long v11), .second, .val (.long v18), .second, .val (.long v25), .second, .val (.int v37), .val (.int (1 : Int32)), .val (.ref b50), .val (.long (0 : Int64)), .second, .unset, .unset] [(.int (1 : Int32))]))
    have hc59 : (0 : Int32) < (1 : Int32) := by decide
    refine Dn.st (fun _ kk => XS.ifNo X50.here hx rfl (hb hby at_59) rfl ((if0 _ _).trans (tlt hc59).2.2.2) (XS.aload X50.here hx rfl (hb hby at_62) rfl rfl (XS.iconst X50.here hx rfl (hb hby at_64) (XS.lload X50.here hx rfl (hb hby at_65) rfl  (kk))))) ?_
    show Dn p e below s _ _ _ (T50.setTop (mkF m 67 #[.val (.int p0), .val (.int p1), .val (.int p2), .val (.int p3), .val (.int p4), .val (.long v4), .second, .val (.long v11), .second, .val (.long v18), .second, .val (.long v25), .second, .val (.int v37), .val (.int (1 : Int32)), .val (.ref b50), .val (.long (0 : Int64)), .second, .unset, .unset] [(.long v4), (.int (0 : Int32)), (.ref b50)]))
    have d67 := DS.l2d (v := v4) (by omega)
    refine Dn.st (fun _ kk => XS.l2dS X50.here hx rfl (hb hby at_67) rfl rfl (kk)) ?_
    show Dn p e below s _ _ _ (T50.setTop (mkF m 68 #[.val (.int p0), .val (.int p1), .val (.int p2), .val (.int p3), .val (.int p4), .val (.long v4), .second, .val (.long v11), .second, .val (.long v18), .second, .val (.long v25), .second, .val (.int v37), .val (.int (1 : Int32)), .val (.ref b50), .val (.long (0 : Int64)), .second, .unset, .unset] [(.double (FP.l2d v4)), (.int (0 : Int32)), (.ref b50)]))
    generalize hv67 : ((FP.l2d v4) : UInt64) = v67 at d67 ⊢
    show Dn p e below s _ _ _ (T50.setTop (mkF m 68 #[.val (.int p0), .val (.int p1), .val (.int p2), .val (.int p3), .val (.int p4), .val (.long v4), .second, .val (.long v11), .second, .val (.long v18), .second, .val (.long v25), .second, .val (.int v37), .val (.int (1 : Int32)), .val (.ref b50), .val (.long (0 : Int64)), .second, .unset, .unset] [(.double v67), (.int (0 : Int32)), (.ref b50)]))
    have Vc_b50_68 := V_b50
    obtain ⟨cl_b50_68, Ar_b50_68, q_b50_68, S_b50_68, N_b50_68, H_b50_68, G_b50_68⟩ := Vc_b50_68
    have hin68 : ¬ ((0 : Int32) < 0 ∨ cl_b50_68.slots.size ≤ ((0 : Int32)).toNatClampNeg) := inb_of S_b50_68 ⟨by decide, by decide⟩
    obtain ⟨T68, h68, X68, e68, W68, st68⟩ := stD X50 hx hZ e50 Ar_b50_68 (j := (0 : Int32)) hin68 (g := (mkF m 68 #[.val (.int p0), .val (.int p1), .val (.int p2), .val (.int p3), .val (.int p4), .val (.long v4), .second, .val (.long v11), .second, .val (.long v18), .second, .val (.long v25), .second, .val (.int v37), .val (.int (1 : Int32)), .val (.ref b50), .val (.long (0 : Int64)), .second, .unset, .unset] [(.double v67), (.int (0 : Int32)), (.ref b50)])) rfl rfl (hb hby at_68)
    have V_b50_68 := Arv.set Ar_b50_68 q_b50_68 S_b50_68 N_b50_68 H_b50_68 G_b50_68 rfl W68 0 rfl (Nat.le_of_ble_eq_true rfl)
    have N68 := Fr.snoc X68 N0 gn_b50
    have Z68 : n0 ≤ h68.size := Nat.le_trans Z50 (Keep.of_wr W68).1
    refine Dn.st st68 ?_
    show Dn p e below s _ _ _ (T68.setTop (mkF m 69 #[.val (.int p0), .val (.int p1), .val (.int p2), .val (.int p3), .val (.int p4), .val (.long v4), .second, .val (.long v11), .second, .val (.long v18), .second, .val (.long v25), .second, .val (.int v37), .val (.int (1 : Int32)), .val (.ref b50), .val (.long (0 : Int64)), .second, .unset, .unset] []))
    refine Dn.st (fun _ kk => XS.lload X68.here hx rfl (hb hby at_69) rfl  (XS.lload X68.here hx rfl (hb hby at_71) rfl  (XS.lload X68.here hx rfl (hb hby at_73) rfl  (XS.lsub X68.here hx rfl (hb hby at_75) rfl (kk))))) ?_
    show Dn p e below s _ _ _ (T68.setTop (mkF m 76 #[.val (.int p0), .val (.int p1), .val (.int p2), .val (.int p3), .val (.int p4), .val (.long v4), .second, .val (.long v11), .second, .val (.long v18), .second, .val (.long v25), .second, .val (.int v37), .val (.int (1 : Int32)), .val (.ref b50), .val (.long (0 : Int64)), .second, .unset, .unset] [(.long (v4 - v25)), (.long (0 : Int64))]))
    generalize hv75 : ((v4 - v25) : Int64) = v75
    have q75 : (v75.toInt - (v4.toInt - v25.toInt)) % 18446744073709551616 = 0 := by have qq := c_lsub v4 v25; rw [hv75] at qq; exact qq
    have r75 := rng64 v75
    show Dn p e below s _ _ _ (T68.setTop (mkF m 76 #[.val (.int p0), .val (.int p1), .val (.int p2), .val (.int p3), .val (.int p4), .val (.long v4), .second, .val (.long v11), .second, .val (.long v18), .second, .val (.long v25), .second, .val (.int v37), .val (.int (1 : Int32)), .val (.ref b50), .val (.long (0 : Int64)), .second, .unset, .unset] [(.long v75), (.long (0 : Int64))]))
    refine Dn.st (fun _ kk => XS.iload X68.here hx rfl (hb hby at_76) rfl  (kk)) ?_
    show Dn p e below s _ _ _ (T68.setTop (mkF m 78 #[.val (.int p0), .val (.int p1), .val (.int p2), .val (.int p3), .val (.int p4), .val (.long v4), .second, .val (.long v11), .second, .val (.long v18), .second, .val (.long v25), .second, .val (.int v37), .val (.int (1 : Int32)), .val (.ref b50), .val (.long (0 : Int64)), .second, .unset, .unset] [(.int v37), (.long v75), (.long (0 : Int64))]))
    obtain ⟨_, _, ⟨T78, L78, k78, n78⟩, -, X78, ⟨Lc78, hQ78, l78, y78, z78⟩, st78⟩ := Jvm.LawKit.callS X68 hx (y := (⟨"com/example/listino/listino/stats/MomentsSumOfPowersPinLaw", "pow", "(JI)J"⟩ : MethodName)) hown (mvT hZ (hw _ (List.mem_of_getElem? (i := 5) rfl))) (mvT hZ (hw _ (List.mem_of_getElem? (i := 6) rfl))) (mvT hZ (hw _ (List.mem_of_getElem? (i := 7) rfl))) (mvT hZ (hw _ (List.mem_of_getElem? (i := 8) rfl))) (by decide) (backOf (W := 2) (rm2 l Z a0 hw [] v75 v37 (v37.toInt - 1).toNat h68 n0 Z68 (by omega) (by omega) (by omega) (by omega)) hZ (hw _ (List.mem_of_getElem? (i := 8) rfl)) (hw _ (List.mem_of_getElem? (i := 7) rfl)) (by decide) (by decide)) (g := (mkF m 78 #[.val (.int p0), .val (.int p1), .val (.int p2), .val (.int p3), .val (.int p4), .val (.long v4), .second, .val (.long v11), .second, .val (.long v18), .second, .val (.long v25), .second, .val (.int v37), .val (.int (1 : Int32)), .val (.ref b50), .val (.long (0 : Int64)), .second, .unset, .unset] [(.int v37), (.long v75), (.long (0 : Int64))])) rfl (by rw [hml]; rfl) (argsL := [(.long v75), (.int v37)]) (rest := [(.long (0 : Int64))]) (lenOf pd1 rfl) rfl (by show 2 * 0 + _ ≤ _; exact Nat.le_of_eq rfl) (hb hby at_78) (fun _ _ => ⟨rfl, e68, (by decide : 1 + 0 ≤ _), (by decide : 1 + 0 ≤ _)⟩)
    dsimp only [Pt.U, Pt.locs, Pt.cells, Pt.slots] at X78 l78 y78 z78 st78 hQ78
    subst l78 y78 z78
    obtain ⟨z78, rfl, w78, Nq78, hh78⟩ := hQ78
    have N78 := Fr.app N68 Nq78
    refine Dn.st st78 ?_
    have ed78 : v75.toInt = v4.toInt - v25.toInt := by omega
    rw [ed78] at w78
    have pb78 := own_p6 (d := v4.toInt - v25.toInt) (by omega) (by omega) (t := (v37.toInt - 1).toNat) (by omega)
    show Dn p e below s _ _ _ (T78.setTop (mkF m 81 #[.val (.int p0), .val (.int p1), .val (.int p2), .val (.int p3), .val (.int p4), .val (.long v4), .second, .val (.long v11), .second, .val (.long v18), .second, .val (.long v25), .second, .val (.int v37), .val (.int (1 : Int32)), .val (.ref b50), .val (.long (0 : Int64)), .second, .unset, .unset] [(.long z78), (.long (0 : Int64))]))
    refine Dn.st (fun _ kk => XS.ladd X78.here hx rfl (hb hby at_81) rfl (kk)) ?_
    show Dn p e below s _ _ _ (T78.setTop (mkF m 82 #[.val (.int p0), .val (.int p1), .val (.int p2), .val (.int p3), .val (.int p4), .val (.long v4), .second, .val (.long v11), .second, .val (.long v18), .second, .val (.long v25), .second, .val (.int v37), .val (.int (1 : Int32)), .val (.ref b50), .val (.long (0 : Int64)), .second, .unset, .unset] [(.long ((0 : Int64) + z78))]))
    generalize hv81 : (((0 : Int64) + z78) : Int64) = v81
    have q81 : (v81.toInt - (0 + z78.toInt)) % 18446744073709551616 = 0 := by have qq := c_ladd (0 : Int64) z78; rw [hv81] at qq; exact qq
    have r81 := rng64 v81
    show Dn p e below s _ _ _ (T78.setTop (mkF m 82 #[.val (.int p0), .val (.int p1), .val (.int p2), .val (.int p3), .val (.int p4), .val (.long v4), .second, .val (.long v11), .second, .val (.long v18), .second, .val (.long v25), .second, .val (.int v37), .val (.int (1 : Int32)), .val (.ref b50), .val (.long (0 : Int64)), .second, .unset, .unset] [(.long v81)]))
    refine Dn.st (fun _ kk => XS.lstore X78.here hx rfl (hb hby at_82) rfl (l' := #[.val (.int p0), .val (.int p1), .val (.int p2), .val (.int p3), .val (.int p4), .val (.long v4), .second, .val (.long v11), .second, .val (.long v18), .second, .val (.long v25), .second, .val (.int v37), .val (.int (1 : Int32)), .val (.ref b50), .val (.long v81), .second, .unset, .unset]) rfl (XS.iload X78.here hx rfl (hb hby at_84) rfl  (XS.iconst X78.here hx rfl (hb hby at_86) (kk)))) ?_
    show Dn p e below s _ _ _ (T78.setTop (mkF m 87 #[.val (.int p0), .val (.int p1), .val (.int p2), .val (.int p3), .val (.int p4), .val (.long v4), .second, .val (.long v11), .second, .val (.long v18), .second, .val (.long v25), .second, .val (.int v37), .val (.int (1 : Int32)), .val (.ref b50), .val (.long v81), .second, .unset, .unset] [(.int (1 : Int32)), (.int (1 : Int32))]))
    have hc87 : ¬ ((1 : Int32) < (1 : Int32)) := by decide
    refine Dn.st (fun _ kk => XS.icmpYes X78.here hx rfl (pc0 := 87) (pc' := 112) rfl (hb hby at_87) rfl (flt hc87).2.2.2 (by decide) (by decide) (XS.iload X78.here hx rfl (hb hby at_112) rfl  (XS.iconst X78.here hx rfl (hb hby at_114) (kk)))) ?_
    show Dn p e below s _ _ _ (T78.setTop (mkF m 115 #[.val (.int p0), .val (.int p1), .val (.int p2), .val (.int p3), .val (.int p4), .val (.long v4), .second, .val (.long v11), .second, .val (.long v18), .second, .val (.long v25), .second, .val (.int v37), .val (.int (1 : Int32)), .val (.ref b50), .val (.long v81), .second, .unset, .unset] [(.int (2 : Int32)), (.int (1 : Int32))]))
    have hc115 : ¬ ((2 : Int32) < (1 : Int32)) := by decide
    refine Dn.st (fun _ kk => XS.icmpYes X78.here hx rfl (pc0 := 115) (pc' := 140) rfl (hb hby at_115) rfl (flt hc115).2.2.2 (by decide) (by decide) (XS.aload X78.here hx rfl (hb hby at_140) rfl rfl (XS.lload X78.here hx rfl (hb hby at_142) rfl  (kk)))) ?_
    show Dn p e below s _ _ _ (T78.setTop (mkF m 144 #[.val (.int p0), .val (.int p1), .val (.int p2), .val (.int p3), .val (.int p4), .val (.long v4), .second, .val (.long v11), .second, .val (.long v18), .second, .val (.long v25), .second, .val (.int v37), .val (.int (1 : Int32)), .val (.ref b50), .val (.long v81), .second, .unset, .unset] [(.long v25), (.ref b50)]))
    have d144 := DS.l2d (v := v25) (by omega)
    refine Dn.st (fun _ kk => XS.l2dS X78.here hx rfl (hb hby at_144) rfl rfl (kk)) ?_
    show Dn p e below s _ _ _ (T78.setTop (mkF m 145 #[.val (.int p0), .val (.int p1), .val (.int p2), .val (.int p3), .val (.int p4), .val (.long v4), .second, .val (.long v11), .second, .val (.long v18), .second, .val (.long v25), .second, .val (.int v37), .val (.int (1 : Int32)), .val (.ref b50), .val (.long v81), .second, .unset, .unset] [(.double (FP.l2d v25)), (.ref b50)]))
    generalize hv144 : ((FP.l2d v25) : UInt64) = v144 at d144 ⊢
    show Dn p e below s _ _ _ (T78.setTop (mkF m 145 #[.val (.int p0), .val (.int p1), .val (.int p2), .val (.int p3), .val (.int p4), .val (.long v4), .second, .val (.long v11), .second, .val (.long v18), .second, .val (.long v25), .second, .val (.int v37), .val (.int (1 : Int32)), .val (.ref b50), .val (.long v81), .second, .unset, .unset] [(.double v144), (.ref b50)]))
    refine Dn.st (fun _ kk => XS.iload X78.here hx rfl (hb hby at_145) rfl  (kk)) ?_
    show Dn p e below s _ _ _ (T78.setTop (mkF m 147 #[.val (.int p0), .val (.int p1), .val (.int p2), .val (.int p3), .val (.int p4), .val (.long v4), .second, .val (.long v11), .second, .val (.long v18), .second, .val (.long v25), .second, .val (.int v37), .val (.int (1 : Int32)), .val (.ref b50), .val (.long v81), .second, .unset, .unset] [(.int v37), (.double v144), (.ref b50)]))
    obtain ⟨_, _, ⟨T147, L147, k147, n147⟩, -, X147, ⟨Lc147, hQ147, l147, y147, z147⟩, st147⟩ := Jvm.LawKit.callS X78 hx (y := (⟨"com/example/listino/listino/stats/Moments", "sumOfPowers", "([DDI)D"⟩ : MethodName)) hown (mvT hZ (hw _ (List.mem_of_getElem? (i := 1) rfl))) (mvT hZ (hw _ (List.mem_of_getElem? (i := 2) rfl))) (mvT hZ (hw _ (List.mem_of_getElem? (i := 3) rfl))) (mvT hZ (hw _ (List.mem_of_getElem? (i := 4) rfl))) (by decide) (backOf (W := 0) (rm1_1 l Z a0 hw [] b50 v144 v37 (v37.toInt - 1).toNat k50 v67 v4.toInt v25.toInt h68 n0 Z68 (by omega) (by omega) V_b50_68 d144 d67 ⟨by omega, by omega⟩) hZ (hw _ (List.mem_of_getElem? (i := 4) rfl)) (hw _ (List.mem_of_getElem? (i := 3) rfl)) (by decide) (by decide)) (g := (mkF m 147 #[.val (.int p0), .val (.int p1), .val (.int p2), .val (.int p3), .val (.int p4), .val (.long v4), .second, .val (.long v11), .second, .val (.long v18), .second, .val (.long v25), .second, .val (.int v37), .val (.int (1 : Int32)), .val (.ref b50), .val (.long v81), .second, .unset, .unset] [(.int v37), (.double v144), (.ref b50)])) rfl (by rw [hml]; rfl) (argsL := [(.ref b50), (.double v144), (.int v37)]) (rest := []) (lenOf pd0 rfl) rfl (by show 2 * 0 + _ ≤ _; exact Nat.le_of_eq rfl) (hb hby at_147) (fun _ _ => ⟨rfl, hh78, (by decide : 1 + 0 ≤ _), (by decide : 1 + 0 ≤ _)⟩)
    dsimp only [Pt.U, Pt.locs, Pt.cells, Pt.slots] at X147 l147 y147 z147 st147 hQ147
    subst l147 y147 z147
    obtain ⟨z147, rfl, d147, Nq147, hh147⟩ := hQ147
    have N147 := Fr.app N78 Nq147
    refine Dn.st st147 ?_
    show Dn p e below s _ _ _ (T147.setTop (mkF m 150 #[.val (.int p0), .val (.int p1), .val (.int p2), .val (.int p3), .val (.int p4), .val (.long v4), .second, .val (.long v11), .second, .val (.long v18), .second, .val (.long v25), .second, .val (.int v37), .val (.int (1 : Int32)), .val (.ref b50), .val (.long v81), .second, .unset, .unset] [(.double z147)]))
    refine Dn.st (fun _ kk => XS.dstore X147.here hx rfl (hb hby at_150) rfl (l' := #[.val (.int p0), .val (.int p1), .val (.int p2), .val (.int p3), .val (.int p4), .val (.long v4), .second, .val (.long v11), .second, .val (.long v18), .second, .val (.long v25), .second, .val (.int v37), .val (.int (1 : Int32)), .val (.ref b50), .val (.long v81), .second, .val (.double z147), .second]) rfl (XS.dload X147.here hx rfl (hb hby at_152) rfl  (XS.lload X147.here hx rfl (hb hby at_154) rfl  (kk)))) ?_
    show Dn p e below s _ _ _ (T147.setTop (mkF m 156 #[.val (.int p0), .val (.int p1), .val (.int p2), .val (.int p3), .val (.int p4), .val (.long v4), .second, .val (.long v11), .second, .val (.long v18), .second, .val (.long v25), .second, .val (.int v37), .val (.int (1 : Int32)), .val (.ref b50), .val (.long v81), .second, .val (.double z147), .second] [(.long v81), (.double z147)]))
    have d156 := DS.l2d (v := v81) (by first | omega | decide)
    refine Dn.st (fun _ kk => XS.l2dS X147.here hx rfl (hb hby at_156) rfl rfl (kk)) ?_
    show Dn p e below s _ _ _ (T147.setTop (mkF m 157 #[.val (.int p0), .val (.int p1), .val (.int p2), .val (.int p3), .val (.int p4), .val (.long v4), .second, .val (.long v11), .second, .val (.long v18), .second, .val (.long v25), .second, .val (.int v37), .val (.int (1 : Int32)), .val (.ref b50), .val (.long v81), .second, .val (.double z147), .second] [(.double (FP.l2d v81)), (.double z147)]))
    generalize hv156 : ((FP.l2d v81) : UInt64) = v156 at d156 ⊢
    show Dn p e below s _ _ _ (T147.setTop (mkF m 157 #[.val (.int p0), .val (.int p1), .val (.int p2), .val (.int p3), .val (.int p4), .val (.long v4), .second, .val (.long v11), .second, .val (.long v18), .second, .val (.long v25), .second, .val (.int v37), .val (.int (1 : Int32)), .val (.ref b50), .val (.long v81), .second, .val (.double z147), .second] [(.double v156), (.double z147)]))
    refine Dn.st (fun _ kk => XS.dcmpS X147.here hx rfl (hb hby at_157) rfl (DS.cmpV d147 d156 _) (kk)) ?_
    show Dn p e below s _ _ _ (T147.setTop (mkF m 158 #[.val (.int p0), .val (.int p1), .val (.int p2), .val (.int p3), .val (.int p4), .val (.long v4), .second, .val (.long v11), .second, .val (.long v18), .second, .val (.long v25), .second, .val (.int v37), .val (.int (1 : Int32)), .val (.ref b50), .val (.long v81), .second, .val (.double z147), .second] [(.int (c3 (0 + own_pw (v4.toInt - v25.toInt) (v37.toInt - 1).toNat) v81.toInt))]))
    by_cases hc158 : (c3 (0 + own_pw (v4.toInt - v25.toInt) (v37.toInt - 1).toNat) v81.toInt) = (0 : Int32)
    · have hi158 := (c3_eq _ _).mp hc158
      refine Dn.st (fun _ kk => XS.ifNo X147.here hx rfl (hb hby at_158) rfl ((if0 _ _).trans (teq hc158).2) (XS.iconst X147.here hx rfl (hb hby at_161) (XS.goto X147.here hx rfl (pc0 := 162) (pc' := 166) rfl (hb hby at_162) (by decide) (by decide) (kk)))) ?_
      show Dn p e below s _ _ _ (T147.setTop (mkF m 166 #[.val (.int p0), .val (.int p1), .val (.int p2), .val (.int p3), .val (.int p4), .val (.long v4), .second, .val (.long v11), .second, .val (.long v18), .second, .val (.long v25), .second, .val (.int v37), .val (.int (1 : Int32)), .val (.ref b50), .val (.long v81), .second, .val (.double z147), .second] [(.int (1 : Int32))]))
      exact Dn.ret X147 hlk hx hret rfl (Or.inl ⟨rfl, Or.inr (Or.inl rfl), _, rfl⟩) (hb hby at_166) (by rw [hh147]; exact ⟨rfl, N147⟩) (by decide) (by decide)
    · have hi158 := mt (c3_eq _ _).mpr hc158
      refine Dn.st (fun _ kk => XS.ifYes X147.here hx rfl (pc0 := 158) (pc' := 165) rfl (hb hby at_158) rfl ((if0 _ _).trans (feq hc158).2) (by decide) (by decide) (kk)) ?_
      show Dn p e below s _ _ _ (T147.setTop (mkF m 165 #[.val (.int p0), .val (.int p1), .val (.int p2), .val (.int p3), .val (.int p4), .val (.long v4), .second, .val (.long v11), .second, .val (.long v18), .second, .val (.long v25), .second, .val (.int v37), .val (.int (1 : Int32)), .val (.ref b50), .val (.long v81), .second, .val (.double z147), .second] []))
      exfalso
      first | omega | exact hi158 rfl
  · subst hk46
    show Dn p e below s _ _ _ (s₁.setTop (mkF m 46 #[.val (.int p0), .val (.int p1), .val (.int p2), .val (.int p3), .val (.int p4), .val (.long v4), .second, .val (.long v11), .second, .val (.long v18), .second, .val (.long v25), .second, .val (.int v37), .unset, .unset, .unset, .unset, .unset, .unset] [(.int (2 : Int32))]))
    refine Dn.st (fun _ kk => XS.istore X0.here hx rfl (hb hby at_46) rfl (l' := #[.val (.int p0), .val (.int p1), .val (.int p2), .val (.int p3), .val (.int p4), .val (.long v4), .second, .val (.long v11), .second, .val (.long v18), .second, .val (.long v25), .second, .val (.int v37), .val (.int (2 : Int32)), .unset, .unset, .unset, .unset, .unset]) rfl (XS.iload X0.here hx rfl (hb hby at_48) rfl  (kk))) ?_
    show Dn p e below s _ _ _ (s₁.setTop (mkF m 50 #[.val (.int p0), .val (.int p1), .val (.int p2), .val (.int p3), .val (.int p4), .val (.long v4), .second, .val (.long v11), .second, .val (.long v18), .second, .val (.long v25), .second, .val (.int v37), .val (.int (2 : Int32)), .unset, .unset, .unset, .unset, .unset] [(.int (2 : Int32))]))
    obtain ⟨T50, h50, k50, X50, e50, E50, A50, st50⟩ := newP X0 hx hZ (hw _ (List.mem_of_getElem? (i := 0) rfl)) e0 (g := (mkF m 50 #[.val (.int p0), .val (.int p1), .val (.int p2), .val (.int p3), .val (.int p4), .val (.long v4), .second, .val (.long v11), .second, .val (.long v18), .second, .val (.long v25), .second, .val (.int v37), .val (.int (2 : Int32)), .unset, .unset, .unset, .unset, .unset] [(.int (2 : Int32))])) rfl (hb hby at_50) rfl (by decide) (cap := 2) (by decide) (by decide) (by decide) (by decide)
    obtain ⟨b50, g50⟩ : ∃ z, z = h0.size := ⟨_, rfl⟩
    rw [← g50] at A50 st50
    have gn_b50 : n0 ≤ b50 := Nat.le_trans Z0 (Nat.le_of_eq g50.symm)
    have Z50 : n0 ≤ h50.size := Nat.le_trans Z0 E50.1
    have V_b50 : Arv Z h50 b50 k50 .double (2 : Int32) [(.double (0 : UInt64)), (.double (0 : UInt64))] (.double (0 : UInt64)) := (Arv.new A50 (by decide)).pad (pad_rep [] (.double (0 : UInt64)) 2)
    refine Dn.st st50 ?_
    show Dn p e below s _ _ _ (T50.setTop (mkF m 52 #[.val (.int p0), .val (.int p1), .val (.int p2), .val (.int p3), .val (.int p4), .val (.long v4), .second, .val (.long v11), .second, .val (.long v18), .second, .val (.long v25), .second, .val (.int v37), .val (.int (2 : Int32)), .unset, .unset, .unset, .unset, .unset] [(.ref b50)]))
    refine Dn.st (fun _ kk => XS.astore X50.here hx rfl (hb hby at_52) rfl rfl (l' := #[.val (.int p0), .val (.int p1), .val (.int p2), .val (.int p3), .val (.int p4), .val (.long v4), .second, .val (.long v11), .second, .val (.long v18), .second, .val (.long v25), .second, .val (.int v37), .val (.int (2 : Int32)), .val (.ref b50), .unset, .unset, .unset, .unset]) rfl (XS.lconst X50.here hx rfl (hb hby at_54) (XS.lstore X50.here hx rfl (hb hby at_55) rfl (l' := #[.val (.int p0), .val (.int p1), .val (.int p2), .val (.int p3), .val (.int p4), .val (.long v4), .second, .val (.long v11), .second, .val (.long v18), .second, .val (.long v25), .second, .val (.int v37), .val (.int (2 : Int32)), .val (.ref b50), .val (.long (0 : Int64)), .second, .unset, .unset]) rfl (XS.iload X50.here hx rfl (hb hby at_57) rfl  (kk))))) ?_
    show Dn p e below s _ _ _ (T50.setTop (mkF m 59 #[.val (.int p0), .val (.int p1), .val (.int p2), .val (.int p3), .val (.int p4), .val (.long v4), .second, .val (.long v11), .second, .val (.long v18), .second, .val (.long v25), .second, .val (.int v37), .val (.int (2 : Int32)), .val (.ref b50), .val (.long (0 : Int64)), .second, .unset, .unset] [(.int (2 : Int32))]))
    have hc59 : (0 : Int32) < (2 : Int32) := by decide
    refine Dn.st (fun _ kk => XS.ifNo X50.here hx rfl (hb hby at_59) rfl ((if0 _ _).trans (tlt hc59).2.2.2) (XS.aload X50.here hx rfl (hb hby at_62) rfl rfl (XS.iconst X50.here hx rfl (hb hby at_64) (XS.lload X50.here hx rfl (hb hby at_65) rfl  (kk))))) ?_
    show Dn p e below s _ _ _ (T50.setTop (mkF m 67 #[.val (.int p0), .val (.int p1), .val (.int p2), .val (.int p3), .val (.int p4), .val (.long v4), .second, .val (.long v11), .second, .val (.long v18), .second, .val (.long v25), .second, .val (.int v37), .val (.int (2 : Int32)), .val (.ref b50), .val (.long (0 : Int64)), .second, .unset, .unset] [(.long v4), (.int (0 : Int32)), (.ref b50)]))
    have d67 := DS.l2d (v := v4) (by omega)
    refine Dn.st (fun _ kk => XS.l2dS X50.here hx rfl (hb hby at_67) rfl rfl (kk)) ?_
    show Dn p e below s _ _ _ (T50.setTop (mkF m 68 #[.val (.int p0), .val (.int p1), .val (.int p2), .val (.int p3), .val (.int p4), .val (.long v4), .second, .val (.long v11), .second, .val (.long v18), .second, .val (.long v25), .second, .val (.int v37), .val (.int (2 : Int32)), .val (.ref b50), .val (.long (0 : Int64)), .second, .unset, .unset] [(.double (FP.l2d v4)), (.int (0 : Int32)), (.ref b50)]))
    generalize hv67 : ((FP.l2d v4) : UInt64) = v67 at d67 ⊢
    show Dn p e below s _ _ _ (T50.setTop (mkF m 68 #[.val (.int p0), .val (.int p1), .val (.int p2), .val (.int p3), .val (.int p4), .val (.long v4), .second, .val (.long v11), .second, .val (.long v18), .second, .val (.long v25), .second, .val (.int v37), .val (.int (2 : Int32)), .val (.ref b50), .val (.long (0 : Int64)), .second, .unset, .unset] [(.double v67), (.int (0 : Int32)), (.ref b50)]))
    have Vc_b50_68 := V_b50
    obtain ⟨cl_b50_68, Ar_b50_68, q_b50_68, S_b50_68, N_b50_68, H_b50_68, G_b50_68⟩ := Vc_b50_68
    have hin68 : ¬ ((0 : Int32) < 0 ∨ cl_b50_68.slots.size ≤ ((0 : Int32)).toNatClampNeg) := inb_of S_b50_68 ⟨by decide, by decide⟩
    obtain ⟨T68, h68, X68, e68, W68, st68⟩ := stD X50 hx hZ e50 Ar_b50_68 (j := (0 : Int32)) hin68 (g := (mkF m 68 #[.val (.int p0), .val (.int p1), .val (.int p2), .val (.int p3), .val (.int p4), .val (.long v4), .second, .val (.long v11), .second, .val (.long v18), .second, .val (.long v25), .second, .val (.int v37), .val (.int (2 : Int32)), .val (.ref b50), .val (.long (0 : Int64)), .second, .unset, .unset] [(.double v67), (.int (0 : Int32)), (.ref b50)])) rfl rfl (hb hby at_68)
    have V_b50_68 := Arv.set Ar_b50_68 q_b50_68 S_b50_68 N_b50_68 H_b50_68 G_b50_68 rfl W68 0 rfl (Nat.le_of_ble_eq_true rfl)
    have N68 := Fr.snoc X68 N0 gn_b50
    have Z68 : n0 ≤ h68.size := Nat.le_trans Z50 (Keep.of_wr W68).1
    refine Dn.st st68 ?_
    show Dn p e below s _ _ _ (T68.setTop (mkF m 69 #[.val (.int p0), .val (.int p1), .val (.int p2), .val (.int p3), .val (.int p4), .val (.long v4), .second, .val (.long v11), .second, .val (.long v18), .second, .val (.long v25), .second, .val (.int v37), .val (.int (2 : Int32)), .val (.ref b50), .val (.long (0 : Int64)), .second, .unset, .unset] []))
    refine Dn.st (fun _ kk => XS.lload X68.here hx rfl (hb hby at_69) rfl  (XS.lload X68.here hx rfl (hb hby at_71) rfl  (XS.lload X68.here hx rfl (hb hby at_73) rfl  (XS.lsub X68.here hx rfl (hb hby at_75) rfl (kk))))) ?_
    show Dn p e below s _ _ _ (T68.setTop (mkF m 76 #[.val (.int p0), .val (.int p1), .val (.int p2), .val (.int p3), .val (.int p4), .val (.long v4), .second, .val (.long v11), .second, .val (.long v18), .second, .val (.long v25), .second, .val (.int v37), .val (.int (2 : Int32)), .val (.ref b50), .val (.long (0 : Int64)), .second, .unset, .unset] [(.long (v4 - v25)), (.long (0 : Int64))]))
    generalize hv75 : ((v4 - v25) : Int64) = v75
    have q75 : (v75.toInt - (v4.toInt - v25.toInt)) % 18446744073709551616 = 0 := by have qq := c_lsub v4 v25; rw [hv75] at qq; exact qq
    have r75 := rng64 v75
    show Dn p e below s _ _ _ (T68.setTop (mkF m 76 #[.val (.int p0), .val (.int p1), .val (.int p2), .val (.int p3), .val (.int p4), .val (.long v4), .second, .val (.long v11), .second, .val (.long v18), .second, .val (.long v25), .second, .val (.int v37), .val (.int (2 : Int32)), .val (.ref b50), .val (.long (0 : Int64)), .second, .unset, .unset] [(.long v75), (.long (0 : Int64))]))
    refine Dn.st (fun _ kk => XS.iload X68.here hx rfl (hb hby at_76) rfl  (kk)) ?_
    show Dn p e below s _ _ _ (T68.setTop (mkF m 78 #[.val (.int p0), .val (.int p1), .val (.int p2), .val (.int p3), .val (.int p4), .val (.long v4), .second, .val (.long v11), .second, .val (.long v18), .second, .val (.long v25), .second, .val (.int v37), .val (.int (2 : Int32)), .val (.ref b50), .val (.long (0 : Int64)), .second, .unset, .unset] [(.int v37), (.long v75), (.long (0 : Int64))]))
    obtain ⟨_, _, ⟨T78, L78, k78, n78⟩, -, X78, ⟨Lc78, hQ78, l78, y78, z78⟩, st78⟩ := Jvm.LawKit.callS X68 hx (y := (⟨"com/example/listino/listino/stats/MomentsSumOfPowersPinLaw", "pow", "(JI)J"⟩ : MethodName)) hown (mvT hZ (hw _ (List.mem_of_getElem? (i := 5) rfl))) (mvT hZ (hw _ (List.mem_of_getElem? (i := 6) rfl))) (mvT hZ (hw _ (List.mem_of_getElem? (i := 7) rfl))) (mvT hZ (hw _ (List.mem_of_getElem? (i := 8) rfl))) (by decide) (backOf (W := 2) (rm2 l Z a0 hw [] v75 v37 (v37.toInt - 1).toNat h68 n0 Z68 (by omega) (by omega) (by omega) (by omega)) hZ (hw _ (List.mem_of_getElem? (i := 8) rfl)) (hw _ (List.mem_of_getElem? (i := 7) rfl)) (by decide) (by decide)) (g := (mkF m 78 #[.val (.int p0), .val (.int p1), .val (.int p2), .val (.int p3), .val (.int p4), .val (.long v4), .second, .val (.long v11), .second, .val (.long v18), .second, .val (.long v25), .second, .val (.int v37), .val (.int (2 : Int32)), .val (.ref b50), .val (.long (0 : Int64)), .second, .unset, .unset] [(.int v37), (.long v75), (.long (0 : Int64))])) rfl (by rw [hml]; rfl) (argsL := [(.long v75), (.int v37)]) (rest := [(.long (0 : Int64))]) (lenOf pd1 rfl) rfl (by show 2 * 0 + _ ≤ _; exact Nat.le_of_eq rfl) (hb hby at_78) (fun _ _ => ⟨rfl, e68, (by decide : 1 + 0 ≤ _), (by decide : 2 + 0 ≤ _)⟩)
    dsimp only [Pt.U, Pt.locs, Pt.cells, Pt.slots] at X78 l78 y78 z78 st78 hQ78
    subst l78 y78 z78
    obtain ⟨z78, rfl, w78, Nq78, hh78⟩ := hQ78
    have N78 := Fr.app N68 Nq78
    refine Dn.st st78 ?_
    have ed78 : v75.toInt = v4.toInt - v25.toInt := by omega
    rw [ed78] at w78
    have pb78 := own_p6 (d := v4.toInt - v25.toInt) (by omega) (by omega) (t := (v37.toInt - 1).toNat) (by omega)
    show Dn p e below s _ _ _ (T78.setTop (mkF m 81 #[.val (.int p0), .val (.int p1), .val (.int p2), .val (.int p3), .val (.int p4), .val (.long v4), .second, .val (.long v11), .second, .val (.long v18), .second, .val (.long v25), .second, .val (.int v37), .val (.int (2 : Int32)), .val (.ref b50), .val (.long (0 : Int64)), .second, .unset, .unset] [(.long z78), (.long (0 : Int64))]))
    refine Dn.st (fun _ kk => XS.ladd X78.here hx rfl (hb hby at_81) rfl (kk)) ?_
    show Dn p e below s _ _ _ (T78.setTop (mkF m 82 #[.val (.int p0), .val (.int p1), .val (.int p2), .val (.int p3), .val (.int p4), .val (.long v4), .second, .val (.long v11), .second, .val (.long v18), .second, .val (.long v25), .second, .val (.int v37), .val (.int (2 : Int32)), .val (.ref b50), .val (.long (0 : Int64)), .second, .unset, .unset] [(.long ((0 : Int64) + z78))]))
    generalize hv81 : (((0 : Int64) + z78) : Int64) = v81
    have q81 : (v81.toInt - (0 + z78.toInt)) % 18446744073709551616 = 0 := by have qq := c_ladd (0 : Int64) z78; rw [hv81] at qq; exact qq
    have r81 := rng64 v81
    show Dn p e below s _ _ _ (T78.setTop (mkF m 82 #[.val (.int p0), .val (.int p1), .val (.int p2), .val (.int p3), .val (.int p4), .val (.long v4), .second, .val (.long v11), .second, .val (.long v18), .second, .val (.long v25), .second, .val (.int v37), .val (.int (2 : Int32)), .val (.ref b50), .val (.long (0 : Int64)), .second, .unset, .unset] [(.long v81)]))
    refine Dn.st (fun _ kk => XS.lstore X78.here hx rfl (hb hby at_82) rfl (l' := #[.val (.int p0), .val (.int p1), .val (.int p2), .val (.int p3), .val (.int p4), .val (.long v4), .second, .val (.long v11), .second, .val (.long v18), .second, .val (.long v25), .second, .val (.int v37), .val (.int (2 : Int32)), .val (.ref b50), .val (.long v81), .second, .unset, .unset]) rfl (XS.iload X78.here hx rfl (hb hby at_84) rfl  (XS.iconst X78.here hx rfl (hb hby at_86) (kk)))) ?_
    show Dn p e below s _ _ _ (T78.setTop (mkF m 87 #[.val (.int p0), .val (.int p1), .val (.int p2), .val (.int p3), .val (.int p4), .val (.long v4), .second, .val (.long v11), .second, .val (.long v18), .second, .val (.long v25), .second, .val (.int v37), .val (.int (2 : Int32)), .val (.ref b50), .val (.long v81), .second, .unset, .unset] [(.int (1 : Int32)), (.int (2 : Int32))]))
    have hc87 : (1 : Int32) < (2 : Int32) := by decide
    refine Dn.st (fun _ kk => XS.icmpNo X78.here hx rfl (hb hby at_87) rfl (tlt hc87).2.2.2 (XS.aload X78.here hx rfl (hb hby at_90) rfl rfl (XS.iconst X78.here hx rfl (hb hby at_92) (XS.lload X78.here hx rfl (hb hby at_93) rfl  (kk))))) ?_
    show Dn p e below s _ _ _ (T78.setTop (mkF m 95 #[.val (.int p0), .val (.int p1), .val (.int p2), .val (.int p3), .val (.int p4), .val (.long v4), .second, .val (.long v11), .second, .val (.long v18), .second, .val (.long v25), .second, .val (.int v37), .val (.int (2 : Int32)), .val (.ref b50), .val (.long v81), .second, .unset, .unset] [(.long v11), (.int (1 : Int32)), (.ref b50)]))
    have d95 := DS.l2d (v := v11) (by omega)
    refine Dn.st (fun _ kk => XS.l2dS X78.here hx rfl (hb hby at_95) rfl rfl (kk)) ?_
    show Dn p e below s _ _ _ (T78.setTop (mkF m 96 #[.val (.int p0), .val (.int p1), .val (.int p2), .val (.int p3), .val (.int p4), .val (.long v4), .second, .val (.long v11), .second, .val (.long v18), .second, .val (.long v25), .second, .val (.int v37), .val (.int (2 : Int32)), .val (.ref b50), .val (.long v81), .second, .unset, .unset] [(.double (FP.l2d v11)), (.int (1 : Int32)), (.ref b50)]))
    generalize hv95 : ((FP.l2d v11) : UInt64) = v95 at d95 ⊢
    show Dn p e below s _ _ _ (T78.setTop (mkF m 96 #[.val (.int p0), .val (.int p1), .val (.int p2), .val (.int p3), .val (.int p4), .val (.long v4), .second, .val (.long v11), .second, .val (.long v18), .second, .val (.long v25), .second, .val (.int v37), .val (.int (2 : Int32)), .val (.ref b50), .val (.long v81), .second, .unset, .unset] [(.double v95), (.int (1 : Int32)), (.ref b50)]))
    have Vc_b50_96 := V_b50_68
    obtain ⟨cl_b50_96, Ar_b50_96, q_b50_96, S_b50_96, N_b50_96, H_b50_96, G_b50_96⟩ := Vc_b50_96
    have hin96 : ¬ ((1 : Int32) < 0 ∨ cl_b50_96.slots.size ≤ ((1 : Int32)).toNatClampNeg) := inb_of S_b50_96 ⟨by decide, by decide⟩
    obtain ⟨T96, h96, X96, e96, W96, st96⟩ := stD X78 hx hZ hh78 Ar_b50_96 (j := (1 : Int32)) hin96 (g := (mkF m 96 #[.val (.int p0), .val (.int p1), .val (.int p2), .val (.int p3), .val (.int p4), .val (.long v4), .second, .val (.long v11), .second, .val (.long v18), .second, .val (.long v25), .second, .val (.int v37), .val (.int (2 : Int32)), .val (.ref b50), .val (.long v81), .second, .unset, .unset] [(.double v95), (.int (1 : Int32)), (.ref b50)])) rfl rfl (hb hby at_96)
    have V_b50_96 := Arv.set Ar_b50_96 q_b50_96 S_b50_96 N_b50_96 H_b50_96 G_b50_96 rfl W96 1 rfl (Nat.le_of_ble_eq_true rfl)
    have N96 := Fr.snoc X96 N78 gn_b50
    have Z96 : n0 ≤ h96.size := Nat.le_trans Z68 (Keep.of_wr W96).1
    refine Dn.st st96 ?_
    show Dn p e below s _ _ _ (T96.setTop (mkF m 97 #[.val (.int p0), .val (.int p1), .val (.int p2), .val (.int p3), .val (.int p4), .val (.long v4), .second, .val (.long v11), .second, .val (.long v18), .second, .val (.long v25), .second, .val (.int v37), .val (.int (2 : Int32)), .val (.ref b50), .val (.long v81), .second, .unset, .unset] []))
    refine Dn.st (fun _ kk => XS.lload X96.here hx rfl (hb hby at_97) rfl  (XS.lload X96.here hx rfl (hb hby at_99) rfl  (XS.lload X96.here hx rfl (hb hby at_101) rfl  (XS.lsub X96.here hx rfl (hb hby at_103) rfl (kk))))) ?_
    show Dn p e below s _ _ _ (T96.setTop (mkF m 104 #[.val (.int p0), .val (.int p1), .val (.int p2), .val (.int p3), .val (.int p4), .val (.long v4), .second, .val (.long v11), .second, .val (.long v18), .second, .val (.long v25), .second, .val (.int v37), .val (.int (2 : Int32)), .val (.ref b50), .val (.long v81), .second, .unset, .unset] [(.long (v11 - v25)), (.long v81)]))
    generalize hv103 : ((v11 - v25) : Int64) = v103
    have q103 : (v103.toInt - (v11.toInt - v25.toInt)) % 18446744073709551616 = 0 := by have qq := c_lsub v11 v25; rw [hv103] at qq; exact qq
    have r103 := rng64 v103
    show Dn p e below s _ _ _ (T96.setTop (mkF m 104 #[.val (.int p0), .val (.int p1), .val (.int p2), .val (.int p3), .val (.int p4), .val (.long v4), .second, .val (.long v11), .second, .val (.long v18), .second, .val (.long v25), .second, .val (.int v37), .val (.int (2 : Int32)), .val (.ref b50), .val (.long v81), .second, .unset, .unset] [(.long v103), (.long v81)]))
    refine Dn.st (fun _ kk => XS.iload X96.here hx rfl (hb hby at_104) rfl  (kk)) ?_
    show Dn p e below s _ _ _ (T96.setTop (mkF m 106 #[.val (.int p0), .val (.int p1), .val (.int p2), .val (.int p3), .val (.int p4), .val (.long v4), .second, .val (.long v11), .second, .val (.long v18), .second, .val (.long v25), .second, .val (.int v37), .val (.int (2 : Int32)), .val (.ref b50), .val (.long v81), .second, .unset, .unset] [(.int v37), (.long v103), (.long v81)]))
    obtain ⟨_, _, ⟨T106, L106, k106, n106⟩, -, X106, ⟨Lc106, hQ106, l106, y106, z106⟩, st106⟩ := Jvm.LawKit.callS X96 hx (y := (⟨"com/example/listino/listino/stats/MomentsSumOfPowersPinLaw", "pow", "(JI)J"⟩ : MethodName)) hown (mvT hZ (hw _ (List.mem_of_getElem? (i := 5) rfl))) (mvT hZ (hw _ (List.mem_of_getElem? (i := 6) rfl))) (mvT hZ (hw _ (List.mem_of_getElem? (i := 7) rfl))) (mvT hZ (hw _ (List.mem_of_getElem? (i := 8) rfl))) (by decide) (backOf (W := 2) (rm2 l Z a0 hw [] v103 v37 (v37.toInt - 1).toNat h96 n0 Z96 (by omega) (by omega) (by omega) (by omega)) hZ (hw _ (List.mem_of_getElem? (i := 8) rfl)) (hw _ (List.mem_of_getElem? (i := 7) rfl)) (by decide) (by decide)) (g := (mkF m 106 #[.val (.int p0), .val (.int p1), .val (.int p2), .val (.int p3), .val (.int p4), .val (.long v4), .second, .val (.long v11), .second, .val (.long v18), .second, .val (.long v25), .second, .val (.int v37), .val (.int (2 : Int32)), .val (.ref b50), .val (.long v81), .second, .unset, .unset] [(.int v37), (.long v103), (.long v81)])) rfl (by rw [hml]; rfl) (argsL := [(.long v103), (.int v37)]) (rest := [(.long v81)]) (lenOf pd1 rfl) rfl (by show 2 * 0 + _ ≤ _; exact Nat.le_of_eq rfl) (hb hby at_106) (fun _ _ => ⟨rfl, e96, (by decide : 1 + 0 ≤ _), (by decide : 2 + 0 ≤ _)⟩)
    dsimp only [Pt.U, Pt.locs, Pt.cells, Pt.slots] at X106 l106 y106 z106 st106 hQ106
    subst l106 y106 z106
    obtain ⟨z106, rfl, w106, Nq106, hh106⟩ := hQ106
    have N106 := Fr.app N96 Nq106
    refine Dn.st st106 ?_
    have ed106 : v103.toInt = v11.toInt - v25.toInt := by omega
    rw [ed106] at w106
    have pb106 := own_p6 (d := v11.toInt - v25.toInt) (by omega) (by omega) (t := (v37.toInt - 1).toNat) (by omega)
    show Dn p e below s _ _ _ (T106.setTop (mkF m 109 #[.val (.int p0), .val (.int p1), .val (.int p2), .val (.int p3), .val (.int p4), .val (.long v4), .second, .val (.long v11), .second, .val (.long v18), .second, .val (.long v25), .second, .val (.int v37), .val (.int (2 : Int32)), .val (.ref b50), .val (.long v81), .second, .unset, .unset] [(.long z106), (.long v81)]))
    refine Dn.st (fun _ kk => XS.ladd X106.here hx rfl (hb hby at_109) rfl (kk)) ?_
    show Dn p e below s _ _ _ (T106.setTop (mkF m 110 #[.val (.int p0), .val (.int p1), .val (.int p2), .val (.int p3), .val (.int p4), .val (.long v4), .second, .val (.long v11), .second, .val (.long v18), .second, .val (.long v25), .second, .val (.int v37), .val (.int (2 : Int32)), .val (.ref b50), .val (.long v81), .second, .unset, .unset] [(.long (v81 + z106))]))
    generalize hv109 : ((v81 + z106) : Int64) = v109
    have q109 : (v109.toInt - (v81.toInt + z106.toInt)) % 18446744073709551616 = 0 := by have qq := c_ladd v81 z106; rw [hv109] at qq; exact qq
    have r109 := rng64 v109
    show Dn p e below s _ _ _ (T106.setTop (mkF m 110 #[.val (.int p0), .val (.int p1), .val (.int p2), .val (.int p3), .val (.int p4), .val (.long v4), .second, .val (.long v11), .second, .val (.long v18), .second, .val (.long v25), .second, .val (.int v37), .val (.int (2 : Int32)), .val (.ref b50), .val (.long v81), .second, .unset, .unset] [(.long v109)]))
    refine Dn.st (fun _ kk => XS.lstore X106.here hx rfl (hb hby at_110) rfl (l' := #[.val (.int p0), .val (.int p1), .val (.int p2), .val (.int p3), .val (.int p4), .val (.long v4), .second, .val (.long v11), .second, .val (.long v18), .second, .val (.long v25), .second, .val (.int v37), .val (.int (2 : Int32)), .val (.ref b50), .val (.long v109), .second, .unset, .unset]) rfl (XS.iload X106.here hx rfl (hb hby at_112) rfl  (XS.iconst X106.here hx rfl (hb hby at_114) (kk)))) ?_
    show Dn p e below s _ _ _ (T106.setTop (mkF m 115 #[.val (.int p0), .val (.int p1), .val (.int p2), .val (.int p3), .val (.int p4), .val (.long v4), .second, .val (.long v11), .second, .val (.long v18), .second, .val (.long v25), .second, .val (.int v37), .val (.int (2 : Int32)), .val (.ref b50), .val (.long v109), .second, .unset, .unset] [(.int (2 : Int32)), (.int (2 : Int32))]))
    have hc115 : ¬ ((2 : Int32) < (2 : Int32)) := by decide
    refine Dn.st (fun _ kk => XS.icmpYes X106.here hx rfl (pc0 := 115) (pc' := 140) rfl (hb hby at_115) rfl (flt hc115).2.2.2 (by decide) (by decide) (XS.aload X106.here hx rfl (hb hby at_140) rfl rfl (XS.lload X106.here hx rfl (hb hby at_142) rfl  (kk)))) ?_
    show Dn p e below s _ _ _ (T106.setTop (mkF m 144 #[.val (.int p0), .val (.int p1), .val (.int p2), .val (.int p3), .val (.int p4), .val (.long v4), .second, .val (.long v11), .second, .val (.long v18), .second, .val (.long v25), .second, .val (.int v37), .val (.int (2 : Int32)), .val (.ref b50), .val (.long v109), .second, .unset, .unset] [(.long v25), (.ref b50)]))
    have d144 := DS.l2d (v := v25) (by omega)
    refine Dn.st (fun _ kk => XS.l2dS X106.here hx rfl (hb hby at_144) rfl rfl (kk)) ?_
    show Dn p e below s _ _ _ (T106.setTop (mkF m 145 #[.val (.int p0), .val (.int p1), .val (.int p2), .val (.int p3), .val (.int p4), .val (.long v4), .second, .val (.long v11), .second, .val (.long v18), .second, .val (.long v25), .second, .val (.int v37), .val (.int (2 : Int32)), .val (.ref b50), .val (.long v109), .second, .unset, .unset] [(.double (FP.l2d v25)), (.ref b50)]))
    generalize hv144 : ((FP.l2d v25) : UInt64) = v144 at d144 ⊢
    show Dn p e below s _ _ _ (T106.setTop (mkF m 145 #[.val (.int p0), .val (.int p1), .val (.int p2), .val (.int p3), .val (.int p4), .val (.long v4), .second, .val (.long v11), .second, .val (.long v18), .second, .val (.long v25), .second, .val (.int v37), .val (.int (2 : Int32)), .val (.ref b50), .val (.long v109), .second, .unset, .unset] [(.double v144), (.ref b50)]))
    refine Dn.st (fun _ kk => XS.iload X106.here hx rfl (hb hby at_145) rfl  (kk)) ?_
    show Dn p e below s _ _ _ (T106.setTop (mkF m 147 #[.val (.int p0), .val (.int p1), .val (.int p2), .val (.int p3), .val (.int p4), .val (.long v4), .second, .val (.long v11), .second, .val (.long v18), .second, .val (.long v25), .second, .val (.int v37), .val (.int (2 : Int32)), .val (.ref b50), .val (.long v109), .second, .unset, .unset] [(.int v37), (.double v144), (.ref b50)]))
    obtain ⟨_, _, ⟨T147, L147, k147, n147⟩, -, X147, ⟨Lc147, hQ147, l147, y147, z147⟩, st147⟩ := Jvm.LawKit.callS X106 hx (y := (⟨"com/example/listino/listino/stats/Moments", "sumOfPowers", "([DDI)D"⟩ : MethodName)) hown (mvT hZ (hw _ (List.mem_of_getElem? (i := 1) rfl))) (mvT hZ (hw _ (List.mem_of_getElem? (i := 2) rfl))) (mvT hZ (hw _ (List.mem_of_getElem? (i := 3) rfl))) (mvT hZ (hw _ (List.mem_of_getElem? (i := 4) rfl))) (by decide) (backOf (W := 0) (rm1_2 l Z a0 hw [] b50 v144 v37 (v37.toInt - 1).toNat k50 v67 v95 v4.toInt v11.toInt v25.toInt h96 n0 Z96 (by omega) (by omega) V_b50_96 d144 d67 d95 ⟨by omega, by omega⟩ ⟨by omega, by omega⟩) hZ (hw _ (List.mem_of_getElem? (i := 4) rfl)) (hw _ (List.mem_of_getElem? (i := 3) rfl)) (by decide) (by decide)) (g := (mkF m 147 #[.val (.int p0), .val (.int p1), .val (.int p2), .val (.int p3), .val (.int p4), .val (.long v4), .second, .val (.long v11), .second, .val (.long v18), .second, .val (.long v25), .second, .val (.int v37), .val (.int (2 : Int32)), .val (.ref b50), .val (.long v109), .second, .unset, .unset] [(.int v37), (.double v144), (.ref b50)])) rfl (by rw [hml]; rfl) (argsL := [(.ref b50), (.double v144), (.int v37)]) (rest := []) (lenOf pd0 rfl) rfl (by show 2 * 0 + _ ≤ _; exact Nat.le_of_eq rfl) (hb hby at_147) (fun _ _ => ⟨rfl, hh106, (by decide : 1 + 0 ≤ _), (by decide : 2 + 0 ≤ _)⟩)
    dsimp only [Pt.U, Pt.locs, Pt.cells, Pt.slots] at X147 l147 y147 z147 st147 hQ147
    subst l147 y147 z147
    obtain ⟨z147, rfl, d147, Nq147, hh147⟩ := hQ147
    have N147 := Fr.app N106 Nq147
    refine Dn.st st147 ?_
    show Dn p e below s _ _ _ (T147.setTop (mkF m 150 #[.val (.int p0), .val (.int p1), .val (.int p2), .val (.int p3), .val (.int p4), .val (.long v4), .second, .val (.long v11), .second, .val (.long v18), .second, .val (.long v25), .second, .val (.int v37), .val (.int (2 : Int32)), .val (.ref b50), .val (.long v109), .second, .unset, .unset] [(.double z147)]))
    refine Dn.st (fun _ kk => XS.dstore X147.here hx rfl (hb hby at_150) rfl (l' := #[.val (.int p0), .val (.int p1), .val (.int p2), .val (.int p3), .val (.int p4), .val (.long v4), .second, .val (.long v11), .second, .val (.long v18), .second, .val (.long v25), .second, .val (.int v37), .val (.int (2 : Int32)), .val (.ref b50), .val (.long v109), .second, .val (.double z147), .second]) rfl (XS.dload X147.here hx rfl (hb hby at_152) rfl  (XS.lload X147.here hx rfl (hb hby at_154) rfl  (kk)))) ?_
    show Dn p e below s _ _ _ (T147.setTop (mkF m 156 #[.val (.int p0), .val (.int p1), .val (.int p2), .val (.int p3), .val (.int p4), .val (.long v4), .second, .val (.long v11), .second, .val (.long v18), .second, .val (.long v25), .second, .val (.int v37), .val (.int (2 : Int32)), .val (.ref b50), .val (.long v109), .second, .val (.double z147), .second] [(.long v109), (.double z147)]))
    have d156 := DS.l2d (v := v109) (by first | omega | decide)
    refine Dn.st (fun _ kk => XS.l2dS X147.here hx rfl (hb hby at_156) rfl rfl (kk)) ?_
    show Dn p e below s _ _ _ (T147.setTop (mkF m 157 #[.val (.int p0), .val (.int p1), .val (.int p2), .val (.int p3), .val (.int p4), .val (.long v4), .second, .val (.long v11), .second, .val (.long v18), .second, .val (.long v25), .second, .val (.int v37), .val (.int (2 : Int32)), .val (.ref b50), .val (.long v109), .second, .val (.double z147), .second] [(.double (FP.l2d v109)), (.double z147)]))
    generalize hv156 : ((FP.l2d v109) : UInt64) = v156 at d156 ⊢
    show Dn p e below s _ _ _ (T147.setTop (mkF m 157 #[.val (.int p0), .val (.int p1), .val (.int p2), .val (.int p3), .val (.int p4), .val (.long v4), .second, .val (.long v11), .second, .val (.long v18), .second, .val (.long v25), .second, .val (.int v37), .val (.int (2 : Int32)), .val (.ref b50), .val (.long v109), .second, .val (.double z147), .second] [(.double v156), (.double z147)]))
    refine Dn.st (fun _ kk => XS.dcmpS X147.here hx rfl (hb hby at_157) rfl (DS.cmpV d147 d156 _) (kk)) ?_
    show Dn p e below s _ _ _ (T147.setTop (mkF m 158 #[.val (.int p0), .val (.int p1), .val (.int p2), .val (.int p3), .val (.int p4), .val (.long v4), .second, .val (.long v11), .second, .val (.long v18), .second, .val (.long v25), .second, .val (.int v37), .val (.int (2 : Int32)), .val (.ref b50), .val (.long v109), .second, .val (.double z147), .second] [(.int (c3 ((0 + own_pw (v4.toInt - v25.toInt) (v37.toInt - 1).toNat) + own_pw (v11.toInt - v25.toInt) (v37.toInt - 1).toNat) v109.toInt))]))
    by_cases hc158 : (c3 ((0 + own_pw (v4.toInt - v25.toInt) (v37.toInt - 1).toNat) + own_pw (v11.toInt - v25.toInt) (v37.toInt - 1).toNat) v109.toInt) = (0 : Int32)
    · have hi158 := (c3_eq _ _).mp hc158
      refine Dn.st (fun _ kk => XS.ifNo X147.here hx rfl (hb hby at_158) rfl ((if0 _ _).trans (teq hc158).2) (XS.iconst X147.here hx rfl (hb hby at_161) (XS.goto X147.here hx rfl (pc0 := 162) (pc' := 166) rfl (hb hby at_162) (by decide) (by decide) (kk)))) ?_
      show Dn p e below s _ _ _ (T147.setTop (mkF m 166 #[.val (.int p0), .val (.int p1), .val (.int p2), .val (.int p3), .val (.int p4), .val (.long v4), .second, .val (.long v11), .second, .val (.long v18), .second, .val (.long v25), .second, .val (.int v37), .val (.int (2 : Int32)), .val (.ref b50), .val (.long v109), .second, .val (.double z147), .second] [(.int (1 : Int32))]))
      exact Dn.ret X147 hlk hx hret rfl (Or.inl ⟨rfl, Or.inr (Or.inl rfl), _, rfl⟩) (hb hby at_166) (by rw [hh147]; exact ⟨rfl, N147⟩) (by decide) (by decide)
    · have hi158 := mt (c3_eq _ _).mpr hc158
      refine Dn.st (fun _ kk => XS.ifYes X147.here hx rfl (pc0 := 158) (pc' := 165) rfl (hb hby at_158) rfl ((if0 _ _).trans (feq hc158).2) (by decide) (by decide) (kk)) ?_
      show Dn p e below s _ _ _ (T147.setTop (mkF m 165 #[.val (.int p0), .val (.int p1), .val (.int p2), .val (.int p3), .val (.int p4), .val (.long v4), .second, .val (.long v11), .second, .val (.long v18), .second, .val (.long v25), .second, .val (.int v37), .val (.int (2 : Int32)), .val (.ref b50), .val (.long v109), .second, .val (.double z147), .second] []))
      exfalso
      first | omega | exact hi158 rfl
  · subst hk46
    show Dn p e below s _ _ _ (s₁.setTop (mkF m 46 #[.val (.int p0), .val (.int p1), .val (.int p2), .val (.int p3), .val (.int p4), .val (.long v4), .second, .val (.long v11), .second, .val (.long v18), .second, .val (.long v25), .second, .val (.int v37), .unset, .unset, .unset, .unset, .unset, .unset] [(.int (3 : Int32))]))
    refine Dn.st (fun _ kk => XS.istore X0.here hx rfl (hb hby at_46) rfl (l' := #[.val (.int p0), .val (.int p1), .val (.int p2), .val (.int p3), .val (.int p4), .val (.long v4), .second, .val (.long v11), .second, .val (.long v18), .second, .val (.long v25), .second, .val (.int v37), .val (.int (3 : Int32)), .unset, .unset, .unset, .unset, .unset]) rfl (XS.iload X0.here hx rfl (hb hby at_48) rfl  (kk))) ?_
    show Dn p e below s _ _ _ (s₁.setTop (mkF m 50 #[.val (.int p0), .val (.int p1), .val (.int p2), .val (.int p3), .val (.int p4), .val (.long v4), .second, .val (.long v11), .second, .val (.long v18), .second, .val (.long v25), .second, .val (.int v37), .val (.int (3 : Int32)), .unset, .unset, .unset, .unset, .unset] [(.int (3 : Int32))]))
    obtain ⟨T50, h50, k50, X50, e50, E50, A50, st50⟩ := newP X0 hx hZ (hw _ (List.mem_of_getElem? (i := 0) rfl)) e0 (g := (mkF m 50 #[.val (.int p0), .val (.int p1), .val (.int p2), .val (.int p3), .val (.int p4), .val (.long v4), .second, .val (.long v11), .second, .val (.long v18), .second, .val (.long v25), .second, .val (.int v37), .val (.int (3 : Int32)), .unset, .unset, .unset, .unset, .unset] [(.int (3 : Int32))])) rfl (hb hby at_50) rfl (by decide) (cap := 3) (by decide) (by decide) (by decide) (by decide)
    obtain ⟨b50, g50⟩ : ∃ z, z = h0.size := ⟨_, rfl⟩
    rw [← g50] at A50 st50
    have gn_b50 : n0 ≤ b50 := Nat.le_trans Z0 (Nat.le_of_eq g50.symm)
    have Z50 : n0 ≤ h50.size := Nat.le_trans Z0 E50.1
    have V_b50 : Arv Z h50 b50 k50 .double (3 : Int32) [(.double (0 : UInt64)), (.double (0 : UInt64)), (.double (0 : UInt64))] (.double (0 : UInt64)) := (Arv.new A50 (by decide)).pad (pad_rep [] (.double (0 : UInt64)) 3)
    refine Dn.st st50 ?_
    show Dn p e below s _ _ _ (T50.setTop (mkF m 52 #[.val (.int p0), .val (.int p1), .val (.int p2), .val (.int p3), .val (.int p4), .val (.long v4), .second, .val (.long v11), .second, .val (.long v18), .second, .val (.long v25), .second, .val (.int v37), .val (.int (3 : Int32)), .unset, .unset, .unset, .unset, .unset] [(.ref b50)]))
    refine Dn.st (fun _ kk => XS.astore X50.here hx rfl (hb hby at_52) rfl rfl (l' := #[.val (.int p0), .val (.int p1), .val (.int p2), .val (.int p3), .val (.int p4), .val (.long v4), .second, .val (.long v11), .second, .val (.long v18), .second, .val (.long v25), .second, .val (.int v37), .val (.int (3 : Int32)), .val (.ref b50), .unset, .unset, .unset, .unset]) rfl (XS.lconst X50.here hx rfl (hb hby at_54) (XS.lstore X50.here hx rfl (hb hby at_55) rfl (l' := #[.val (.int p0), .val (.int p1), .val (.int p2), .val (.int p3), .val (.int p4), .val (.long v4), .second, .val (.long v11), .second, .val (.long v18), .second, .val (.long v25), .second, .val (.int v37), .val (.int (3 : Int32)), .val (.ref b50), .val (.long (0 : Int64)), .second, .unset, .unset]) rfl (XS.iload X50.here hx rfl (hb hby at_57) rfl  (kk))))) ?_
    show Dn p e below s _ _ _ (T50.setTop (mkF m 59 #[.val (.int p0), .val (.int p1), .val (.int p2), .val (.int p3), .val (.int p4), .val (.long v4), .second, .val (.long v11), .second, .val (.long v18), .second, .val (.long v25), .second, .val (.int v37), .val (.int (3 : Int32)), .val (.ref b50), .val (.long (0 : Int64)), .second, .unset, .unset] [(.int (3 : Int32))]))
    have hc59 : (0 : Int32) < (3 : Int32) := by decide
    refine Dn.st (fun _ kk => XS.ifNo X50.here hx rfl (hb hby at_59) rfl ((if0 _ _).trans (tlt hc59).2.2.2) (XS.aload X50.here hx rfl (hb hby at_62) rfl rfl (XS.iconst X50.here hx rfl (hb hby at_64) (XS.lload X50.here hx rfl (hb hby at_65) rfl  (kk))))) ?_
    show Dn p e below s _ _ _ (T50.setTop (mkF m 67 #[.val (.int p0), .val (.int p1), .val (.int p2), .val (.int p3), .val (.int p4), .val (.long v4), .second, .val (.long v11), .second, .val (.long v18), .second, .val (.long v25), .second, .val (.int v37), .val (.int (3 : Int32)), .val (.ref b50), .val (.long (0 : Int64)), .second, .unset, .unset] [(.long v4), (.int (0 : Int32)), (.ref b50)]))
    have d67 := DS.l2d (v := v4) (by omega)
    refine Dn.st (fun _ kk => XS.l2dS X50.here hx rfl (hb hby at_67) rfl rfl (kk)) ?_
    show Dn p e below s _ _ _ (T50.setTop (mkF m 68 #[.val (.int p0), .val (.int p1), .val (.int p2), .val (.int p3), .val (.int p4), .val (.long v4), .second, .val (.long v11), .second, .val (.long v18), .second, .val (.long v25), .second, .val (.int v37), .val (.int (3 : Int32)), .val (.ref b50), .val (.long (0 : Int64)), .second, .unset, .unset] [(.double (FP.l2d v4)), (.int (0 : Int32)), (.ref b50)]))
    generalize hv67 : ((FP.l2d v4) : UInt64) = v67 at d67 ⊢
    show Dn p e below s _ _ _ (T50.setTop (mkF m 68 #[.val (.int p0), .val (.int p1), .val (.int p2), .val (.int p3), .val (.int p4), .val (.long v4), .second, .val (.long v11), .second, .val (.long v18), .second, .val (.long v25), .second, .val (.int v37), .val (.int (3 : Int32)), .val (.ref b50), .val (.long (0 : Int64)), .second, .unset, .unset] [(.double v67), (.int (0 : Int32)), (.ref b50)]))
    have Vc_b50_68 := V_b50
    obtain ⟨cl_b50_68, Ar_b50_68, q_b50_68, S_b50_68, N_b50_68, H_b50_68, G_b50_68⟩ := Vc_b50_68
    have hin68 : ¬ ((0 : Int32) < 0 ∨ cl_b50_68.slots.size ≤ ((0 : Int32)).toNatClampNeg) := inb_of S_b50_68 ⟨by decide, by decide⟩
    obtain ⟨T68, h68, X68, e68, W68, st68⟩ := stD X50 hx hZ e50 Ar_b50_68 (j := (0 : Int32)) hin68 (g := (mkF m 68 #[.val (.int p0), .val (.int p1), .val (.int p2), .val (.int p3), .val (.int p4), .val (.long v4), .second, .val (.long v11), .second, .val (.long v18), .second, .val (.long v25), .second, .val (.int v37), .val (.int (3 : Int32)), .val (.ref b50), .val (.long (0 : Int64)), .second, .unset, .unset] [(.double v67), (.int (0 : Int32)), (.ref b50)])) rfl rfl (hb hby at_68)
    have V_b50_68 := Arv.set Ar_b50_68 q_b50_68 S_b50_68 N_b50_68 H_b50_68 G_b50_68 rfl W68 0 rfl (Nat.le_of_ble_eq_true rfl)
    have N68 := Fr.snoc X68 N0 gn_b50
    have Z68 : n0 ≤ h68.size := Nat.le_trans Z50 (Keep.of_wr W68).1
    refine Dn.st st68 ?_
    show Dn p e below s _ _ _ (T68.setTop (mkF m 69 #[.val (.int p0), .val (.int p1), .val (.int p2), .val (.int p3), .val (.int p4), .val (.long v4), .second, .val (.long v11), .second, .val (.long v18), .second, .val (.long v25), .second, .val (.int v37), .val (.int (3 : Int32)), .val (.ref b50), .val (.long (0 : Int64)), .second, .unset, .unset] []))
    refine Dn.st (fun _ kk => XS.lload X68.here hx rfl (hb hby at_69) rfl  (XS.lload X68.here hx rfl (hb hby at_71) rfl  (XS.lload X68.here hx rfl (hb hby at_73) rfl  (XS.lsub X68.here hx rfl (hb hby at_75) rfl (kk))))) ?_
    show Dn p e below s _ _ _ (T68.setTop (mkF m 76 #[.val (.int p0), .val (.int p1), .val (.int p2), .val (.int p3), .val (.int p4), .val (.long v4), .second, .val (.long v11), .second, .val (.long v18), .second, .val (.long v25), .second, .val (.int v37), .val (.int (3 : Int32)), .val (.ref b50), .val (.long (0 : Int64)), .second, .unset, .unset] [(.long (v4 - v25)), (.long (0 : Int64))]))
    generalize hv75 : ((v4 - v25) : Int64) = v75
    have q75 : (v75.toInt - (v4.toInt - v25.toInt)) % 18446744073709551616 = 0 := by have qq := c_lsub v4 v25; rw [hv75] at qq; exact qq
    have r75 := rng64 v75
    show Dn p e below s _ _ _ (T68.setTop (mkF m 76 #[.val (.int p0), .val (.int p1), .val (.int p2), .val (.int p3), .val (.int p4), .val (.long v4), .second, .val (.long v11), .second, .val (.long v18), .second, .val (.long v25), .second, .val (.int v37), .val (.int (3 : Int32)), .val (.ref b50), .val (.long (0 : Int64)), .second, .unset, .unset] [(.long v75), (.long (0 : Int64))]))
    refine Dn.st (fun _ kk => XS.iload X68.here hx rfl (hb hby at_76) rfl  (kk)) ?_
    show Dn p e below s _ _ _ (T68.setTop (mkF m 78 #[.val (.int p0), .val (.int p1), .val (.int p2), .val (.int p3), .val (.int p4), .val (.long v4), .second, .val (.long v11), .second, .val (.long v18), .second, .val (.long v25), .second, .val (.int v37), .val (.int (3 : Int32)), .val (.ref b50), .val (.long (0 : Int64)), .second, .unset, .unset] [(.int v37), (.long v75), (.long (0 : Int64))]))
    obtain ⟨_, _, ⟨T78, L78, k78, n78⟩, -, X78, ⟨Lc78, hQ78, l78, y78, z78⟩, st78⟩ := Jvm.LawKit.callS X68 hx (y := (⟨"com/example/listino/listino/stats/MomentsSumOfPowersPinLaw", "pow", "(JI)J"⟩ : MethodName)) hown (mvT hZ (hw _ (List.mem_of_getElem? (i := 5) rfl))) (mvT hZ (hw _ (List.mem_of_getElem? (i := 6) rfl))) (mvT hZ (hw _ (List.mem_of_getElem? (i := 7) rfl))) (mvT hZ (hw _ (List.mem_of_getElem? (i := 8) rfl))) (by decide) (backOf (W := 2) (rm2 l Z a0 hw [] v75 v37 (v37.toInt - 1).toNat h68 n0 Z68 (by omega) (by omega) (by omega) (by omega)) hZ (hw _ (List.mem_of_getElem? (i := 8) rfl)) (hw _ (List.mem_of_getElem? (i := 7) rfl)) (by decide) (by decide)) (g := (mkF m 78 #[.val (.int p0), .val (.int p1), .val (.int p2), .val (.int p3), .val (.int p4), .val (.long v4), .second, .val (.long v11), .second, .val (.long v18), .second, .val (.long v25), .second, .val (.int v37), .val (.int (3 : Int32)), .val (.ref b50), .val (.long (0 : Int64)), .second, .unset, .unset] [(.int v37), (.long v75), (.long (0 : Int64))])) rfl (by rw [hml]; rfl) (argsL := [(.long v75), (.int v37)]) (rest := [(.long (0 : Int64))]) (lenOf pd1 rfl) rfl (by show 2 * 0 + _ ≤ _; exact Nat.le_of_eq rfl) (hb hby at_78) (fun _ _ => ⟨rfl, e68, (by decide : 1 + 0 ≤ _), (by decide : 3 + 0 ≤ _)⟩)
    dsimp only [Pt.U, Pt.locs, Pt.cells, Pt.slots] at X78 l78 y78 z78 st78 hQ78
    subst l78 y78 z78
    obtain ⟨z78, rfl, w78, Nq78, hh78⟩ := hQ78
    have N78 := Fr.app N68 Nq78
    refine Dn.st st78 ?_
    have ed78 : v75.toInt = v4.toInt - v25.toInt := by omega
    rw [ed78] at w78
    have pb78 := own_p6 (d := v4.toInt - v25.toInt) (by omega) (by omega) (t := (v37.toInt - 1).toNat) (by omega)
    show Dn p e below s _ _ _ (T78.setTop (mkF m 81 #[.val (.int p0), .val (.int p1), .val (.int p2), .val (.int p3), .val (.int p4), .val (.long v4), .second, .val (.long v11), .second, .val (.long v18), .second, .val (.long v25), .second, .val (.int v37), .val (.int (3 : Int32)), .val (.ref b50), .val (.long (0 : Int64)), .second, .unset, .unset] [(.long z78), (.long (0 : Int64))]))
    refine Dn.st (fun _ kk => XS.ladd X78.here hx rfl (hb hby at_81) rfl (kk)) ?_
    show Dn p e below s _ _ _ (T78.setTop (mkF m 82 #[.val (.int p0), .val (.int p1), .val (.int p2), .val (.int p3), .val (.int p4), .val (.long v4), .second, .val (.long v11), .second, .val (.long v18), .second, .val (.long v25), .second, .val (.int v37), .val (.int (3 : Int32)), .val (.ref b50), .val (.long (0 : Int64)), .second, .unset, .unset] [(.long ((0 : Int64) + z78))]))
    generalize hv81 : (((0 : Int64) + z78) : Int64) = v81
    have q81 : (v81.toInt - (0 + z78.toInt)) % 18446744073709551616 = 0 := by have qq := c_ladd (0 : Int64) z78; rw [hv81] at qq; exact qq
    have r81 := rng64 v81
    show Dn p e below s _ _ _ (T78.setTop (mkF m 82 #[.val (.int p0), .val (.int p1), .val (.int p2), .val (.int p3), .val (.int p4), .val (.long v4), .second, .val (.long v11), .second, .val (.long v18), .second, .val (.long v25), .second, .val (.int v37), .val (.int (3 : Int32)), .val (.ref b50), .val (.long (0 : Int64)), .second, .unset, .unset] [(.long v81)]))
    refine Dn.st (fun _ kk => XS.lstore X78.here hx rfl (hb hby at_82) rfl (l' := #[.val (.int p0), .val (.int p1), .val (.int p2), .val (.int p3), .val (.int p4), .val (.long v4), .second, .val (.long v11), .second, .val (.long v18), .second, .val (.long v25), .second, .val (.int v37), .val (.int (3 : Int32)), .val (.ref b50), .val (.long v81), .second, .unset, .unset]) rfl (XS.iload X78.here hx rfl (hb hby at_84) rfl  (XS.iconst X78.here hx rfl (hb hby at_86) (kk)))) ?_
    show Dn p e below s _ _ _ (T78.setTop (mkF m 87 #[.val (.int p0), .val (.int p1), .val (.int p2), .val (.int p3), .val (.int p4), .val (.long v4), .second, .val (.long v11), .second, .val (.long v18), .second, .val (.long v25), .second, .val (.int v37), .val (.int (3 : Int32)), .val (.ref b50), .val (.long v81), .second, .unset, .unset] [(.int (1 : Int32)), (.int (3 : Int32))]))
    have hc87 : (1 : Int32) < (3 : Int32) := by decide
    refine Dn.st (fun _ kk => XS.icmpNo X78.here hx rfl (hb hby at_87) rfl (tlt hc87).2.2.2 (XS.aload X78.here hx rfl (hb hby at_90) rfl rfl (XS.iconst X78.here hx rfl (hb hby at_92) (XS.lload X78.here hx rfl (hb hby at_93) rfl  (kk))))) ?_
    show Dn p e below s _ _ _ (T78.setTop (mkF m 95 #[.val (.int p0), .val (.int p1), .val (.int p2), .val (.int p3), .val (.int p4), .val (.long v4), .second, .val (.long v11), .second, .val (.long v18), .second, .val (.long v25), .second, .val (.int v37), .val (.int (3 : Int32)), .val (.ref b50), .val (.long v81), .second, .unset, .unset] [(.long v11), (.int (1 : Int32)), (.ref b50)]))
    have d95 := DS.l2d (v := v11) (by omega)
    refine Dn.st (fun _ kk => XS.l2dS X78.here hx rfl (hb hby at_95) rfl rfl (kk)) ?_
    show Dn p e below s _ _ _ (T78.setTop (mkF m 96 #[.val (.int p0), .val (.int p1), .val (.int p2), .val (.int p3), .val (.int p4), .val (.long v4), .second, .val (.long v11), .second, .val (.long v18), .second, .val (.long v25), .second, .val (.int v37), .val (.int (3 : Int32)), .val (.ref b50), .val (.long v81), .second, .unset, .unset] [(.double (FP.l2d v11)), (.int (1 : Int32)), (.ref b50)]))
    generalize hv95 : ((FP.l2d v11) : UInt64) = v95 at d95 ⊢
    show Dn p e below s _ _ _ (T78.setTop (mkF m 96 #[.val (.int p0), .val (.int p1), .val (.int p2), .val (.int p3), .val (.int p4), .val (.long v4), .second, .val (.long v11), .second, .val (.long v18), .second, .val (.long v25), .second, .val (.int v37), .val (.int (3 : Int32)), .val (.ref b50), .val (.long v81), .second, .unset, .unset] [(.double v95), (.int (1 : Int32)), (.ref b50)]))
    have Vc_b50_96 := V_b50_68
    obtain ⟨cl_b50_96, Ar_b50_96, q_b50_96, S_b50_96, N_b50_96, H_b50_96, G_b50_96⟩ := Vc_b50_96
    have hin96 : ¬ ((1 : Int32) < 0 ∨ cl_b50_96.slots.size ≤ ((1 : Int32)).toNatClampNeg) := inb_of S_b50_96 ⟨by decide, by decide⟩
    obtain ⟨T96, h96, X96, e96, W96, st96⟩ := stD X78 hx hZ hh78 Ar_b50_96 (j := (1 : Int32)) hin96 (g := (mkF m 96 #[.val (.int p0), .val (.int p1), .val (.int p2), .val (.int p3), .val (.int p4), .val (.long v4), .second, .val (.long v11), .second, .val (.long v18), .second, .val (.long v25), .second, .val (.int v37), .val (.int (3 : Int32)), .val (.ref b50), .val (.long v81), .second, .unset, .unset] [(.double v95), (.int (1 : Int32)), (.ref b50)])) rfl rfl (hb hby at_96)
    have V_b50_96 := Arv.set Ar_b50_96 q_b50_96 S_b50_96 N_b50_96 H_b50_96 G_b50_96 rfl W96 1 rfl (Nat.le_of_ble_eq_true rfl)
    have N96 := Fr.snoc X96 N78 gn_b50
    have Z96 : n0 ≤ h96.size := Nat.le_trans Z68 (Keep.of_wr W96).1
    refine Dn.st st96 ?_
    show Dn p e below s _ _ _ (T96.setTop (mkF m 97 #[.val (.int p0), .val (.int p1), .val (.int p2), .val (.int p3), .val (.int p4), .val (.long v4), .second, .val (.long v11), .second, .val (.long v18), .second, .val (.long v25), .second, .val (.int v37), .val (.int (3 : Int32)), .val (.ref b50), .val (.long v81), .second, .unset, .unset] []))
    refine Dn.st (fun _ kk => XS.lload X96.here hx rfl (hb hby at_97) rfl  (XS.lload X96.here hx rfl (hb hby at_99) rfl  (XS.lload X96.here hx rfl (hb hby at_101) rfl  (XS.lsub X96.here hx rfl (hb hby at_103) rfl (kk))))) ?_
    show Dn p e below s _ _ _ (T96.setTop (mkF m 104 #[.val (.int p0), .val (.int p1), .val (.int p2), .val (.int p3), .val (.int p4), .val (.long v4), .second, .val (.long v11), .second, .val (.long v18), .second, .val (.long v25), .second, .val (.int v37), .val (.int (3 : Int32)), .val (.ref b50), .val (.long v81), .second, .unset, .unset] [(.long (v11 - v25)), (.long v81)]))
    generalize hv103 : ((v11 - v25) : Int64) = v103
    have q103 : (v103.toInt - (v11.toInt - v25.toInt)) % 18446744073709551616 = 0 := by have qq := c_lsub v11 v25; rw [hv103] at qq; exact qq
    have r103 := rng64 v103
    show Dn p e below s _ _ _ (T96.setTop (mkF m 104 #[.val (.int p0), .val (.int p1), .val (.int p2), .val (.int p3), .val (.int p4), .val (.long v4), .second, .val (.long v11), .second, .val (.long v18), .second, .val (.long v25), .second, .val (.int v37), .val (.int (3 : Int32)), .val (.ref b50), .val (.long v81), .second, .unset, .unset] [(.long v103), (.long v81)]))
    refine Dn.st (fun _ kk => XS.iload X96.here hx rfl (hb hby at_104) rfl  (kk)) ?_
    show Dn p e below s _ _ _ (T96.setTop (mkF m 106 #[.val (.int p0), .val (.int p1), .val (.int p2), .val (.int p3), .val (.int p4), .val (.long v4), .second, .val (.long v11), .second, .val (.long v18), .second, .val (.long v25), .second, .val (.int v37), .val (.int (3 : Int32)), .val (.ref b50), .val (.long v81), .second, .unset, .unset] [(.int v37), (.long v103), (.long v81)]))
    obtain ⟨_, _, ⟨T106, L106, k106, n106⟩, -, X106, ⟨Lc106, hQ106, l106, y106, z106⟩, st106⟩ := Jvm.LawKit.callS X96 hx (y := (⟨"com/example/listino/listino/stats/MomentsSumOfPowersPinLaw", "pow", "(JI)J"⟩ : MethodName)) hown (mvT hZ (hw _ (List.mem_of_getElem? (i := 5) rfl))) (mvT hZ (hw _ (List.mem_of_getElem? (i := 6) rfl))) (mvT hZ (hw _ (List.mem_of_getElem? (i := 7) rfl))) (mvT hZ (hw _ (List.mem_of_getElem? (i := 8) rfl))) (by decide) (backOf (W := 2) (rm2 l Z a0 hw [] v103 v37 (v37.toInt - 1).toNat h96 n0 Z96 (by omega) (by omega) (by omega) (by omega)) hZ (hw _ (List.mem_of_getElem? (i := 8) rfl)) (hw _ (List.mem_of_getElem? (i := 7) rfl)) (by decide) (by decide)) (g := (mkF m 106 #[.val (.int p0), .val (.int p1), .val (.int p2), .val (.int p3), .val (.int p4), .val (.long v4), .second, .val (.long v11), .second, .val (.long v18), .second, .val (.long v25), .second, .val (.int v37), .val (.int (3 : Int32)), .val (.ref b50), .val (.long v81), .second, .unset, .unset] [(.int v37), (.long v103), (.long v81)])) rfl (by rw [hml]; rfl) (argsL := [(.long v103), (.int v37)]) (rest := [(.long v81)]) (lenOf pd1 rfl) rfl (by show 2 * 0 + _ ≤ _; exact Nat.le_of_eq rfl) (hb hby at_106) (fun _ _ => ⟨rfl, e96, (by decide : 1 + 0 ≤ _), (by decide : 3 + 0 ≤ _)⟩)
    dsimp only [Pt.U, Pt.locs, Pt.cells, Pt.slots] at X106 l106 y106 z106 st106 hQ106
    subst l106 y106 z106
    obtain ⟨z106, rfl, w106, Nq106, hh106⟩ := hQ106
    have N106 := Fr.app N96 Nq106
    refine Dn.st st106 ?_
    have ed106 : v103.toInt = v11.toInt - v25.toInt := by omega
    rw [ed106] at w106
    have pb106 := own_p6 (d := v11.toInt - v25.toInt) (by omega) (by omega) (t := (v37.toInt - 1).toNat) (by omega)
    show Dn p e below s _ _ _ (T106.setTop (mkF m 109 #[.val (.int p0), .val (.int p1), .val (.int p2), .val (.int p3), .val (.int p4), .val (.long v4), .second, .val (.long v11), .second, .val (.long v18), .second, .val (.long v25), .second, .val (.int v37), .val (.int (3 : Int32)), .val (.ref b50), .val (.long v81), .second, .unset, .unset] [(.long z106), (.long v81)]))
    refine Dn.st (fun _ kk => XS.ladd X106.here hx rfl (hb hby at_109) rfl (kk)) ?_
    show Dn p e below s _ _ _ (T106.setTop (mkF m 110 #[.val (.int p0), .val (.int p1), .val (.int p2), .val (.int p3), .val (.int p4), .val (.long v4), .second, .val (.long v11), .second, .val (.long v18), .second, .val (.long v25), .second, .val (.int v37), .val (.int (3 : Int32)), .val (.ref b50), .val (.long v81), .second, .unset, .unset] [(.long (v81 + z106))]))
    generalize hv109 : ((v81 + z106) : Int64) = v109
    have q109 : (v109.toInt - (v81.toInt + z106.toInt)) % 18446744073709551616 = 0 := by have qq := c_ladd v81 z106; rw [hv109] at qq; exact qq
    have r109 := rng64 v109
    show Dn p e below s _ _ _ (T106.setTop (mkF m 110 #[.val (.int p0), .val (.int p1), .val (.int p2), .val (.int p3), .val (.int p4), .val (.long v4), .second, .val (.long v11), .second, .val (.long v18), .second, .val (.long v25), .second, .val (.int v37), .val (.int (3 : Int32)), .val (.ref b50), .val (.long v81), .second, .unset, .unset] [(.long v109)]))
    refine Dn.st (fun _ kk => XS.lstore X106.here hx rfl (hb hby at_110) rfl (l' := #[.val (.int p0), .val (.int p1), .val (.int p2), .val (.int p3), .val (.int p4), .val (.long v4), .second, .val (.long v11), .second, .val (.long v18), .second, .val (.long v25), .second, .val (.int v37), .val (.int (3 : Int32)), .val (.ref b50), .val (.long v109), .second, .unset, .unset]) rfl (XS.iload X106.here hx rfl (hb hby at_112) rfl  (XS.iconst X106.here hx rfl (hb hby at_114) (kk)))) ?_
    show Dn p e below s _ _ _ (T106.setTop (mkF m 115 #[.val (.int p0), .val (.int p1), .val (.int p2), .val (.int p3), .val (.int p4), .val (.long v4), .second, .val (.long v11), .second, .val (.long v18), .second, .val (.long v25), .second, .val (.int v37), .val (.int (3 : Int32)), .val (.ref b50), .val (.long v109), .second, .unset, .unset] [(.int (2 : Int32)), (.int (3 : Int32))]))
    have hc115 : (2 : Int32) < (3 : Int32) := by decide
    refine Dn.st (fun _ kk => XS.icmpNo X106.here hx rfl (hb hby at_115) rfl (tlt hc115).2.2.2 (XS.aload X106.here hx rfl (hb hby at_118) rfl rfl (XS.iconst X106.here hx rfl (hb hby at_120) (XS.lload X106.here hx rfl (hb hby at_121) rfl  (kk))))) ?_
    show Dn p e below s _ _ _ (T106.setTop (mkF m 123 #[.val (.int p0), .val (.int p1), .val (.int p2), .val (.int p3), .val (.int p4), .val (.long v4), .second, .val (.long v11), .second, .val (.long v18), .second, .val (.long v25), .second, .val (.int v37), .val (.int (3 : Int32)), .val (.ref b50), .val (.long v109), .second, .unset, .unset] [(.long v18), (.int (2 : Int32)), (.ref b50)]))
    have d123 := DS.l2d (v := v18) (by omega)
    refine Dn.st (fun _ kk => XS.l2dS X106.here hx rfl (hb hby at_123) rfl rfl (kk)) ?_
    show Dn p e below s _ _ _ (T106.setTop (mkF m 124 #[.val (.int p0), .val (.int p1), .val (.int p2), .val (.int p3), .val (.int p4), .val (.long v4), .second, .val (.long v11), .second, .val (.long v18), .second, .val (.long v25), .second, .val (.int v37), .val (.int (3 : Int32)), .val (.ref b50), .val (.long v109), .second, .unset, .unset] [(.double (FP.l2d v18)), (.int (2 : Int32)), (.ref b50)]))
    generalize hv123 : ((FP.l2d v18) : UInt64) = v123 at d123 ⊢
    show Dn p e below s _ _ _ (T106.setTop (mkF m 124 #[.val (.int p0), .val (.int p1), .val (.int p2), .val (.int p3), .val (.int p4), .val (.long v4), .second, .val (.long v11), .second, .val (.long v18), .second, .val (.long v25), .second, .val (.int v37), .val (.int (3 : Int32)), .val (.ref b50), .val (.long v109), .second, .unset, .unset] [(.double v123), (.int (2 : Int32)), (.ref b50)]))
    have Vc_b50_124 := V_b50_96
    obtain ⟨cl_b50_124, Ar_b50_124, q_b50_124, S_b50_124, N_b50_124, H_b50_124, G_b50_124⟩ := Vc_b50_124
    have hin124 : ¬ ((2 : Int32) < 0 ∨ cl_b50_124.slots.size ≤ ((2 : Int32)).toNatClampNeg) := inb_of S_b50_124 ⟨by decide, by decide⟩
    obtain ⟨T124, h124, X124, e124, W124, st124⟩ := stD X106 hx hZ hh106 Ar_b50_124 (j := (2 : Int32)) hin124 (g := (mkF m 124 #[.val (.int p0), .val (.int p1), .val (.int p2), .val (.int p3), .val (.int p4), .val (.long v4), .second, .val (.long v11), .second, .val (.long v18), .second, .val (.long v25), .second, .val (.int v37), .val (.int (3 : Int32)), .val (.ref b50), .val (.long v109), .second, .unset, .unset] [(.double v123), (.int (2 : Int32)), (.ref b50)])) rfl rfl (hb hby at_124)
    have V_b50_124 := Arv.set Ar_b50_124 q_b50_124 S_b50_124 N_b50_124 H_b50_124 G_b50_124 rfl W124 2 rfl (Nat.le_of_ble_eq_true rfl)
    have N124 := Fr.snoc X124 N106 gn_b50
    have Z124 : n0 ≤ h124.size := Nat.le_trans Z96 (Keep.of_wr W124).1
    refine Dn.st st124 ?_
    show Dn p e below s _ _ _ (T124.setTop (mkF m 125 #[.val (.int p0), .val (.int p1), .val (.int p2), .val (.int p3), .val (.int p4), .val (.long v4), .second, .val (.long v11), .second, .val (.long v18), .second, .val (.long v25), .second, .val (.int v37), .val (.int (3 : Int32)), .val (.ref b50), .val (.long v109), .second, .unset, .unset] []))
    refine Dn.st (fun _ kk => XS.lload X124.here hx rfl (hb hby at_125) rfl  (XS.lload X124.here hx rfl (hb hby at_127) rfl  (XS.lload X124.here hx rfl (hb hby at_129) rfl  (XS.lsub X124.here hx rfl (hb hby at_131) rfl (kk))))) ?_
    show Dn p e below s _ _ _ (T124.setTop (mkF m 132 #[.val (.int p0), .val (.int p1), .val (.int p2), .val (.int p3), .val (.int p4), .val (.long v4), .second, .val (.long v11), .second, .val (.long v18), .second, .val (.long v25), .second, .val (.int v37), .val (.int (3 : Int32)), .val (.ref b50), .val (.long v109), .second, .unset, .unset] [(.long (v18 - v25)), (.long v109)]))
    generalize hv131 : ((v18 - v25) : Int64) = v131
    have q131 : (v131.toInt - (v18.toInt - v25.toInt)) % 18446744073709551616 = 0 := by have qq := c_lsub v18 v25; rw [hv131] at qq; exact qq
    have r131 := rng64 v131
    show Dn p e below s _ _ _ (T124.setTop (mkF m 132 #[.val (.int p0), .val (.int p1), .val (.int p2), .val (.int p3), .val (.int p4), .val (.long v4), .second, .val (.long v11), .second, .val (.long v18), .second, .val (.long v25), .second, .val (.int v37), .val (.int (3 : Int32)), .val (.ref b50), .val (.long v109), .second, .unset, .unset] [(.long v131), (.long v109)]))
    refine Dn.st (fun _ kk => XS.iload X124.here hx rfl (hb hby at_132) rfl  (kk)) ?_
    show Dn p e below s _ _ _ (T124.setTop (mkF m 134 #[.val (.int p0), .val (.int p1), .val (.int p2), .val (.int p3), .val (.int p4), .val (.long v4), .second, .val (.long v11), .second, .val (.long v18), .second, .val (.long v25), .second, .val (.int v37), .val (.int (3 : Int32)), .val (.ref b50), .val (.long v109), .second, .unset, .unset] [(.int v37), (.long v131), (.long v109)]))
    obtain ⟨_, _, ⟨T134, L134, k134, n134⟩, -, X134, ⟨Lc134, hQ134, l134, y134, z134⟩, st134⟩ := Jvm.LawKit.callS X124 hx (y := (⟨"com/example/listino/listino/stats/MomentsSumOfPowersPinLaw", "pow", "(JI)J"⟩ : MethodName)) hown (mvT hZ (hw _ (List.mem_of_getElem? (i := 5) rfl))) (mvT hZ (hw _ (List.mem_of_getElem? (i := 6) rfl))) (mvT hZ (hw _ (List.mem_of_getElem? (i := 7) rfl))) (mvT hZ (hw _ (List.mem_of_getElem? (i := 8) rfl))) (by decide) (backOf (W := 2) (rm2 l Z a0 hw [] v131 v37 (v37.toInt - 1).toNat h124 n0 Z124 (by omega) (by omega) (by omega) (by omega)) hZ (hw _ (List.mem_of_getElem? (i := 8) rfl)) (hw _ (List.mem_of_getElem? (i := 7) rfl)) (by decide) (by decide)) (g := (mkF m 134 #[.val (.int p0), .val (.int p1), .val (.int p2), .val (.int p3), .val (.int p4), .val (.long v4), .second, .val (.long v11), .second, .val (.long v18), .second, .val (.long v25), .second, .val (.int v37), .val (.int (3 : Int32)), .val (.ref b50), .val (.long v109), .second, .unset, .unset] [(.int v37), (.long v131), (.long v109)])) rfl (by rw [hml]; rfl) (argsL := [(.long v131), (.int v37)]) (rest := [(.long v109)]) (lenOf pd1 rfl) rfl (by show 2 * 0 + _ ≤ _; exact Nat.le_of_eq rfl) (hb hby at_134) (fun _ _ => ⟨rfl, e124, (by decide : 1 + 0 ≤ _), (by decide : 3 + 0 ≤ _)⟩)
    dsimp only [Pt.U, Pt.locs, Pt.cells, Pt.slots] at X134 l134 y134 z134 st134 hQ134
    subst l134 y134 z134
    obtain ⟨z134, rfl, w134, Nq134, hh134⟩ := hQ134
    have N134 := Fr.app N124 Nq134
    refine Dn.st st134 ?_
    have ed134 : v131.toInt = v18.toInt - v25.toInt := by omega
    rw [ed134] at w134
    have pb134 := own_p6 (d := v18.toInt - v25.toInt) (by omega) (by omega) (t := (v37.toInt - 1).toNat) (by omega)
    show Dn p e below s _ _ _ (T134.setTop (mkF m 137 #[.val (.int p0), .val (.int p1), .val (.int p2), .val (.int p3), .val (.int p4), .val (.long v4), .second, .val (.long v11), .second, .val (.long v18), .second, .val (.long v25), .second, .val (.int v37), .val (.int (3 : Int32)), .val (.ref b50), .val (.long v109), .second, .unset, .unset] [(.long z134), (.long v109)]))
    refine Dn.st (fun _ kk => XS.ladd X134.here hx rfl (hb hby at_137) rfl (kk)) ?_
    show Dn p e below s _ _ _ (T134.setTop (mkF m 138 #[.val (.int p0), .val (.int p1), .val (.int p2), .val (.int p3), .val (.int p4), .val (.long v4), .second, .val (.long v11), .second, .val (.long v18), .second, .val (.long v25), .second, .val (.int v37), .val (.int (3 : Int32)), .val (.ref b50), .val (.long v109), .second, .unset, .unset] [(.long (v109 + z134))]))
    generalize hv137 : ((v109 + z134) : Int64) = v137
    have q137 : (v137.toInt - (v109.toInt + z134.toInt)) % 18446744073709551616 = 0 := by have qq := c_ladd v109 z134; rw [hv137] at qq; exact qq
    have r137 := rng64 v137
    show Dn p e below s _ _ _ (T134.setTop (mkF m 138 #[.val (.int p0), .val (.int p1), .val (.int p2), .val (.int p3), .val (.int p4), .val (.long v4), .second, .val (.long v11), .second, .val (.long v18), .second, .val (.long v25), .second, .val (.int v37), .val (.int (3 : Int32)), .val (.ref b50), .val (.long v109), .second, .unset, .unset] [(.long v137)]))
    refine Dn.st (fun _ kk => XS.lstore X134.here hx rfl (hb hby at_138) rfl (l' := #[.val (.int p0), .val (.int p1), .val (.int p2), .val (.int p3), .val (.int p4), .val (.long v4), .second, .val (.long v11), .second, .val (.long v18), .second, .val (.long v25), .second, .val (.int v37), .val (.int (3 : Int32)), .val (.ref b50), .val (.long v137), .second, .unset, .unset]) rfl (XS.aload X134.here hx rfl (hb hby at_140) rfl rfl (XS.lload X134.here hx rfl (hb hby at_142) rfl  (kk)))) ?_
    show Dn p e below s _ _ _ (T134.setTop (mkF m 144 #[.val (.int p0), .val (.int p1), .val (.int p2), .val (.int p3), .val (.int p4), .val (.long v4), .second, .val (.long v11), .second, .val (.long v18), .second, .val (.long v25), .second, .val (.int v37), .val (.int (3 : Int32)), .val (.ref b50), .val (.long v137), .second, .unset, .unset] [(.long v25), (.ref b50)]))
    have d144 := DS.l2d (v := v25) (by omega)
    refine Dn.st (fun _ kk => XS.l2dS X134.here hx rfl (hb hby at_144) rfl rfl (kk)) ?_
    show Dn p e below s _ _ _ (T134.setTop (mkF m 145 #[.val (.int p0), .val (.int p1), .val (.int p2), .val (.int p3), .val (.int p4), .val (.long v4), .second, .val (.long v11), .second, .val (.long v18), .second, .val (.long v25), .second, .val (.int v37), .val (.int (3 : Int32)), .val (.ref b50), .val (.long v137), .second, .unset, .unset] [(.double (FP.l2d v25)), (.ref b50)]))
    generalize hv144 : ((FP.l2d v25) : UInt64) = v144 at d144 ⊢
    show Dn p e below s _ _ _ (T134.setTop (mkF m 145 #[.val (.int p0), .val (.int p1), .val (.int p2), .val (.int p3), .val (.int p4), .val (.long v4), .second, .val (.long v11), .second, .val (.long v18), .second, .val (.long v25), .second, .val (.int v37), .val (.int (3 : Int32)), .val (.ref b50), .val (.long v137), .second, .unset, .unset] [(.double v144), (.ref b50)]))
    refine Dn.st (fun _ kk => XS.iload X134.here hx rfl (hb hby at_145) rfl  (kk)) ?_
    show Dn p e below s _ _ _ (T134.setTop (mkF m 147 #[.val (.int p0), .val (.int p1), .val (.int p2), .val (.int p3), .val (.int p4), .val (.long v4), .second, .val (.long v11), .second, .val (.long v18), .second, .val (.long v25), .second, .val (.int v37), .val (.int (3 : Int32)), .val (.ref b50), .val (.long v137), .second, .unset, .unset] [(.int v37), (.double v144), (.ref b50)]))
    obtain ⟨_, _, ⟨T147, L147, k147, n147⟩, -, X147, ⟨Lc147, hQ147, l147, y147, z147⟩, st147⟩ := Jvm.LawKit.callS X134 hx (y := (⟨"com/example/listino/listino/stats/Moments", "sumOfPowers", "([DDI)D"⟩ : MethodName)) hown (mvT hZ (hw _ (List.mem_of_getElem? (i := 1) rfl))) (mvT hZ (hw _ (List.mem_of_getElem? (i := 2) rfl))) (mvT hZ (hw _ (List.mem_of_getElem? (i := 3) rfl))) (mvT hZ (hw _ (List.mem_of_getElem? (i := 4) rfl))) (by decide) (backOf (W := 0) (rm1_3 l Z a0 hw [] b50 v144 v37 (v37.toInt - 1).toNat k50 v67 v95 v123 v4.toInt v11.toInt v18.toInt v25.toInt h124 n0 Z124 (by omega) (by omega) V_b50_124 d144 d67 d95 d123 ⟨by omega, by omega⟩ ⟨by omega, by omega⟩ ⟨by omega, by omega⟩) hZ (hw _ (List.mem_of_getElem? (i := 4) rfl)) (hw _ (List.mem_of_getElem? (i := 3) rfl)) (by decide) (by decide)) (g := (mkF m 147 #[.val (.int p0), .val (.int p1), .val (.int p2), .val (.int p3), .val (.int p4), .val (.long v4), .second, .val (.long v11), .second, .val (.long v18), .second, .val (.long v25), .second, .val (.int v37), .val (.int (3 : Int32)), .val (.ref b50), .val (.long v137), .second, .unset, .unset] [(.int v37), (.double v144), (.ref b50)])) rfl (by rw [hml]; rfl) (argsL := [(.ref b50), (.double v144), (.int v37)]) (rest := []) (lenOf pd0 rfl) rfl (by show 2 * 0 + _ ≤ _; exact Nat.le_of_eq rfl) (hb hby at_147) (fun _ _ => ⟨rfl, hh134, (by decide : 1 + 0 ≤ _), (by decide : 3 + 0 ≤ _)⟩)
    dsimp only [Pt.U, Pt.locs, Pt.cells, Pt.slots] at X147 l147 y147 z147 st147 hQ147
    subst l147 y147 z147
    obtain ⟨z147, rfl, d147, Nq147, hh147⟩ := hQ147
    have N147 := Fr.app N134 Nq147
    refine Dn.st st147 ?_
    show Dn p e below s _ _ _ (T147.setTop (mkF m 150 #[.val (.int p0), .val (.int p1), .val (.int p2), .val (.int p3), .val (.int p4), .val (.long v4), .second, .val (.long v11), .second, .val (.long v18), .second, .val (.long v25), .second, .val (.int v37), .val (.int (3 : Int32)), .val (.ref b50), .val (.long v137), .second, .unset, .unset] [(.double z147)]))
    refine Dn.st (fun _ kk => XS.dstore X147.here hx rfl (hb hby at_150) rfl (l' := #[.val (.int p0), .val (.int p1), .val (.int p2), .val (.int p3), .val (.int p4), .val (.long v4), .second, .val (.long v11), .second, .val (.long v18), .second, .val (.long v25), .second, .val (.int v37), .val (.int (3 : Int32)), .val (.ref b50), .val (.long v137), .second, .val (.double z147), .second]) rfl (XS.dload X147.here hx rfl (hb hby at_152) rfl  (XS.lload X147.here hx rfl (hb hby at_154) rfl  (kk)))) ?_
    show Dn p e below s _ _ _ (T147.setTop (mkF m 156 #[.val (.int p0), .val (.int p1), .val (.int p2), .val (.int p3), .val (.int p4), .val (.long v4), .second, .val (.long v11), .second, .val (.long v18), .second, .val (.long v25), .second, .val (.int v37), .val (.int (3 : Int32)), .val (.ref b50), .val (.long v137), .second, .val (.double z147), .second] [(.long v137), (.double z147)]))
    have d156 := DS.l2d (v := v137) (by first | omega | decide)
    refine Dn.st (fun _ kk => XS.l2dS X147.here hx rfl (hb hby at_156) rfl rfl (kk)) ?_
    show Dn p e below s _ _ _ (T147.setTop (mkF m 157 #[.val (.int p0), .val (.int p1), .val (.int p2), .val (.int p3), .val (.int p4), .val (.long v4), .second, .val (.long v11), .second, .val (.long v18), .second, .val (.long v25), .second, .val (.int v37), .val (.int (3 : Int32)), .val (.ref b50), .val (.long v137), .second, .val (.double z147), .second] [(.double (FP.l2d v137)), (.double z147)]))
    generalize hv156 : ((FP.l2d v137) : UInt64) = v156 at d156 ⊢
    show Dn p e below s _ _ _ (T147.setTop (mkF m 157 #[.val (.int p0), .val (.int p1), .val (.int p2), .val (.int p3), .val (.int p4), .val (.long v4), .second, .val (.long v11), .second, .val (.long v18), .second, .val (.long v25), .second, .val (.int v37), .val (.int (3 : Int32)), .val (.ref b50), .val (.long v137), .second, .val (.double z147), .second] [(.double v156), (.double z147)]))
    refine Dn.st (fun _ kk => XS.dcmpS X147.here hx rfl (hb hby at_157) rfl (DS.cmpV d147 d156 _) (kk)) ?_
    show Dn p e below s _ _ _ (T147.setTop (mkF m 158 #[.val (.int p0), .val (.int p1), .val (.int p2), .val (.int p3), .val (.int p4), .val (.long v4), .second, .val (.long v11), .second, .val (.long v18), .second, .val (.long v25), .second, .val (.int v37), .val (.int (3 : Int32)), .val (.ref b50), .val (.long v137), .second, .val (.double z147), .second] [(.int (c3 (((0 + own_pw (v4.toInt - v25.toInt) (v37.toInt - 1).toNat) + own_pw (v11.toInt - v25.toInt) (v37.toInt - 1).toNat) + own_pw (v18.toInt - v25.toInt) (v37.toInt - 1).toNat) v137.toInt))]))
    by_cases hc158 : (c3 (((0 + own_pw (v4.toInt - v25.toInt) (v37.toInt - 1).toNat) + own_pw (v11.toInt - v25.toInt) (v37.toInt - 1).toNat) + own_pw (v18.toInt - v25.toInt) (v37.toInt - 1).toNat) v137.toInt) = (0 : Int32)
    · have hi158 := (c3_eq _ _).mp hc158
      refine Dn.st (fun _ kk => XS.ifNo X147.here hx rfl (hb hby at_158) rfl ((if0 _ _).trans (teq hc158).2) (XS.iconst X147.here hx rfl (hb hby at_161) (XS.goto X147.here hx rfl (pc0 := 162) (pc' := 166) rfl (hb hby at_162) (by decide) (by decide) (kk)))) ?_
      show Dn p e below s _ _ _ (T147.setTop (mkF m 166 #[.val (.int p0), .val (.int p1), .val (.int p2), .val (.int p3), .val (.int p4), .val (.long v4), .second, .val (.long v11), .second, .val (.long v18), .second, .val (.long v25), .second, .val (.int v37), .val (.int (3 : Int32)), .val (.ref b50), .val (.long v137), .second, .val (.double z147), .second] [(.int (1 : Int32))]))
      exact Dn.ret X147 hlk hx hret rfl (Or.inl ⟨rfl, Or.inr (Or.inl rfl), _, rfl⟩) (hb hby at_166) (by rw [hh147]; exact ⟨rfl, N147⟩) (by decide) (by decide)
    · have hi158 := mt (c3_eq _ _).mpr hc158
      refine Dn.st (fun _ kk => XS.ifYes X147.here hx rfl (pc0 := 158) (pc' := 165) rfl (hb hby at_158) rfl ((if0 _ _).trans (feq hc158).2) (by decide) (by decide) (kk)) ?_
      show Dn p e below s _ _ _ (T147.setTop (mkF m 165 #[.val (.int p0), .val (.int p1), .val (.int p2), .val (.int p3), .val (.int p4), .val (.long v4), .second, .val (.long v11), .second, .val (.long v18), .second, .val (.long v25), .second, .val (.int v37), .val (.int (3 : Int32)), .val (.ref b50), .val (.long v137), .second, .val (.double z147), .second] []))
      exfalso
      first | omega | exact hi158 rfl

set_option maxRecDepth 65536 in
set_option maxHeartbeats 40000000 in
theorem comes_1 {Post : Tables → Env → Array Value → State → Outcome → State → Prop} (hpost : ∀ tb e args s v u, (limb_1_1.after args s (.returned v) u = true ∧ limb_1_2.after args s (.returned v) u = true ∧ True) → FrameEnd s (.returned v) u (Jvm.fieldLocs frame_1_writes args s ++ Jvm.arrayLocs frame_1_arrays args s ++ Jvm.staticLocs frame_1_statics s) 16 128 → Post tb e args s (.returned v) u) :
    ArmFor flags0 classFile x code maxLocals ret World_1 tables_1 room_1 Calls_1 rest_1 Pre_1 Post := by
  intro l hfl _ _ p e ha hc hk s m args below hf hA hF happ hP
  obtain ⟨hcalls, hrest, hpre⟩ := hP
  obtain ⟨-, -, -, hnamed, -, -, -, hat⟩ := (Spec.applies_iff hf).mp happ
  obtain ⟨hg, hn⟩ := and_e (Cond.before_iff.mp (show (Jvm.Cond.and given_1 narrow_1).before args s = true from hpre))
  obtain ⟨g1a, g1b⟩ := and_e hg
  obtain ⟨g2a, g2b⟩ := and_e g1b
  obtain ⟨g3a, g3b⟩ := and_e g2b
  obtain ⟨g4a, g4b⟩ := and_e g3b
  obtain ⟨g5a, g5b⟩ := and_e g4b
  obtain ⟨w0, w1, w2, w3, w4, rfl⟩ : ∃ w0 w1 w2 w3 w4 : Value, args = #[w0, w1, w2, w3, w4] := by
    have hs : args.size = 5 := by simpa [Cond.value, given_1] using g1a
    obtain ⟨L⟩ := args
    match L, hs with
    | [w0, w1, w2, w3, w4], _ => exact ⟨w0, w1, w2, w3, w4, rfl⟩
  have hw := fun d (hd : d ∈ tables_1) => atoms_spec (ws := Jvm.Cond.code x code maxLocals ret :: tables_1) hat d (List.mem_cons_of_mem _ hd)
  have hfit : Fit s := fun {y c} hc i hi => by
    obtain ⟨ha, rfl⟩ := Array.getElem?_eq_some_iff.mp hc
    have q := List.all_eq_true.mp ((Array.all_eq_true_iff_forall_mem.mp hF) _ (Array.getElem_mem ha)) i (List.mem_range.mpr hi)
    simpa [Array.getElem?_eq_getElem hi] using q
  obtain ⟨i0, ei0⟩ := is_v g2a
  obtain rfl : w0 = (.int i0) := Option.some.inj ei0
  obtain ⟨i1, ei1⟩ := is_v g3a
  obtain rfl : w1 = (.int i1) := Option.some.inj ei1
  obtain ⟨i2, ei2⟩ := is_v g4a
  obtain rfl : w2 = (.int i2) := Option.some.inj ei2
  obtain ⟨i3, ei3⟩ := is_v g5a
  obtain rfl : w3 = (.int i3) := Option.some.inj ei3
  obtain ⟨i4, ei4⟩ := is_v g5b
  obtain rfl : w4 = (.int i4) := Option.some.inj ei4
  obtain ⟨n, o, h1, h2, h3, _, L, rfl, ⟨rfl, N⟩, hq⟩ := rm0 l s _ hw tables_1 i0 i1 i2 i3 i4  s.heap s.heap.size (Nat.le_refl _)  p e ha hc hk s m _ below hf ((Spec.applies_iff_loose hf).mp happ).1 ⟨rfl, State.Warmed39.refl s, rfl⟩ trivial
  refine ⟨n, _, h1, h2, h3, hpost _ _ _ _ _ _ ⟨Cond.after_iff.mpr rfl, Cond.after_iff.mpr (eq_i res_at (Term.int_eval (1)) rfl), trivial⟩ ⟨hq.1, hq.2.1, (hq.2.2.sift fun y hy => Or.inr (N y hy)).mono (by decide) (by decide)⟩⟩
theorem main_1_1 : Claimed_1_1 := comes_1 fun _ _ _ _ _ _ h hF => ⟨h.1, hF⟩
theorem main_1_2 : Claimed_1_2 := comes_1 fun _ _ _ _ _ _ h hF => ⟨h.2.1, hF⟩
end Jvm.Pilot.@@N@@
namespace Jvm.Pilot.@@N@@
open Jvm Jvm.ClassFile Sem Op Lib Jvm.Free Jvm.Stand Jvm.Pilot.@@N@@.Jvm.D
/-! MADE BY PROGRAM (witnessworld.py) out of the Statement's table words and the real class files: 11 classes; the members and pool entries that the words name. The judged class is class 1, her method 2. -/
namespace start1
open Jvm.ClassFile
def u (s : String) : CpInfo := .utf8 (stringToUtf16 s)
/-- a pool by its gaps: so many unusable entries, then the entry; so many at the end -/
def gap : Nat → List CpInfo → List CpInfo
  | 0, r => r
  | n + 1, r => .unusable :: gap n r
def poolList (es : List (Nat × CpInfo)) (last : Nat) : List CpInfo := es.foldr (fun e r => gap e.1 (e.2 :: r)) (gap last [])
def pool (es : List (Nat × CpInfo)) (last : Nat) : Array CpInfo := ⟨poolList es last⟩
def fileOf (pool : Array CpInfo) (this : Nat) (attrs : Array Attribute := #[]) (ms : Array MethodInfo := #[]) (fl : Nat := 33) (sup : Nat := 0) (ifs : Array Nat := #[]) (fds : Array FieldInfo := #[]) : ClassFile where
  minorVersion := 0
  majorVersion := 65
  constantPool := pool
  accessFlags := fl
  thisClass := this
  superClass := sup
  interfaces := ifs
  fields := fds
  methods := ms
  attributes := attrs
def plain (name : String) (sup : Option ClassId) : Class where
  name := name
  kind := .ordinary
  loader := none
  accessFlags := 33
  super := sup
  interfaces := #[]
  cf := none
  fields := #[]
  methods := #[]
  instanceTypes := #[]
  staticTypes := #[]
  resolved := #[]
  callSites := []
  init := .initialized
  statics := none
  mirror := none

def pool0 : Array CpInfo := pool [(5, u "<init>"), (0, u "()V"), (1, .class_ 10), (1, u "java/lang/Object")] 113

def k0m0 : Method := { name := "<init>", desc := "()V", sig := { parameters := [], returnType := none }, accessFlags := 1, code := none }
/-- java/lang/Object -/
def k0 : Class := { plain "java/lang/Object" none with
  accessFlags := 33
  interfaces := #[]
  cf := some (fileOf pool0 8 #[] #[{ accessFlags := 1, nameIndex := 5, descriptorIndex := 6, attributes := #[] }] 33 0 #[] #[])
  fields := #[]
  methods := #[k0m0]
  instanceTypes := #[]
  staticTypes := #[]
  resolved := Array.replicate 124 none
  statics := none }

def pool1 : Array CpInfo := pool [(2, .class_ 4), (1, u "java/lang/Object"), (0, u "<init>"), (0, u "()V"), (0, .methodref 8 9), (0, .class_ 10), (0, .nameAndType 11 12), (0, u "com/example/listino/listino/stats/MomentsSumOfPowersPinLaw"), (0, u "pow"), (0, u "(JI)J"), (0, .methodref 14 15), (0, .class_ 16), (0, .nameAndType 17 18), (0, u "com/example/listino/listino/stats/Moments"), (0, u "sumOfPowers"), (0, u "([DDI)D"), (3, u "law"), (0, u "(IIIII)Z")] 4

def k1m0 : Method := { name := "<init>", desc := "()V", sig := { parameters := [], returnType := none }, accessFlags := 1, code := none }
def k1c1 : Code := { maxStack := 4, maxLocals := 13, code := method_2_code, exceptionTable := #[], attributes := #[] }
def k1m1 : Method := { name := "pow", desc := "(JI)J", sig := { parameters := [.long, .int], returnType := some .long }, accessFlags := 10, code := some k1c1 }
def k1c2 : Code := { maxStack := 6, maxLocals := 20, code := code, exceptionTable := #[], attributes := #[] }
def k1m2 : Method := { name := "law", desc := "(IIIII)Z", sig := { parameters := [.int, .int, .int, .int, .int], returnType := some .boolean }, accessFlags := 9, code := some k1c2 }
/-- com/example/listino/listino/stats/MomentsSumOfPowersPinLaw -/
def k1 : Class := { plain "com/example/listino/listino/stats/MomentsSumOfPowersPinLaw" (some 0) with
  accessFlags := 49
  interfaces := #[]
  cf := some (fileOf pool1 8 #[] #[{ accessFlags := 1, nameIndex := 5, descriptorIndex := 6, attributes := #[] }, { accessFlags := 10, nameIndex := 11, descriptorIndex := 12, attributes := #[] }, { accessFlags := 9, nameIndex := 22, descriptorIndex := 23, attributes := #[] }] 49 2 #[] #[])
  fields := #[]
  methods := #[k1m0, k1m1, k1m2]
  instanceTypes := #[]
  staticTypes := #[]
  resolved := Array.replicate 28 none
  statics := none }

def pool2 : Array CpInfo := pool [(2, .class_ 4), (1, u "java/lang/Object"), (0, u "<init>"), (0, u "()V"), (1, .class_ 10), (1, u "com/example/listino/listino/stats/Moments"), (0, u "sumOfPowers"), (0, u "([DDI)D")] 10

def k2m0 : Method := { name := "<init>", desc := "()V", sig := { parameters := [], returnType := none }, accessFlags := 2, code := none }
def k2c1 : Code := { maxStack := 4, maxLocals := 16, code := prog_51_method_3_code, exceptionTable := #[], attributes := #[] }
def k2m1 : Method := { name := "sumOfPowers", desc := "([DDI)D", sig := { parameters := [(.array .double), .double, .int], returnType := some .double }, accessFlags := 8, code := some k2c1 }
/-- com/example/listino/listino/stats/Moments -/
def k2 : Class := { plain "com/example/listino/listino/stats/Moments" (some 0) with
  accessFlags := 48
  interfaces := #[]
  cf := some (fileOf pool2 8 #[] #[{ accessFlags := 2, nameIndex := 5, descriptorIndex := 6, attributes := #[] }, { accessFlags := 8, nameIndex := 11, descriptorIndex := 12, attributes := #[] }] 48 2 #[] #[])
  fields := #[]
  methods := #[k2m0, k2m1]
  instanceTypes := #[]
  staticTypes := #[]
  resolved := Array.replicate 23 none
  statics := none }

def pool3 : Array CpInfo := pool [(1, u "java/lang/Cloneable"), (0, .class_ 1), (0, u "java/lang/Object"), (0, .class_ 3)] 3

/-- java/lang/Cloneable -/
def k3 : Class := { plain "java/lang/Cloneable" (some 0) with
  accessFlags := 1537
  interfaces := #[]
  cf := some (fileOf pool3 2 #[] #[] 1537 4 #[] #[])
  fields := #[]
  methods := #[]
  instanceTypes := #[]
  staticTypes := #[]
  resolved := Array.replicate 8 none
  statics := none }

def pool4 : Array CpInfo := pool [(1, u "java/io/Serializable"), (0, .class_ 1), (0, u "java/lang/Object"), (0, .class_ 3)] 3

/-- java/io/Serializable -/
def k4 : Class := { plain "java/io/Serializable" (some 0) with
  accessFlags := 1537
  interfaces := #[]
  cf := some (fileOf pool4 2 #[] #[] 1537 4 #[] #[])
  fields := #[]
  methods := #[]
  instanceTypes := #[]
  staticTypes := #[]
  resolved := Array.replicate 8 none
  statics := none }

/-- the primitive byte -/
def k5 : Class := { plain "byte" none with kind := .primitive 'B', accessFlags := 0x411 }
/-- [B -/
def k6 : Class := { plain "[B" (some 0) with kind := .array 5 .byte, interfaces := #[3, 4], accessFlags := 1041 }

/-- the primitive double -/
def k7 : Class := { plain "double" none with kind := .primitive 'D', accessFlags := 0x411 }
/-- [D -/
def k8 : Class := { plain "[D" (some 0) with kind := .array 7 .double, interfaces := #[3, 4], accessFlags := 1041 }

/-- the primitive int -/
def k9 : Class := { plain "int" none with kind := .primitive 'I', accessFlags := 0x411 }
/-- [I -/
def k10 : Class := { plain "[I" (some 0) with kind := .array 9 .int, interfaces := #[3, 4], accessFlags := 1041 }

def heap : Heap := #[]
def classes : Array Class := #[k0, k1, k2, k3, k4, k5, k6, k7, k8, k9, k10]
def interned : List (Array UInt16 × Addr) := []
def slotsUsed : Nat := 0
def theMethod : MethodId := ⟨1, 2⟩
def args0 : Array Value := #[.int 5, .int 6, .int 7, .int 8, .int 9]
def aboutOver (below : List Frame) : State where
  vm := { classes := classes, interned := interned.toArray }
  heap := heap
  slotsUsed := slotsUsed
  threads := #[{ frames := .invoking theMethod args0 :: below }]
def below0 : List Frame := [.native { method := ⟨0, 0⟩, args := #[] }]
def about1 : State := aboutOver below0
def p0 : Program := .bare "" "" ""
def e0 : Env := launch0.env 0 0 0
theorem w_frames : about1.frames = Frame.invoking theMethod args0 :: below0 := rfl
set_option maxRecDepth 65536 in
theorem w_args : argsFit about1.vm theMethod args0 = true := by decide +kernel
set_option maxRecDepth 65536 in
theorem w_heap : heapFits about1 = true := by decide +kernel
set_option maxRecDepth 65536 in
theorem w_runnable : about1.curStatus? = some .runnable := by decide +kernel
set_option maxRecDepth 65536 in
theorem w_alone : about1.alone = true := by decide +kernel
set_option maxRecDepth 65536 in
theorem w_named : about1.methodNamed? x = some theMethod := by decide +kernel
set_option maxRecDepth 65536 in
theorem w_hears : about1.hears theMethod below0 = true := by decide +kernel
set_option maxRecDepth 65536 in
theorem w_ripe : about1.ripe theMethod args0 below0 = true := by decide +kernel
theorem w_running : about1.status = .running := rfl
set_option maxRecDepth 65536 in
theorem w_room : about1.hasRoom e0.platform room_1 = true :=
  launch0.hasRoom_least _ room_1 (by decide +kernel) (by decide +kernel) (by decide +kernel) (by decide +kernel) (by decide +kernel) (by decide +kernel)
theorem allAtoms_all (ts : List Jvm.Cond) (a : Array Jvm.Value) (st : Jvm.State) : (allAtoms ts).before a st = ts.all (fun c => c.before a st) := by
  induction ts with
  | nil => rfl
  | cons c t ih =>
    show (Jvm.Cond.and c (allAtoms t)).before a st = _
    rw [Jvm.Cond.before_and, ih, List.all_cons]
def words1 : List Jvm.Cond := Jvm.Cond.code x code maxLocals ret :: tables_1
/-- a 'code' word, met by the world's own term for the bytes: nothing is compared byte by byte -/
theorem code_word {y : MethodName} {bytes : ByteArray} {mx : Nat} {rt : Option FieldType} {a : Array Value} {s : State} {m : MethodId} {meth : Method} {c : Code} (h1 : s.methodNamed? y = some m) (h2 : s.vm.method? m = some meth) (h3 : meth.code = some c) (h4 : c.code = bytes)
    (h5 : (c.maxLocals == mx && c.exceptionTable.isEmpty && decide (c.maxStack ≤ mostOperands) && decide (meth.sig.returnType = rt) && !meth.locks && decide (parseMethodDescriptor y.desc = some meth.sig)) = true) : (Jvm.Cond.code y bytes mx rt).before a s = true := by
  simp only [Bool.and_eq_true, beq_iff_eq, Bool.not_eq_true', decide_eq_true_eq] at h5
  obtain ⟨⟨⟨⟨⟨g1, g2⟩, g3⟩, g4⟩, g5⟩, g6⟩ := h5
  simp [Cond.before, Cond.holds, Cond.value, h1, h2, h3, h4, g1, g2, g3, g4, g5, g6]
def isCode : Jvm.Cond → Bool
  | .code _ _ _ _ => true
  | _ => false
theorem all_split {L : List Jvm.Cond} {P : Jvm.Cond → Bool} (h1 : L.all (fun c => isCode c || P c) = true) (h2 : ∀ c ∈ L.filter isCode, P c = true) : L.all P = true := by
  refine List.all_eq_true.mpr fun c hc => ?_
  have h := List.all_eq_true.mp h1 c hc
  rcases Bool.eq_false_or_eq_true (isCode c) with hi | hi
  · exact h2 c (List.mem_filter.mpr ⟨hc, hi⟩)
  · simpa [hi] using h
set_option maxRecDepth 65536 in
theorem w_c0 : (Jvm.Cond.code x code maxLocals ret).before args0 about1 = true := code_word (m := ⟨1, 2⟩) (meth := k1m2) (c := k1c2) (by decide +kernel) rfl rfl rfl (by decide +kernel)
set_option maxRecDepth 65536 in
theorem w_c1 : (Jvm.Cond.code ({ cls := "com/example/listino/listino/stats/Moments", name := "sumOfPowers", desc := "([DDI)D" } : Jvm.MethodName) prog_51_method_3_code (16 : Nat) (Option.some Jvm.ClassFile.FieldType.double)).before args0 about1 = true := code_word (m := ⟨2, 1⟩) (meth := k2m1) (c := k2c1) (by decide +kernel) rfl rfl rfl (by decide +kernel)
set_option maxRecDepth 65536 in
theorem w_c2 : (Jvm.Cond.code ({ cls := "com/example/listino/listino/stats/MomentsSumOfPowersPinLaw", name := "pow", desc := "(JI)J" } : Jvm.MethodName) method_2_code (13 : Nat) (Option.some Jvm.ClassFile.FieldType.long)).before args0 about1 = true := code_word (m := ⟨1, 1⟩) (meth := k1m1) (c := k1c1) (by decide +kernel) rfl rfl rfl (by decide +kernel)
def codes1 : List Jvm.Cond := [Jvm.Cond.code x code maxLocals ret, Jvm.Cond.code ({ cls := "com/example/listino/listino/stats/Moments", name := "sumOfPowers", desc := "([DDI)D" } : Jvm.MethodName) prog_51_method_3_code (16 : Nat) (Option.some Jvm.ClassFile.FieldType.double), Jvm.Cond.code ({ cls := "com/example/listino/listino/stats/MomentsSumOfPowersPinLaw", name := "pow", desc := "(JI)J" } : Jvm.MethodName) method_2_code (13 : Nat) (Option.some Jvm.ClassFile.FieldType.long)]
set_option maxRecDepth 65536 in
theorem codes_eq : words1.filter isCode = codes1 := rfl
theorem w_codes : ∀ c ∈ words1.filter isCode, c.before args0 about1 = true := by
  rw [codes_eq]
  intro c hc
  simp only [codes1, List.mem_cons, List.not_mem_nil, or_false] at hc
  rcases hc with rfl | rfl | rfl
  · exact w_c0
  · exact w_c1
  · exact w_c2
set_option maxRecDepth 65536 in
theorem w_t1 : words1.all (fun c => isCode c || c.before args0 about1) = true := by decide +kernel
theorem w_tables : (allAtoms (Jvm.Cond.code x code maxLocals ret :: tables_1)).before args0 about1 = true := by
  rw [allAtoms_all]
  show words1.all (fun c => c.before args0 about1) = true
  refine all_split ?_ w_codes
  rw [w_t1]
set_option maxRecDepth 65536 in
theorem w_case : (Jvm.Cond.and given_1 narrow_1).before args0 about1 = true := by decide +kernel
theorem w_applies : (headSpec (Jvm.Cond.code x code maxLocals ret :: tables_1) room_1).applies x e0.platform about1 = true :=
  (Spec.applies_iff w_frames).mpr ⟨w_running, w_runnable, w_alone, w_named, w_hears, w_ripe, w_room, w_tables⟩
theorem atStart : AtStart classFile x code maxLocals ret World_1 tables_1 room_1 Calls_1 rest_1 Pre_1 launch0 p0 e0 about1 theMethod args0 below0 :=
  ⟨lists_1, trivial, launch0.admits_env _ _ _, launch0.least_env, fairChoices_fair.cas, fairChoices_fair.clock, w_frames, w_args, w_heap, w_applies, trivial, trivial, w_case⟩
end start1
theorem witness_1 : WitnessClaimed_1 := ⟨start1.p0, start1.e0, start1.about1, start1.theMethod, start1.args0, start1.below0, start1.atStart⟩
end Jvm.Pilot.@@N@@
