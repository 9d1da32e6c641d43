import JvmDerived
import JvmDerived.Pilot.@@N@@Statement
import JvmDerived.Pilot.@@N@@Code
set_option linter.unusedVariables false
set_option linter.unusedSimpArgs false
@@BLOCK:LamKit.lean.txt@@
namespace Jvm.Pilot.@@N@@
open Jvm Jvm.ClassFile Sem Op Lib Jvm.Free Jvm.Stand Jvm.LawKit Jvm.RoadKit Bundle Jvm.Pilot.@@N@@.Jvm.D
section Own
variable {p : Program} {l : Launch} {e : Env} {R : Room} {s : State} {m : MethodId} {args : Array Value} {below : List Frame} {meth : Method} {c : Code} {T : State} {locs : List Loc} {cells slots : Nat}
/-- the run from A ends, returns what Q says, and has made and written no more than told -/
def Dn (p : Program) (e : Env) (below : List Frame) (s : State) (Q : Option Value → Heap → List Loc → Prop) (rc rs : Nat) (A : State) : Prop :=
  ∃ s₂ o, Steps p.tables e below A s₂ ∧ s₂.status = .running ∧ Ended s₂ below o ∧ ∃ v L, o = .returned v ∧ Q v s₂.heap L ∧ FrameEnd s o s₂ L rc rs
theorem Dn.st {Q : Option Value → Heap → List Loc → Prop} {rc rs : Nat} {A B : State} (h : ∀ t, Steps p.tables e below B t → Steps p.tables e below A t) (k : Dn p e below s Q rc rs B) : Dn p e below s Q rc rs A := by
  obtain ⟨s2, o, h1, h2⟩ := k; exact ⟨s2, o, h _ h1, h2⟩
theorem Dn.tr {Q : Option Value → Heap → List Loc → Prop} {rc rs : Nat} {A B : State} (h : Steps p.tables e below A B) (k : Dn p e below s Q rc rs B) : Dn p e below s Q rc rs A := by
  obtain ⟨s2, o, h1, h2⟩ := k; exact ⟨s2, o, h.trans h1, h2⟩
theorem Dn.ret (X : Stand p l e R s m args below meth c T locs cells slots) (hlk : meth.locks = false) (hx : p.tables.exec = Jvm.exec) {pc : Nat} {Ls : Array Slot} {w : Value} {t : FieldType} {i : Instr} {rest : List Value} (hret : meth.sig.returnType = some t) (hn : narrow t w = w)
    (hi : (i = .ireturn ∧ (t = .int ∨ t = .boolean ∨ t = .byte ∨ t = .char ∨ t = .short) ∧ ∃ z, w = .int z) ∨ (i = .lreturn ∧ t = .long ∧ ∃ z, w = .long z) ∨ (i = .dreturn ∧ t = .double ∧ ∃ z, w = .double z) ∨ (i = .freturn ∧ t = .float ∧ ∃ z, w = .float z) ∨ (i = .areturn ∧ t.isReference = true ∧ w.isRef = true))
    (hd : decode c.code pc = .ok (i, 1)) {Q : Option Value → Heap → List Loc → Prop} {rc rs : Nat} (hq : Q (some w) T.heap locs) (hc : cells ≤ rc) (hs : slots ≤ rs) : Dn p e below s Q rc rs (T.setTop (mkF m pc Ls (w :: rest))) := by
  obtain ⟨fs, hr, hrun, hended, hW, hsame⟩ := X.leave (v := some w) (fun h => by rw [hret] at h; cases h) hlk
  exact ⟨_, _, retOut X hx hret hn hi hd hr, hrun, hended, _, _, rfl, hq, ⟨_, rfl⟩, hW, hsame.mono hc hs⟩
theorem Dn.ret0 (X : Stand p l e R s m args below meth c T locs cells slots) (hlk : meth.locks = false) (hx : p.tables.exec = Jvm.exec) {pc : Nat} {Ls : Array Slot} (hret : meth.sig.returnType = none)
    (hd : decode c.code pc = .ok (.return_, 1)) {Q : Option Value → Heap → List Loc → Prop} {rc rs : Nat} (hq : Q none T.heap locs) (hc : cells ≤ rc) (hs : slots ≤ rs) : Dn p e below s Q rc rs (T.setTop (mkF m pc Ls [])) := by
  obtain ⟨fs, hr, hrun, hended, hW, hsame⟩ := X.leave (v := none) (fun _ => rfl) hlk
  exact ⟨_, _, X.returnOut hx hret hd hr, hrun, hended, _, _, rfl, hq, ⟨_, rfl⟩, hW, hsame.mono hc hs⟩
theorem own_iincW {tb : Tables} [Ours tb] {target : State} {g : JFrame} (h : At T m c below) (hx : tb.exec = Jvm.exec) (hg : g.method = m) {k : Nat} {cst : Int} {x : Int32} {l' : Array Slot} (hd : decode c.code g.pc = .ok (.iinc k cst, 6)) (hl : g.locals[k]? = some (.val (.int x))) (hl' : storeLocals g.locals k (.int (x + Int32.ofInt cst)) = some l')
    (hr : Steps tb e below (T.setTop { g with pc := g.pc + 6, locals := l' }) target) : Steps tb e below (T.setTop g) target := by
  subst hg
  jvm_step h [h.top, hx, hd, hl, hl']
  exact hr
theorem own_dremS {tb : Tables} [Ours tb] {target : State} {g : JFrame} (h : At T m c below) (hx : tb.exec = Jvm.exec) (hg : g.method = m) {x y v : UInt64} {rest : List Value} (hd : decode c.code g.pc = .ok (.drem, 1)) (hs : g.stack = .double y :: .double x :: rest) (hn : Jvm.Free.Fl.NoNaN64 (FP.drem x y)) (hv : FP.drem x y = v)
    (hr : Steps tb e below (T.setTop { g with pc := g.pc + 1, stack := .double v :: rest }) target) : Steps tb e below (T.setTop g) target := by
  subst hg; subst hv
  obtain ⟨gm, gp, gl, gs, gk, ge, gr⟩ := g
  simp only at hs hd
  subst hs
  jvm_step h [h.top, hx, hd, Op.drem.at_number h.top hn]
  exact hr
end Own
section Dyad
open Jvm.FP Jvm.FP.Core Jvm.Free.Fl
/-- the datum with its exponent moved by k -/
def sft (k : Nat) : Datum → Datum
  | .nan => .nan
  | .inf s => .inf s
  | .fin s c q => .fin s c (q + (k : Int))
/-- x is the number i / 2^k -/
def DS (k : Nat) (i : Int) (x : UInt64) : Prop := Whole i (sft k (val64 x))
theorem sft_zero (d : Datum) : sft 0 d = d := by
  cases d with
  | nan => rfl
  | inf s => rfl
  | fin s c q => show Datum.fin s c (q + ((0 : Nat) : Int)) = _; rw [Int.natCast_zero, Int.add_zero]
theorem sft_sum (k : Nat) (x y : Datum) : exactSum (sft k x) (sft k y) = sft k (exactSum x y) := by
  cases x with
  | nan => rfl
  | inf s =>
    cases y with
    | nan => rfl
    | inf t => show (if s = t then Datum.inf s else .nan) = sft k (if s = t then Datum.inf s else .nan); split <;> rfl
    | fin t d r => rfl
  | fin s c q =>
    cases y with
    | nan => rfl
    | inf t => rfl
    | fin t d r =>
      have h : min (q + (k : Int)) (r + k) = min q r + k := by omega
      have h1 : q + (k : Int) - (min q r + k) = q - min q r := by omega
      have h2 : r + (k : Int) - (min q r + k) = r - min q r := by omega
      have hu : sumUnits s c (q + k) t d (r + k) (min (q + k) (r + k)) = sumUnits s c q t d r (min q r) := by
        show signed s (c * 2 ^ (q + (k : Int) - min (q + k) (r + k)).toNat) + signed t (d * 2 ^ (r + (k : Int) - min (q + k) (r + k)).toNat) = signed s (c * 2 ^ (q - min q r).toNat) + signed t (d * 2 ^ (r - min q r).toNat)
        rw [h, h1, h2]
      show Datum.fin (sumSign s t (sumUnits s c (q + k) t d (r + k) (min (q + k) (r + k)))) (sumUnits s c (q + k) t d (r + k) (min (q + k) (r + k))).natAbs (min (q + k) (r + k)) = Datum.fin (sumSign s t (sumUnits s c q t d r (min q r))) (sumUnits s c q t d r (min q r)).natAbs (min q r + k)
      rw [hu, h]
theorem sft_negate (k : Nat) (x : Datum) : negate (sft k x) = sft k (negate x) := by cases x <;> rfl
theorem sft_product (k m : Nat) (x y : Datum) : exactProduct (sft k x) (sft m y) = sft (k + m) (exactProduct x y) := by
  cases x with
  | nan => rfl
  | inf s =>
    cases y with
    | nan => rfl
    | inf t => rfl
    | fin t d r => show (if d = 0 then Datum.nan else .inf (s != t)) = sft (k + m) (if d = 0 then Datum.nan else .inf (s != t)); split <;> rfl
  | fin s c q =>
    cases y with
    | nan => rfl
    | inf t => show (if c = 0 then Datum.nan else .inf (s != t)) = sft (k + m) (if c = 0 then Datum.nan else .inf (s != t)); split <;> rfl
    | fin t d r =>
      show Datum.fin (s != t) (c * d) (q + k + (r + m)) = Datum.fin (s != t) (c * d) (q + r + ((k + m : Nat) : Int))
      congr 1; omega
theorem sft_order (k : Nat) (x y : Datum) : order (sft k x) (sft k y) = order x y := by
  cases x with
  | nan => rfl
  | inf s => cases y <;> rfl
  | fin s c q =>
    cases y with
    | nan => rfl
    | inf t => rfl
    | fin t d r =>
      have h : min (q + (k : Int)) (r + k) = min q r + k := by omega
      have h1 : q + (k : Int) - (min q r + k) = q - min q r := by omega
      have h2 : r + (k : Int) - (min q r + k) = r - min q r := by omega
      show some (compare (signed s (c * 2 ^ (q + (k : Int) - min (q + k) (r + k)).toNat)) (signed t (d * 2 ^ (r + (k : Int) - min (q + k) (r + k)).toNat))) = some (compare (signed s (c * 2 ^ (q - min q r).toNat)) (signed t (d * 2 ^ (r - min q r).toNat)))
      rw [h, h1, h2]
theorem b64_qmin : b64.qmin = -1074 := by decide +kernel
theorem b64_qmax : b64.qmax = 971 := by decide +kernel
theorem b64_tails : b64.tails = 4503599627370496 := by decide +kernel
theorem fits64 (s : Bool) (c : Nat) (q : Int) : Core.fits b64 (.fin s c q) ↔ c < 2 ^ 53 ∧ -1074 ≤ q ∧ q ≤ 971 ∧ (q = -1074 ∨ 4503599627370496 ≤ c) := by
  show (c < 2 ^ 53 ∧ b64.qmin ≤ q ∧ q ≤ b64.qmax ∧ (q = b64.qmin ∨ b64.tails ≤ c)) ↔ _
  rw [b64_qmin, b64_qmax, b64_tails]
/-- n / 2^k is a double, for n up to 2^53 and k up to 1022 -/
theorem natFitS (s : Bool) {n k : Nat} (hk : k ≤ 1022) (hn : n ≤ 2 ^ 53) :
    ∃ c q, Core.fits b64 (.fin s c q) ∧ n * 2 ^ (-(k : Int) - q).toNat = c * 1 * 2 ^ (q - -(k : Int)).toNat := by
  by_cases h0 : n = 0
  · subst h0
    exact ⟨0, b64.qmin, zero_fits good_b64 s, by simp⟩
  · obtain ⟨c, q, hf, hv⟩ := natFit good_b64 wide_b64 s (show n ≤ 2 ^ b64.p from hn)
    rw [fits64] at hf
    have hq : -52 ≤ q := by
      refine Int.not_lt.mp fun hlt => ?_
      have e1 : (q - 0).toNat = 0 := by omega
      have e2 : (0 - q).toNat = 53 + ((0 - q).toNat - 53) := by omega
      rw [e1, e2, Nat.pow_add] at hv
      have p := Nat.two_pow_pos ((0 - q).toNat - 53)
      have : 2 ^ 53 * 1 ≤ 2 ^ 53 * 2 ^ ((0 - q).toNat - 53) := Nat.mul_le_mul_left _ p
      have : 1 * (2 ^ 53 * 2 ^ ((0 - q).toNat - 53)) ≤ n * (2 ^ 53 * 2 ^ ((0 - q).toNat - 53)) := Nat.mul_le_mul_right _ (by omega)
      omega
    refine ⟨c, q - k, (fits64 _ _ _).mpr ⟨hf.1, by omega, by omega, Or.inr (hf.2.2.2.resolve_left (by omega))⟩, ?_⟩
    rw [show -(k : Int) - (q - k) = 0 - q by omega, show q - k - -(k : Int) = q - 0 by omega]
    exact hv
theorem whole_signed {i : Int} {s : Bool} {c : Nat} {q : Int} (h : Whole i (.fin s c q)) : signed s i.natAbs = i := by
  by_cases hi : i = 0
  · rw [hi]; exact signed_zero s
  · rw [whole_sign h hi]; unfold signed
    by_cases h : i < 0 <;> simp [h] <;> omega
theorem ds_round {k : Nat} {i : Int} {d : Datum} (hk : k ≤ 1022) (hi : i.natAbs ≤ 2 ^ 53) (h : Whole i (sft k d)) : Whole i (sft k (Core.round b64 d)) := by
  cases d with
  | nan => exact h.elim
  | inf s => exact h.elim
  | fin s c q =>
    have hs := whole_signed h
    have h1 := whole_natAbs h
    obtain ⟨c', q', hfit, hv⟩ := natFitS s hk hi
    have e1 : Core.round b64 (.fin s c q) = roundRatio b64 s i.natAbs 1 (-(k : Int)) := by
      refine roundRatio_congr (by decide) (by decide) ?_
      rw [show q - -(k : Int) = q + k by omega, show -(k : Int) - q = -(q + k) by omega]
      simpa using h1
    rw [e1, roundRatio_exact good_b64 (by decide) hfit hv]
    show signed s (c' * 2 ^ (q' + (k : Int)).toNat) = i * _
    rw [show -(k : Int) - q' = -(q' + k) by omega, show q' - -(k : Int) = q' + k by omega, Nat.mul_one] at hv
    rw [← hv, signed_mul, hs]
theorem DS.nn {k : Nat} {i : Int} {x : UInt64} (h : DS k i x) : NoNaN64 x := val64_no.mpr fun q => by
  unfold DS at h; rw [q] at h; exact h.elim
theorem DS.fin {k : Nat} {i : Int} {x : UInt64} (h : DS k i x) : ∃ s c q, val64 x = .fin s c q ∧ Whole i (.fin s c (q + (k : Int))) := by
  unfold DS at h
  cases e : val64 x with
  | nan => rw [e] at h; exact h.elim
  | inf s => rw [e] at h; exact h.elim
  | fin s c q => rw [e] at h; exact ⟨s, c, q, rfl, h⟩
theorem DS.lit {k : Nat} {i : Int} {x : UInt64} {s : Bool} {c : Nat} {q : Int} (hv : val64 x = .fin s c q) (he : signed s (c * 2 ^ (q + (k : Int)).toNat) = i * ((2 ^ (-(q + (k : Int))).toNat : Nat) : Int)) : DS k i x := by
  unfold DS; rw [hv]; exact he
theorem DS.i2d (v : Int32) : DS 0 v.toInt (FP.i2d v) := by unfold DS; rw [sft_zero]; exact i2d_int v
theorem DS.l2d {v : Int64} (h : v.toInt.natAbs ≤ 2 ^ 53) : DS 0 v.toInt (FP.l2d v) := by unfold DS; rw [sft_zero]; exact l2d_int h
theorem DS.dint {i : Int} {x : UInt64} (h : DS 0 i x) : DInt i x := by unfold DS at h; rw [sft_zero] at h; exact h
theorem DS.zero (k : Nat) : DS k 0 0 := DS.lit (s := false) (c := 0) (q := -1074) (by decide +kernel) (by rw [Nat.zero_mul, Int.zero_mul]; rfl)
theorem DS.add {k : Nat} {i j : Int} {x y : UInt64} (hx : DS k i x) (hy : DS k j y) (hb : (i + j).natAbs ≤ 2 ^ 53) (hk : k ≤ 1022) : DS k (i + j) (FP.dadd x y) := by
  show Whole _ (sft k (val64 (Core.dadd x y)))
  rw [val64_dadd]; refine ds_round hk hb ?_; rw [← sft_sum]; exact whole_sum hx hy
theorem DS.sub {k : Nat} {i j : Int} {x y : UInt64} (hx : DS k i x) (hy : DS k j y) (hb : (i - j).natAbs ≤ 2 ^ 53) (hk : k ≤ 1022) : DS k (i - j) (FP.dsub x y) := by
  show Whole _ (sft k (val64 (Core.dsub x y)))
  rw [val64_dsub]; refine ds_round hk hb ?_; rw [← sft_sum, ← sft_negate, Int.sub_eq_add_neg]; exact whole_sum hx (whole_negate hy)
theorem DS.mul {k m : Nat} {i j : Int} {x y : UInt64} (hx : DS k i x) (hy : DS m j y) (hb : (i * j).natAbs ≤ 2 ^ 53) (hk : k + m ≤ 1022) : DS (k + m) (i * j) (FP.dmul x y) := by
  show Whole _ (sft (k + m) (val64 (Core.dmul x y)))
  rw [val64_dmul]; refine ds_round hk hb ?_; rw [← sft_product]; exact whole_product hx hy
theorem DS.addc {k : Nat} {i j Q : Int} {x y : UInt64} (hx : DS k i x) (hy : DS k j y) (e : i + j = Q) (hb : Q.natAbs ≤ 2 ^ 53) (hk : k ≤ 1022) : DS k Q (FP.dadd x y) := by subst e; exact DS.add hx hy hb hk
theorem DS.subc {k : Nat} {i j Q : Int} {x y : UInt64} (hx : DS k i x) (hy : DS k j y) (e : i - j = Q) (hb : Q.natAbs ≤ 2 ^ 53) (hk : k ≤ 1022) : DS k Q (FP.dsub x y) := by subst e; exact DS.sub hx hy hb hk
theorem DS.cmp {k : Nat} {i j : Int} {x y : UInt64} (hx : DS k i x) (hy : DS k j y) : FP.dcmp x y = some (compare i j) := by
  show order (val64 x) (val64 y) = _
  rw [← sft_order k]; exact order_whole hx hy
/-- what dcmp pushes -/
def c3 (i j : Int) : Int32 := if i < j then -1 else if i = j then 0 else 1
theorem c3_lt (i j : Int) : c3 i j < 0 ↔ i < j := by unfold c3; split <;> (try split) <;> simp_all <;> first | decide | omega
theorem c3_gt (i j : Int) : 0 < c3 i j ↔ j < i := by unfold c3; split <;> (try split) <;> simp_all <;> first | decide | omega
theorem c3_eq (i j : Int) : c3 i j = 0 ↔ i = j := by unfold c3; split <;> (try split) <;> simp_all <;> first | decide | omega
theorem cmpV_int (i j : Int) (o : CmpOp) : cmpValue (some (compare i j)) o = c3 i j := by
  unfold c3
  by_cases h1 : i < j
  · have : compare i j = .lt := by simp [compare, compareOfLessAndEq, h1]
    rw [this, if_pos h1]; cases o <;> rfl
  · by_cases h2 : i = j
    · have : compare i j = .eq := by simp [compare, compareOfLessAndEq, h2]
      rw [this, if_neg h1, if_pos h2]; cases o <;> rfl
    · have : compare i j = .gt := by simp [compare, compareOfLessAndEq, h1, h2]
      rw [this, if_neg h1, if_neg h2]; cases o <;> rfl
theorem DS.cmpV {k : Nat} {i j : Int} {x y : UInt64} (hx : DS k i x) (hy : DS k j y) (o : CmpOp) : cmpValue (FP.dcmp x y) o = c3 i j := by rw [hx.cmp hy]; exact cmpV_int i j o
theorem whole_iff {i : Int} {s : Bool} {c : Nat} {q : Int} {N : Nat} (h : 0 ≤ q + N) : Whole i (.fin s c q) ↔ signed s c * ((2 ^ (q + N).toNat : Nat) : Int) = i * ((2 ^ N : Nat) : Int) := by
  show signed s (c * 2 ^ q.toNat) = i * ((2 ^ (-q).toNat : Nat) : Int) ↔ _
  rw [signed_mul]
  have e : q.toNat + N = (q + N).toNat + (-q).toNat := by omega
  have p1 : ((2 ^ N : Nat) : Int) ≠ 0 := by have := Nat.two_pow_pos N; omega
  have p2 : ((2 ^ (-q).toNat : Nat) : Int) ≠ 0 := by have := Nat.two_pow_pos (-q).toNat; omega
  have e1 : signed s c * ((2 ^ q.toNat : Nat) : Int) * ((2 ^ N : Nat) : Int) = signed s c * ((2 ^ (q + N).toNat : Nat) : Int) * ((2 ^ (-q).toNat : Nat) : Int) := by
    rw [Int.mul_assoc, Int.mul_assoc, ← Int.natCast_mul, ← Int.natCast_mul, ← Nat.pow_add, ← Nat.pow_add, e]
  constructor
  · intro hh
    refine Int.eq_of_mul_eq_mul_right p2 ?_
    rw [← e1, hh]; ac_rfl
  · intro hh
    refine Int.eq_of_mul_eq_mul_right p1 ?_
    rw [e1, hh]; ac_rfl
theorem DS.up {k : Nat} {i : Int} {x : UInt64} (h : DS k i x) (m : Nat) : DS (k + m) (i * ((2 ^ m : Nat) : Int)) x := by
  obtain ⟨s, c, q, e, hw⟩ := h.fin
  unfold DS; rw [e]
  show Whole _ (.fin s c (q + ((k + m : Nat) : Int)))
  rw [whole_iff (N := (-q).toNat) (by omega)]
  rw [whole_iff (N := (-q).toNat + m) (by omega)] at hw
  rw [show q + (k : Int) + (((-q).toNat + m : Nat) : Int) = q + ((k + m : Nat) : Int) + ((-q).toNat : Nat) by omega] at hw
  rw [hw, Nat.pow_add, Int.natCast_mul]; ac_rfl
theorem DS.cast {k k' : Nat} {i i' : Int} {x : UInt64} (h : DS k i x) (e1 : k = k') (e2 : i = i') : DS k' i' x := e1 ▸ e2 ▸ h
/-- the quotient, as the rounding of a ratio of whole numbers -/
theorem ds_quot {k m : Nat} {i j : Int} {x y : UInt64} (hx : DS k i x) (hy : DS m j y) (hj : j ≠ 0) :
    ∃ s t, signed s i.natAbs = i ∧ signed t j.natAbs = j ∧ val64 (FP.ddiv x y) = roundRatio b64 (s != t) i.natAbs j.natAbs ((m : Int) - k) := by
  obtain ⟨s, c, q, e, hw⟩ := hx.fin
  obtain ⟨t, d, r, e', hw'⟩ := hy.fin
  have hd : d ≠ 0 := fun z => hj ((whole_zero hw').mp z)
  have h1 := whole_natAbs hw
  have h2 := whole_natAbs hw'
  refine ⟨s, t, whole_signed hw, whole_signed hw', ?_⟩
  show val64 (Core.ddiv x y) = _
  rw [val64_ddiv, e, e']
  show (if d = 0 then _ else roundRatio b64 (s != t) c d (q - r)) = _
  rw [if_neg hd]
  have hj' : 0 < j.natAbs := by omega
  rw [roundRatio_congr (A' := i.natAbs) (B' := d) (e' := -(k : Int) - r) (by omega) (by omega) (by
    rw [show q - r - (-(k : Int) - r) = q + k by omega, show -(k : Int) - r - (q - r) = -(q + k) by omega, Nat.mul_right_comm, h1]; ac_rfl)]
  refine roundRatio_congr (by omega) hj' ?_
  rw [show -(k : Int) - r - ((m : Int) - k) = -(r + m) by omega, show (m : Int) - k - (-(k : Int) - r) = r + m by omega, Nat.mul_assoc, ← h2]; ac_rfl
theorem DS.div {k m n : Nat} {i j Q : Int} {x y : UInt64} (hx : DS k i x) (hy : DS m j y) (hj : j ≠ 0) (hQ : i * ((2 ^ (m + n) : Nat) : Int) = Q * j * ((2 ^ k : Nat) : Int)) (hb : Q.natAbs ≤ 2 ^ 53) (hn : n ≤ 1022) : DS n Q (FP.ddiv x y) := by
  obtain ⟨s, t, hs, ht, hv⟩ := ds_quot hx hy hj
  obtain ⟨c', q', hfit, hf⟩ := natFitS (s != t) hn hb
  have hj' : 0 < j.natAbs := by omega
  have hQn : i.natAbs * 2 ^ (m + n) = Q.natAbs * j.natAbs * 2 ^ k := by
    have := congrArg Int.natAbs hQ
    rwa [Int.natAbs_mul, Int.natAbs_mul, Int.natAbs_mul, Int.natAbs_natCast, Int.natAbs_natCast] at this
  have e1 : roundRatio b64 (s != t) i.natAbs j.natAbs ((m : Int) - k) = roundRatio b64 (s != t) Q.natAbs 1 (-(n : Int)) := by
    refine roundRatio_congr hj' (by decide) ?_
    rw [Nat.mul_one]
    have ea : m + n = ((m : Int) - k - -(n : Int)).toNat + min (m + n) k := by omega
    have eb : k = (-(n : Int) - ((m : Int) - k)).toNat + min (m + n) k := by omega
    generalize ((m : Int) - k - -(n : Int)).toNat = u at ea ⊢
    generalize (-(n : Int) - ((m : Int) - k)).toNat = w at eb ⊢
    have hQ2 : i.natAbs * 2 ^ (u + min (m + n) k) = Q.natAbs * j.natAbs * 2 ^ (w + min (m + n) k) := by rw [← ea, ← eb]; exact hQn
    rw [Nat.pow_add, Nat.pow_add, ← Nat.mul_assoc, ← Nat.mul_assoc] at hQ2
    exact Nat.eq_of_mul_eq_mul_right (Nat.two_pow_pos _) hQ2
  rw [e1, roundRatio_exact good_b64 (by decide) hfit hf] at hv
  unfold DS; rw [hv]
  show signed (s != t) (c' * 2 ^ (q' + (n : Int)).toNat) = Q * _
  rw [show -(n : Int) - q' = -(q' + n) by omega, show q' - -(n : Int) = q' + n by omega, Nat.mul_one] at hf
  rw [← hf, signed_mul]
  congr 1
  have hp : (0 : Int) < ((2 ^ (m + n) : Nat) : Int) := by have := Nat.two_pow_pos (m + n); omega
  have hp2 : (0 : Int) < ((2 ^ k : Nat) : Int) := by have := Nat.two_pow_pos k; omega
  generalize ((2 ^ (m + n) : Nat) : Int) = P1 at hQ hp
  generalize ((2 ^ k : Nat) : Int) = P2 at hQ hp2
  -- the sign of the quotient
  have key : signed (s != t) (Q.natAbs * (j.natAbs * j.natAbs)) = Q * (j.natAbs * j.natAbs : Nat) := by
    have e2 : signed (s != t) (i.natAbs * j.natAbs) = i * j := by rw [signed_xor, hs, ht]
    have e3 : i.natAbs * P1.natAbs = Q.natAbs * j.natAbs * P2.natAbs := by
      have := congrArg Int.natAbs hQ
      rwa [Int.natAbs_mul, Int.natAbs_mul, Int.natAbs_mul] at this
    have e4 : signed (s != t) (Q.natAbs * (j.natAbs * j.natAbs)) * P2 = Q * (j.natAbs * j.natAbs : Nat) * P2 := by
      have p2 : P2 = (P2.natAbs : Int) := by omega
      have p1 : P1 = (P1.natAbs : Int) := by omega
      calc signed (s != t) (Q.natAbs * (j.natAbs * j.natAbs)) * P2
          = signed (s != t) (Q.natAbs * (j.natAbs * j.natAbs) * P2.natAbs) := by rw [signed_mul _ (Q.natAbs * (j.natAbs * j.natAbs)), ← p2]
        _ = signed (s != t) (i.natAbs * j.natAbs * P1.natAbs) := by
            congr 1
            calc Q.natAbs * (j.natAbs * j.natAbs) * P2.natAbs = (Q.natAbs * j.natAbs * P2.natAbs) * j.natAbs := by ac_rfl
              _ = i.natAbs * j.natAbs * P1.natAbs := by rw [← e3]; ac_rfl
        _ = i * j * P1 := by rw [signed_mul, e2, ← p1]
        _ = (i * P1) * j := by ac_rfl
        _ = Q * (j * j) * P2 := by rw [hQ]; ac_rfl
        _ = Q * (j.natAbs * j.natAbs : Nat) * P2 := by rw [Int.natCast_mul, Int.natAbs_mul_self' j]
    exact Int.eq_of_mul_eq_mul_right (by omega) e4
  rw [signed_mul] at key
  exact Int.eq_of_mul_eq_mul_right (by have : 0 < j.natAbs * j.natAbs := Nat.mul_pos hj' hj'; omega) key
/-- by a power of two -/
theorem DS.divp {k t : Nat} {i : Int} {x y : UInt64} (hx : DS k i x) (hy : DS 0 ((2 ^ t : Nat) : Int) y) (hb : i.natAbs ≤ 2 ^ 53) (hn : k + t ≤ 1022) : DS (k + t) i (FP.ddiv x y) :=
  DS.div hx hy (by have := Nat.two_pow_pos t; omega) (by rw [Nat.zero_add, Nat.pow_add, Int.natCast_mul]; ac_rfl) hb hn
theorem sft_rem (k : Nat) (x y : Datum) : exactRemainder (sft k x) (sft k y) = sft k (exactRemainder x y) := by
  cases x with
  | nan => rfl
  | inf s => rfl
  | fin s c q =>
    cases y with
    | nan => rfl
    | inf t => rfl
    | fin t d r =>
      have h : min (q + (k : Int)) (r + k) = min q r + k := by omega
      have h1 : q + (k : Int) - (min q r + k) = q - min q r := by omega
      have h2 : r + (k : Int) - (min q r + k) = r - min q r := by omega
      show (if d = 0 then Datum.nan else .fin s (c * 2 ^ (q + (k : Int) - min (q + k) (r + k)).toNat % (d * 2 ^ (r + (k : Int) - min (q + k) (r + k)).toNat)) (min (q + k) (r + k))) = sft k (if d = 0 then Datum.nan else .fin s (c * 2 ^ (q - min q r).toNat % (d * 2 ^ (r - min q r).toNat)) (min q r))
      rw [h, h1, h2]; split <;> rfl
theorem signed_tmod {s : Bool} {i : Int} (hs : signed s i.natAbs = i) (j : Int) : signed s (i.natAbs % j.natAbs) = i.tmod j := by
  cases i with
  | ofNat a =>
    have e : Int.tmod (Int.ofNat a) j = ((a % j.natAbs : Nat) : Int) := by cases j <;> rfl
    rw [e]; show signed s (a % j.natAbs) = _
    have hs' : signed s a = (a : Int) := hs
    cases s with
    | false => rfl
    | true =>
      have h0 : a = 0 := by
        have : -(a : Int) = (a : Int) := hs'
        omega
      subst h0; rw [Nat.zero_mod]; rfl
  | negSucc a =>
    have e : Int.tmod (Int.negSucc a) j = -(((a + 1) % j.natAbs : Nat) : Int) := by cases j <;> rfl
    rw [e]; show signed s ((a + 1) % j.natAbs) = _
    cases s with
    | true => rfl
    | false =>
      have : ((a + 1 : Nat) : Int) = Int.negSucc a := hs
      omega
theorem whole_rem {i j : Int} {x y : Datum} (hx : Whole i x) (hy : Whole j y) (hj : j ≠ 0) : Whole (i.tmod j) (exactRemainder x y) := by
  cases x with
  | nan => exact hx.elim
  | inf => exact hx.elim
  | fin s c q =>
  cases y with
  | nan => exact hy.elim
  | inf => exact hy.elim
  | fin t d r =>
    have hd : d ≠ 0 := fun z => hj ((whole_zero hy).mp z)
    have h1 := congrArg Int.natAbs (whole_units hx (e := min q r) (by omega))
    have h2 := congrArg Int.natAbs (whole_units hy (e := min q r) (by omega))
    rw [Int.natAbs_mul, Int.natAbs_mul, Int.natAbs_natCast, Int.natAbs_natCast, natAbs_signed] at h1 h2
    show Whole _ (if d = 0 then _ else Datum.fin s (inUnits c q (min q r) % inUnits d r (min q r)) (min q r))
    rw [if_neg hd]
    show signed s (inUnits c q (min q r) % inUnits d r (min q r) * 2 ^ (min q r).toNat) = i.tmod j * ((2 ^ (-(min q r)).toNat : Nat) : Int)
    rw [← Nat.mul_mod_mul_right, h1, h2, Nat.mul_mod_mul_right, signed_mul, signed_tmod (whole_signed hx)]
theorem DS.rem {k : Nat} {i j : Int} {x y : UInt64} (hx : DS k i x) (hy : DS k j y) (hj : j ≠ 0) (hb : (i.tmod j).natAbs ≤ 2 ^ 53) (hk : k ≤ 1022) : DS k (i.tmod j) (FP.drem x y) := by
  show Whole _ (sft k (val64 (Core.drem x y)))
  rw [val64_drem]; refine ds_round hk hb ?_; rw [← sft_rem]; exact whole_rem hx hy hj
end Dyad
set_option maxRecDepth 65536
set_option maxHeartbeats 40000000
abbrev on0 : MethodName := (⟨"com/example/nudo/nudo/core/metrics/VehicleStatistics", "getMeanSpeed", "()D"⟩ : MethodName)
abbrev on1 : MethodName := (⟨"java/util/HashMap", "replaceAll", "(Ljava/util/function/BiFunction;)V"⟩ : MethodName)
abbrev on2 : MethodName := (⟨"java/util/HashMap", "computeIfPresent", "(Ljava/lang/Object;Ljava/util/function/BiFunction;)Ljava/lang/Object;"⟩ : MethodName)
abbrev orm3 : Room := ({ frames := 0, cells := 0, slots := 0, locals := 0 } : Room)
abbrev orm4 : Room := ({ frames := 1, cells := 0, slots := 0, locals := 12 } : Room)
abbrev orm5 : Room := ({ frames := 1, cells := 0, slots := 0, locals := 22 } : Room)
abbrev orm6 : Room := ({ frames := 2, cells := 0, slots := 0, locals := 27 } : Room)
abbrev orm7 : Room := ({ frames := 2, cells := 2, slots := 5, locals := 30 } : Room)
abbrev orm8 : Room := ({ frames := 3, cells := 2, slots := 16, locals := 42 } : Room)
abbrev orm9 : Room := ({ frames := 2, cells := 1, slots := 1, locals := 3080 } : Room)
abbrev orm10 : Room := ({ frames := 0, cells := 1, slots := 1, locals := 0 } : Room)
abbrev orm11 : Room := ({ frames := 1, cells := 0, slots := 0, locals := 3080 } : Room)
theorem tw {L : List Jvm.Cond} {P : Jvm.Cond → Prop} (hw : ∀ d ∈ L, P d) (i : Nat) {d : Jvm.Cond} (e : L[i]? = some d) : P d := hw _ (List.mem_of_getElem? e)
abbrev vi (x : Int32) : Slot := .val (.int x)
abbrev vr (x : Addr) : Slot := .val (.ref x)
abbrev own_Met (l : Launch) (y : MethodName) (C : List Jvm.Cond) (rm : Room) (as' : Array Value) (Z : State) (h0 : Heap) (Q : Option Value → Heap → List Loc → Prop) : Prop := MetFree l y (head1 C rm) (fun aa UU => aa = as' ∧ Z.Warmed39 UU.vm ∧ UU.heap = h0) (fun _ _ _ _ _ => True) (fun _ UU oo UU' => ∃ vv LL, oo = .returned vv ∧ Q vv UU'.heap LL ∧ FrameEnd UU oo UU' LL rm.cells rm.slots)
section OwnC
variable {p : Program} {l : Launch} {e : Env} {R : Room} {s : State} {m : MethodId} {args : Array Value} {below : List Frame} {meth : Method} {c : Code} {T : State} {locs : List Loc} {cells slots : Nat} {Z : State} {a0 : Array Value} {h : Heap}
/-- a static call by a contract, the callee's end opened -/
theorem own_cs (X : Stand p l e R s m args below meth c T locs cells slots) (hx : p.tables.exec = Jvm.exec) (hZ : Z.Warmed39 s.vm) {own : String} (hown : s.vm.findClass own = some m.cls) {index : Nat} {y : MethodName} {bytes : ByteArray} {maxL : Nat} {ret : Option FieldType} {rm : Room} {as' : Array Value} {Q : Option Value → Heap → List Loc → Prop}
    (hM : own_Met l y [Cond.code y bytes maxL ret] rm as' Z h Q) (w1 : (Cond.methodLink own index y).before a0 Z = true) (w2 : (Cond.static y).before a0 Z = true) (w3 : (Cond.initialized y.cls).before a0 Z = true) (w4 : (Cond.code y bytes maxL ret).before a0 Z = true)
    (eT : T.heap = h) {g : JFrame} (hd : decode c.code g.pc = .ok (.invokestatic index, 3)) {W : Nat} {argsL rest : List Value} (hlen : ∀ sig, parseMethodDescriptor y.desc = some sig → argsL.length = sig.parameters.length) (hg : g.method = m) (hsize : g.locals.size = c.maxLocals) (hstack : g.stack = argsL.reverse ++ rest) (ha : argsL.toArray = as')
    (hW : 2 * g.monitorRoom + (rest.map fun v => v.category).sum ≤ W) (hy : y.cls ≠ "java/lang/invoke/MethodHandle" ∧ y.cls ≠ "java/lang/invoke/VarHandle") (hf : rm.frames + 1 ≤ R.frames) (hl : W + (maxL + 11) + rm.locals ≤ R.locals) (hc : cells + rm.cells ≤ R.cells) (hs : slots + rm.slots ≤ R.slots) :
    ∃ (v : Option Value) (T' : State) (L : List Loc), Stand p l e R s m args below meth c T' (locs ++ L) (cells + rm.cells) (slots + rm.slots) ∧ Q v T'.heap L ∧ ∀ target, Steps p.tables e below (T'.setTop { g with pc := g.pc + 3, stack := v.toList ++ rest }) target → Steps p.tables e below (T.setTop g) target := by
  obtain ⟨v, _, ⟨T', L', k', n'⟩, -, X', ⟨L, hQ, h1, h2, h3⟩, st⟩ := Jvm.LawKit.callS X hx (y := y) hown (mvT hZ w1) (mvT hZ w2) (mvT hZ w3) (mvT hZ w4) hy (backOf (W := W) hM hZ w4 w3 hf hl) (g := g) hg hsize (argsL := argsL) (rest := rest) hlen hstack hW hd (fun _ _ => ⟨ha, eT, hc, hs⟩)
  dsimp only [Pt.U, Pt.locs, Pt.cells, Pt.slots] at X' h1 h2 h3 st hQ
  subst h1 h2 h3
  exact ⟨v, T', L, X', hQ, st⟩
/-- a constructor's call -/
theorem own_ci (X : Stand p l e R s m args below meth c T locs cells slots) (hx : p.tables.exec = Jvm.exec) (hZ : Z.Warmed39 s.vm) {own : String} (hown : s.vm.findClass own = some m.cls) {index : Nat} {y : MethodName} {bytes : ByteArray} {maxL : Nat} {rm : Room} {as' : Array Value} {Q : Option Value → Heap → List Loc → Prop}
    (hM : own_Met l y [Cond.code y bytes maxL none] rm as' Z h Q) (w1 : (Cond.methodLink own index y).before a0 Z = true) (w2 : (Cond.instanceMethod y).before a0 Z = true) (w3 : (Cond.initialized y.cls).before a0 Z = true) (w4 : (Cond.code y bytes maxL none).before a0 Z = true)
    (eT : T.heap = h) {g : JFrame} (hd : decode c.code g.pc = .ok (.invokespecial index, 3)) {W : Nat} {a : Addr} {argsL rest : List Value} (hlen : ∀ sig, parseMethodDescriptor y.desc = some sig → argsL.length = sig.parameters.length) (hg : g.method = m) (hsize : g.locals.size = c.maxLocals) (hstack : g.stack = argsL.reverse ++ .ref a :: rest) (ha : (.ref a :: argsL).toArray = as')
    (hW : 2 * g.monitorRoom + (rest.map fun v => v.category).sum ≤ W) (hn : y.name = "<init>") (hy : y.cls ≠ "java/lang/invoke/MethodHandle" ∧ y.cls ≠ "java/lang/invoke/VarHandle") (hf : rm.frames + 1 ≤ R.frames) (hl : W + (maxL + 11) + rm.locals ≤ R.locals) (hc : cells + rm.cells ≤ R.cells) (hs : slots + rm.slots ≤ R.slots) :
    ∃ (v : Option Value) (T' : State) (L : List Loc), Stand p l e R s m args below meth c T' (locs ++ L) (cells + rm.cells) (slots + rm.slots) ∧ Q v T'.heap L ∧ Steps p.tables e below (T.setTop g) (T'.setTop { g with pc := g.pc + 3, stack := v.toList ++ rest }) := by
  obtain ⟨v, _, ⟨T', L', k', n'⟩, -, X', ⟨L, hQ, h1, h2, h3⟩, st⟩ := X.specialBack hx (y := y) hn hown (mvT hZ w1) (mvT hZ w2) (mvT hZ w4) hy (backOf (W := W) hM hZ w4 w3 hf hl) (g := g) hg hsize (Steps.refl _) (a := a) (argsL := argsL) (rest := rest) hlen hstack hW hd (fun _ _ => ⟨ha, eT, hc, hs⟩)
  dsimp only [Pt.U, Pt.locs, Pt.cells, Pt.slots] at X' h1 h2 h3 st hQ
  subst h1 h2 h3
  exact ⟨v, T', L, X', hQ, st⟩
/-- a virtual call on an object whose class is known -/
theorem own_cv (X : Stand p l e R s m args below meth c T locs cells slots) (hx : p.tables.exec = Jvm.exec) (hZ : Z.Warmed39 s.vm) {own C : String} (hown : s.vm.findClass own = some m.cls) {index : Nat} {y : MethodName} {bytes : ByteArray} {maxL : Nat} {ret : Option FieldType} {rm : Room} {as' : Array Value} {Q : Option Value → Heap → List Loc → Prop}
    (hM : own_Met l y [Cond.code y bytes maxL ret] rm as' Z h Q) (w1 : (Cond.methodLink own index y).before a0 Z = true) (w2 : (Cond.declares y).before a0 Z = true) (w5 : (Cond.selects C y y).before a0 Z = true) (w6 : (Cond.instanceMethod y).before a0 Z = true) (w3 : (Cond.initialized y.cls).before a0 Z = true) (w4 : (Cond.code y bytes maxL ret).before a0 Z = true)
    (eT : T.heap = h) {b : Addr} (Eb : Exa Z h b C) {g : JFrame} (hd : decode c.code g.pc = .ok (.invokevirtual index, 3)) {W : Nat} {argsL rest : List Value} (hlen : ∀ sig, parseMethodDescriptor y.desc = some sig → argsL.length = sig.parameters.length) (hg : g.method = m) (hsize : g.locals.size = c.maxLocals) (hstack : g.stack = argsL.reverse ++ .ref b :: rest) (ha : (.ref b :: argsL).toArray = as')
    (hW : 2 * g.monitorRoom + (rest.map fun v => v.category).sum ≤ W) (hy : y.cls ≠ "java/lang/invoke/MethodHandle" ∧ y.cls ≠ "java/lang/invoke/VarHandle") (hf : rm.frames + 1 ≤ R.frames) (hl : W + (maxL + 11) + rm.locals ≤ R.locals) (hc : cells + rm.cells ≤ R.cells) (hs : slots + rm.slots ≤ R.slots) :
    ∃ (v : Option Value) (T' : State) (L : List Loc), Stand p l e R s m args below meth c T' (locs ++ L) (cells + rm.cells) (slots + rm.slots) ∧ Q v T'.heap L ∧ Steps p.tables e below (T.setTop g) (T'.setTop { g with pc := g.pc + 3, stack := v.toList ++ rest }) := by
  obtain ⟨cq, kq, qa, qb, qc⟩ := isOf hZ eT Eb
  obtain ⟨v, _, ⟨T', L', k', n'⟩, -, X', ⟨L, hQ, h1, h2, h3⟩, st⟩ := X.virtualBack hx (y := y) (z := y) hown (mvT hZ w1) (mvT hZ w2) (notFace_of_selects (args := #[]) (mvT hZ w5)) (mvT hZ w5) (mvT hZ w6) hy (backOf (W := W) hM hZ w4 w3 hf hl) qa qc (g := g) hg hsize (Steps.refl _) (argsL := argsL) (rest := rest) hlen hstack hW hd (fun _ _ => ⟨ha, eT, hc, hs⟩)
  dsimp only [Pt.U, Pt.locs, Pt.cells, Pt.slots] at X' h1 h2 h3 st hQ
  subst h1 h2 h3
  exact ⟨v, T', L, X', hQ, st⟩
/-- what a body's head says -/
theorem own_bg {y : MethodName} {S : Spec} {code : ByteArray} {ml : Nat} {ret : Option FieldType} {s₁ : State} (Bd : BodyLoose p l y S code ml ret e s m args below meth c s₁) (hh : s.heap = h) :
    p.tables.exec = Jvm.exec ∧ c.code = code ∧ meth.locks = false ∧ meth.sig.returnType = ret ∧ s.vm.findClass y.cls = some m.cls ∧ Stand p l e S.room s m args below meth c s₁ [] 0 0 ∧ s₁.heap = h :=
  ⟨Bd.exec, Bd.bytes, BodyLoose.notSynchronized Bd, Bd.returns, findClass_of_methodNamed Bd.named, Stand.of_body Bd, by rw [← hh, Bd.state]; rfl⟩
end OwnC

section Between
open Jvm.FP Jvm.FP.Core Jvm.Free.Fl
/-- the value in units of 2^-1074 -/
def zv (x : UInt64) : Int := zval b64 (val64 x)
def UU (k : Nat) : Int := ((2 ^ (1074 - k) : Nat) : Int)
theorem UU_pos (k : Nat) : 0 < UU k := by unfold UU; have := Nat.two_pow_pos (1074 - k); omega
/-- x is a number from lo / 2^k to hi / 2^k -/
def DI (k : Nat) (lo hi : Int) (x : UInt64) : Prop := DFin x ∧ lo * UU k ≤ zv x ∧ zv x ≤ hi * UU k
theorem whole_zvk {i : Int} {s : Bool} {c : Nat} {q : Int} {k : Nat} (hq : -1074 ≤ q) (hk : k ≤ 1074) (h : Whole i (.fin s c (q + (k : Int)))) : zval b64 (.fin s c q) = i * UU k := by
  rw [whole_iff (N := 1074 - k) (by omega)] at h
  unfold UU; rw [← h]
  show signed s (c * 2 ^ (q - b64.qmin).toNat) = _
  rw [b64_qmin, signed_mul, show q - -1074 = q + (k : Int) + ((1074 - k : Nat) : Int) by omega]
theorem DS.zeq {k : Nat} {i : Int} {x : UInt64} (h : DS k i x) (hk : k ≤ 1074) : zv x = i * UU k := by
  obtain ⟨s, c, q, e, hw⟩ := h.fin
  have hf := val64_fits x
  unfold zv; rw [e] at hf ⊢
  exact whole_zvk ((fits64 s c q).mp hf).2.1 hk hw
theorem DS.dfin {k : Nat} {i : Int} {x : UInt64} (h : DS k i x) : DFin x := by
  obtain ⟨s, c, q, e, -⟩ := h.fin; exact ⟨s, c, q, e⟩
theorem DS.di {k : Nat} {i : Int} {x : UInt64} (h : DS k i x) (hk : k ≤ 1074) : DI k i i x := ⟨h.dfin, Int.le_of_eq (h.zeq hk).symm, Int.le_of_eq (h.zeq hk)⟩
theorem DI.mono {k : Nat} {a b a' b' : Int} {x : UInt64} (h : DI k a b x) (h1 : a' ≤ a) (h2 : b ≤ b') : DI k a' b' x :=
  ⟨h.1, Int.le_trans (Int.mul_le_mul_of_nonneg_right h1 (Int.le_of_lt (UU_pos k))) h.2.1, Int.le_trans h.2.2 (Int.mul_le_mul_of_nonneg_right h2 (Int.le_of_lt (UU_pos k)))⟩
theorem DI.nn {k : Nat} {a b : Int} {x : UInt64} (h : DI k a b x) : NoNaN64 x := val64_no.mpr fun q => by
  obtain ⟨s, c, e, w⟩ := h.1; rw [w] at q; cases q
/-- i / 2^k is a double -/
def Rep (k : Nat) (i : Int) : Prop := ∃ s c q, Core.fits b64 (.fin s c q) ∧ zval b64 (.fin s c q) = i * UU k
theorem rep_of {k : Nat} {i : Int} (hk : k ≤ 1022) (hi : i.natAbs ≤ 2 ^ 53) : Rep k i := by
  obtain ⟨c, q, hf, hv⟩ := natFitS (decide (i < 0)) hk hi
  refine ⟨_, c, q, hf, whole_zvk ((fits64 _ c q).mp hf).2.1 (by omega) ?_⟩
  rw [show -(k : Int) - q = -(q + k) by omega, show q - -(k : Int) = q + k by omega, Nat.mul_one] at hv
  show signed (decide (i < 0)) (c * 2 ^ (q + (k : Int)).toNat) = i * _
  rw [← hv, signed_mul]; congr 1
  unfold signed
  by_cases h : i < 0 <;> simp [h] <;> omega
theorem rep_two {k : Nat} {i : Int} (h : Rep k i) (hs : i.natAbs ≤ 2 ^ 60) : Rep k (2 * i) := by
  obtain ⟨s, c, q, hf, hz⟩ := h
  have hU := UU_pos k
  rw [fits64] at hf
  by_cases h0 : c < 4503599627370496
  · have hq : q = -1074 := hf.2.2.2.resolve_right (by omega)
    refine ⟨s, 2 * c, q, (fits64 _ _ _).mpr ⟨by omega, by omega, by omega, Or.inl hq⟩, ?_⟩
    show signed s (2 * c * 2 ^ (q - b64.qmin).toNat) = _
    have hz' : signed s (c * 2 ^ (q - b64.qmin).toNat) = i * UU k := hz
    rw [show 2 * c * 2 ^ (q - b64.qmin).toNat = c * 2 ^ (q - b64.qmin).toNat * 2 by ac_rfl, signed_mul, hz']
    show i * UU k * 2 = 2 * i * UU k
    ac_rfl
  · have hz' : signed s (c * 2 ^ (q - b64.qmin).toNat) = i * UU k := hz
    have hq : q < 971 := by
      refine Int.not_le.mp fun hle => ?_
      have e1 : (c * 2 ^ (q - b64.qmin).toNat : Nat) = i.natAbs * (UU k).natAbs := by
        have := congrArg Int.natAbs hz'; rwa [natAbs_signed, Int.natAbs_mul] at this
      have e2 : (UU k).natAbs ≤ 2 ^ 1074 := by unfold UU; rw [Int.natAbs_natCast]; exact Nat.pow_le_pow_right (by decide) (by omega)
      have e3 : i.natAbs * (UU k).natAbs ≤ 2 ^ 60 * 2 ^ 1074 := Nat.mul_le_mul hs e2
      have e4 : 4503599627370496 * 2 ^ 2045 ≤ c * 2 ^ (q - b64.qmin).toNat := Nat.mul_le_mul (by omega) (Nat.pow_le_pow_right (by decide) (by rw [b64_qmin]; omega))
      have e5 : (2 : Nat) ^ 60 * 2 ^ 1074 < 4503599627370496 * 2 ^ 2045 := by rw [show (4503599627370496 : Nat) = 2 ^ 52 by decide, ← Nat.pow_add, ← Nat.pow_add]; exact Nat.pow_lt_pow_right (by decide) (by decide)
      generalize (2 : Nat) ^ 60 * 2 ^ 1074 = X1 at e3 e5
      generalize 4503599627370496 * (2 : Nat) ^ 2045 = X2 at e4 e5
      omega
    refine ⟨s, c, q + 1, (fits64 _ _ _).mpr ⟨hf.1, by omega, by omega, Or.inr (by omega)⟩, ?_⟩
    show signed s (c * 2 ^ (q + 1 - b64.qmin).toNat) = _
    rw [show (q + 1 - b64.qmin).toNat = (q - b64.qmin).toNat + 1 by rw [b64_qmin]; omega, Nat.pow_succ, ← Nat.mul_assoc, signed_mul, hz']
    show i * UU k * 2 = 2 * i * UU k
    ac_rfl
/-- a rounded datum between two numbers is a number -/
theorem fin_between {d V W : Datum} (hd : d ≠ .nan) (fV : Core.fits b64 V) (fW : Core.fits b64 W) (hV : ∃ s c q, V = .fin s c q) (hW : ∃ s c q, W = .fin s c q) (h1 : zval b64 V ≤ zval b64 d) (h2 : zval b64 d ≤ zval b64 W) : ∃ s c q, d = .fin s c q := by
  cases d with
  | nan => exact absurd rfl hd
  | fin s c q => exact ⟨s, c, q, rfl⟩
  | inf s =>
    exfalso
    obtain ⟨sv, cv, qv, rfl⟩ := hV
    obtain ⟨sw, cw, qw, rfl⟩ := hW
    have l1 : zmag b64 (.fin sv cv qv) < b64.tails * 2 ^ (b64.exps - 2) := zmag_lt_top good_b64 fV
    have l2 : zmag b64 (.fin sw cw qw) < b64.tails * 2 ^ (b64.exps - 2) := zmag_lt_top good_b64 fW
    have a1 : -(zmag b64 (.fin sv cv qv) : Int) ≤ zval b64 (.fin sv cv qv) := by unfold zval signed; split <;> omega
    have a2 : zval b64 (.fin sw cw qw) ≤ (zmag b64 (.fin sw cw qw) : Int) := by unfold zval signed; split <;> omega
    cases s with
    | false =>
      have : zval b64 (.inf false) = ((b64.tails * 2 ^ (b64.exps - 2) : Nat) : Int) := rfl
      omega
    | true =>
      have : zval b64 (.inf true) = -((b64.tails * 2 ^ (b64.exps - 2) : Nat) : Int) := rfl
      omega
theorem round_not_nan {x y : UInt64} (hx : DFin x) (hy : DFin y) : val64 (FP.dadd x y) ≠ .nan := by
  obtain ⟨s, c, q, e⟩ := hx; obtain ⟨t, d, r, e'⟩ := hy
  show val64 (Core.dadd x y) ≠ .nan
  rw [val64_dadd, e, e']
  intro h
  have := roundRatio_cases b64 (sumSign s t (sumUnits s c q t d r (min q r))) (sumUnits s c q t d r (min q r)).natAbs 1 (min q r)
  have h' : roundRatio b64 (sumSign s t (sumUnits s c q t d r (min q r))) (sumUnits s c q t d r (min q r)).natAbs 1 (min q r) = .nan := h
  rcases this with ⟨c', q', w⟩ | w <;> rw [w] at h' <;> cases h'
theorem DI.addR {k : Nat} {a b c d A B : Int} {x y : UInt64} (hx : DI k a b x) (hy : DI k c d y) (hA : A ≤ a + c) (hB : b + d ≤ B) (rA : Rep k A) (rB : Rep k B) : DI k A B (FP.dadd x y) := by
  have hn := round_not_nan hx.1 hy.1
  have hU := UU_pos k
  obtain ⟨s1, c1, q1, f1, z1⟩ := rA
  obtain ⟨s2, c2, q2, f2, z2⟩ := rB
  have e : val64 (FP.dadd x y) = Core.round b64 (exactSum (val64 x) (val64 y)) := val64_dadd x y
  have hs1 : A * UU k ≤ zv x + zv y := by
    have : A * UU k ≤ (a + c) * UU k := Int.mul_le_mul_of_nonneg_right hA (Int.le_of_lt hU)
    rw [Int.add_mul] at this; have := hx.2.1; have := hy.2.1; omega
  have hs2 : zv x + zv y ≤ B * UU k := by
    have : (b + d) * UU k ≤ B * UU k := Int.mul_le_mul_of_nonneg_right hB (Int.le_of_lt hU)
    rw [Int.add_mul] at this; have := hx.2.2; have := hy.2.2; omega
  have g1 : zval b64 (.fin s1 c1 q1) ≤ zval b64 (val64 (FP.dadd x y)) := by
    rw [e]; exact sum_ge good_b64 hx.1 hy.1 (val64_fits x) (val64_fits y) f1 (by simp) (by rw [z1]; exact hs1)
  have g2 : zval b64 (val64 (FP.dadd x y)) ≤ zval b64 (.fin s2 c2 q2) := by
    rw [e]; exact sum_le good_b64 hx.1 hy.1 (val64_fits x) (val64_fits y) f2 (by simp) (by rw [z2]; exact hs2)
  refine ⟨fin_between hn f1 f2 ⟨_, _, _, rfl⟩ ⟨_, _, _, rfl⟩ g1 g2, ?_, ?_⟩
  · rw [← z1]; exact g1
  · rw [← z2]; exact g2
theorem DI.add {k : Nat} {a b c d : Int} {x y : UInt64} (hx : DI k a b x) (hy : DI k c d y) (hk : k ≤ 1022) (h1 : (a + c).natAbs ≤ 2 ^ 53) (h2 : (b + d).natAbs ≤ 2 ^ 53) : DI k (a + c) (b + d) (FP.dadd x y) :=
  hx.addR hy (Int.le_refl _) (Int.le_refl _) (rep_of hk h1) (rep_of hk h2)
theorem DI.sub {k : Nat} {a b c d : Int} {x y : UInt64} (hx : DI k a b x) (hy : DI k c d y) (hk : k ≤ 1022) (h1 : (a - d).natAbs ≤ 2 ^ 53) (h2 : (b - c).natAbs ≤ 2 ^ 53) : DI k (a - d) (b - c) (FP.dsub x y) := by
  have e : FP.dsub x y = FP.dadd x (Core.dneg y) := Core.dsub_eq x y
  have hz : zv (Core.dneg y) = -zv y := by unfold zv; rw [Core.val64_dneg, zval_negate]
  have hf : DFin (Core.dneg y) := by obtain ⟨s, c, q, w⟩ := hy.1; exact ⟨!s, c, q, by rw [Core.val64_dneg, w]; rfl⟩
  have hy' : DI k (-d) (-c) (Core.dneg y) := ⟨hf, by rw [hz, Int.neg_mul]; have := hy.2.2; omega, by rw [hz, Int.neg_mul]; have := hy.2.1; omega⟩
  rw [e, Int.sub_eq_add_neg, Int.sub_eq_add_neg]
  exact hx.add hy' hk (by rw [← Int.sub_eq_add_neg]; exact h1) (by rw [← Int.sub_eq_add_neg]; exact h2)
/-- by a whole number above nought -/
theorem DI.div {k : Nat} {a b A B j : Int} {x y : UInt64} (hx : DI k a b x) (hy : DS 0 j y) (hj : 0 < j) (hA : A * j ≤ a) (hB : b ≤ B * j) (rA : Rep k A) (rB : Rep k B) : DI k A B (FP.ddiv x y) := by
  have hU := UU_pos k
  obtain ⟨s, c, q, e⟩ := hx.1
  obtain ⟨t, d, r, e', hw'⟩ := hy.fin
  have hr0 : r + ((0 : Nat) : Int) = r := by simp
  rw [hr0] at hw'
  have hd : d ≠ 0 := fun z => by have := (whole_zero hw').mp z; omega
  have ht : t = false := by rw [whole_sign hw' (by omega)]; simp; omega
  have h2 := whole_natAbs hw'
  have hfx := val64_fits x
  rw [e] at hfx
  have hq := ((fits64 s c q).mp hfx).2.1
  generalize hN : zmag b64 (.fin s c q) = N
  have hN' : N = c * 2 ^ (q + 1074).toNat := by
    rw [← hN]; show c * 2 ^ (q - b64.qmin).toNat = _; rw [b64_qmin, show q - -1074 = q + 1074 by omega]
  have hzx : zv x = signed s N := by unfold zv; rw [e]; show signed s _ = _; rw [hN]
  have hj' : 0 < j.natAbs := by omega
  have ev : val64 (FP.ddiv x y) = roundRatio b64 s N j.natAbs b64.qmin := by
    show val64 (Core.ddiv x y) = _
    rw [val64_ddiv, e, e', ht]
    show (if d = 0 then _ else roundRatio b64 (s != false) c d (q - r)) = _
    rw [if_neg hd, show (s != false) = s by cases s <;> rfl]
    rw [roundRatio_congr (A' := N) (B' := d) (e' := -1074 - r) (by omega) (by omega) (by
      rw [show q - r - (-1074 - r) = q + 1074 by omega, show (-1074 - r - (q - r)).toNat = 0 by omega, hN', Nat.pow_zero, Nat.mul_one]; ac_rfl)]
    rw [b64_qmin]
    refine roundRatio_congr (by omega) hj' ?_
    rw [show -1074 - r - -1074 = -r by omega, show -1074 - (-1074 - r) = r by omega, Nat.mul_assoc, ← h2]; ac_rfl
  obtain ⟨s1, c1, q1, f1, z1⟩ := rA
  obtain ⟨s2, c2, q2, f2, z2⟩ := rB
  have hle : ∀ {sv : Bool} {cv : Nat} {qv : Int}, Core.fits b64 (.fin sv cv qv) → N ≤ zmag b64 (.fin sv cv qv) * j.natAbs → zmag b64 (roundRatio b64 s N j.natAbs b64.qmin) ≤ zmag b64 (.fin sv cv qv) := fun fv h =>
    zmag_roundRatio_le good_b64 hj' fv (by simp) (Int.le_refl _) (Int.le_refl _) (by
      rw [Int.sub_self]; show N * 2 ^ (b64.qmin - b64.qmin).toNat ≤ _; rw [Int.sub_self]; simpa using h)
  have hge : ∀ {sv : Bool} {cv : Nat} {qv : Int}, Core.fits b64 (.fin sv cv qv) → zmag b64 (.fin sv cv qv) * j.natAbs ≤ N → zmag b64 (.fin sv cv qv) ≤ zmag b64 (roundRatio b64 s N j.natAbs b64.qmin) := fun fv h =>
    zmag_roundRatio_ge good_b64 hj' fv (Int.le_refl _) (Int.le_refl _) (by
      rw [Int.sub_self]; show _ ≤ N * 2 ^ (b64.qmin - b64.qmin).toNat; rw [Int.sub_self]; simpa using h)
  have hsg : sgn (roundRatio b64 s N j.natAbs b64.qmin) = s := sgn_roundRatio ..
  have hzr : zval b64 (val64 (FP.ddiv x y)) = signed s (zmag b64 (roundRatio b64 s N j.natAbs b64.qmin)) := by rw [ev]; unfold zval; rw [hsg]
  have hjj : (j.natAbs : Int) = j := by omega
  have x1 := hx.2.1; have x2 := hx.2.2
  rw [hzx] at x1 x2
  -- A*U*j ≤ signed s N ≤ B*U*j
  have y1 : A * UU k * j ≤ signed s N := by
    have : A * j * UU k ≤ a * UU k := Int.mul_le_mul_of_nonneg_right hA (Int.le_of_lt hU)
    rw [show A * UU k * j = A * j * UU k by ac_rfl]; omega
  have y2 : signed s N ≤ B * UU k * j := by
    have : b * UU k ≤ B * j * UU k := Int.mul_le_mul_of_nonneg_right hB (Int.le_of_lt hU)
    rw [show B * UU k * j = B * j * UU k by ac_rfl]; omega
  have zm1 : (zmag b64 (.fin s1 c1 q1) : Int) = (A * UU k).natAbs := by
    have := congrArg Int.natAbs z1; unfold zval at this; rw [natAbs_signed] at this; omega
  have zm2 : (zmag b64 (.fin s2 c2 q2) : Int) = (B * UU k).natAbs := by
    have := congrArg Int.natAbs z2; unfold zval at this; rw [natAbs_signed] at this; omega
  show DFin (FP.ddiv x y) ∧ A * UU k ≤ zv (FP.ddiv x y) ∧ zv (FP.ddiv x y) ≤ B * UU k
  generalize A * UU k = P at z1 y1 zm1 ⊢
  generalize B * UU k = Q at z2 y2 zm2 ⊢
  have conv : ∀ (u : Int) (z : Nat), (z : Int) = u.natAbs → ((z * j.natAbs : Nat) : Int) = (if 0 ≤ u then u * j else -(u * j)) := by
    intro u z hz
    rw [Int.natCast_mul, hz, hjj]
    split
    · rw [Int.natAbs_of_nonneg (by omega)]
    · rw [show (u.natAbs : Int) = -u by omega, Int.neg_mul]
  have cP := conv P _ zm1
  have cQ := conv Q _ zm2
  have pj : ∀ u : Int, (0 ≤ u → 0 ≤ u * j) ∧ (u < 0 → u * j < 0) := fun u => ⟨fun h => Int.mul_nonneg h (by omega), fun h => Int.mul_neg_of_neg_of_pos h hj⟩
  have pP := pj P; have pQ := pj Q
  have L1 : P ≤ zval b64 (val64 (FP.ddiv x y)) := by
    rw [hzr]
    cases s with
    | false =>
      have y1' : P * j ≤ (N : Int) := y1
      show P ≤ ((zmag b64 (roundRatio b64 false N j.natAbs b64.qmin) : Nat) : Int)
      by_cases h0 : 0 ≤ P
      · rw [if_pos h0] at cP
        have := hge f1 (by omega)
        omega
      · omega
    | true =>
      have y1' : P * j ≤ -(N : Int) := y1
      show P ≤ -((zmag b64 (roundRatio b64 true N j.natAbs b64.qmin) : Nat) : Int)
      by_cases h0 : 0 ≤ P
      · have hN0 : N = 0 := by have := pP.1 h0; omega
        rw [if_pos h0] at cP
        have hP0 : P * j = 0 := by have := pP.1 h0; omega
        have hPz : P = 0 := by rcases Int.mul_eq_zero.mp hP0 with h | h <;> omega
        have := hle f1 (by omega)
        omega
      · rw [if_neg h0] at cP
        have := hle f1 (by omega)
        omega
  have L2 : zval b64 (val64 (FP.ddiv x y)) ≤ Q := by
    rw [hzr]
    cases s with
    | false =>
      have y2' : (N : Int) ≤ Q * j := y2
      show ((zmag b64 (roundRatio b64 false N j.natAbs b64.qmin) : Nat) : Int) ≤ Q
      by_cases h0 : 0 ≤ Q
      · rw [if_pos h0] at cQ
        have := hle f2 (by omega)
        omega
      · have := pQ.2 (by omega); omega
    | true =>
      have y2' : -(N : Int) ≤ Q * j := y2
      show -((zmag b64 (roundRatio b64 true N j.natAbs b64.qmin) : Nat) : Int) ≤ Q
      by_cases h0 : 0 ≤ Q
      · omega
      · rw [if_neg h0] at cQ
        have := hge f2 (by omega)
        omega
  have hn : val64 (FP.ddiv x y) ≠ .nan := by
    rw [ev]; intro h
    rcases roundRatio_cases b64 s N j.natAbs b64.qmin with ⟨c', q', w⟩ | w <;> rw [w] at h <;> cases h
  exact ⟨fin_between hn f1 f2 ⟨_, _, _, rfl⟩ ⟨_, _, _, rfl⟩ (by rw [z1]; exact L1) (by rw [z2]; exact L2), L1, L2⟩
theorem cmp_zv {x y : UInt64} (hx : DFin x) (hy : DFin y) : FP.dcmp x y = some (compare (zv x) (zv y)) := by
  obtain ⟨s, c, q, e⟩ := hx; obtain ⟨t, d, r, e'⟩ := hy
  have hx' : val64 x ≠ .nan := by rw [e]; simp
  have hy' : val64 y ≠ .nan := by rw [e']; simp
  exact order_zval good_b64 (val64_fits x) (val64_fits y) hx' hy'
theorem DI.cmpV {k : Nat} {a b c d : Int} {x y : UInt64} (hx : DI k a b x) (hy : DI k c d y) (h : b < c) (o : CmpOp) : cmpValue (FP.dcmp x y) o = -1 := by
  have hU := UU_pos k
  have : b * UU k < c * UU k := Int.mul_lt_mul_of_pos_right h hU
  rw [cmp_zv hx.1 hy.1, cmpV_int]; unfold c3; rw [if_pos (by have := hx.2.2; have := hy.2.1; omega)]
theorem UU_succ (k : Nat) (hk : k + 1 ≤ 1074) : UU k = 2 * UU (k + 1) := by
  unfold UU
  rw [show 1074 - k = (1074 - (k + 1)) + 1 by omega, Nat.pow_succ, Int.natCast_mul, Int.mul_comm]; rfl
theorem UU_two : UU 0 = 2 * UU 1 := UU_succ 0 (by decide)
/-- a double of 2^51 or more is a whole number of halves -/
theorem di_half {lo hi : Int} {x : UInt64} (h : DI 0 lo hi x) (hb : (2251799813685248 : Int) ≤ lo ∨ hi ≤ -2251799813685248) : ∃ i, DS 1 i x ∧ lo * 2 ≤ i ∧ i ≤ hi * 2 := by
  obtain ⟨s, c, q, e⟩ := h.1
  have hf := val64_fits x
  rw [e, fits64] at hf
  have hz : zv x = signed s (c * 2 ^ (q + 1074).toNat) := by
    unfold zv; rw [e]; show signed s (c * 2 ^ (q - b64.qmin).toNat) = _; rw [b64_qmin, show q - -1074 = q + 1074 by omega]
  obtain ⟨P, hP⟩ : ∃ P, P = (2 : Nat) ^ (1074 - 2) := ⟨_, rfl⟩
  have hp0 : 0 < P := by rw [hP]; exact Nat.two_pow_pos _
  obtain ⟨PP, hPP⟩ : ∃ PP, PP = UU 0 := ⟨_, rfl⟩
  have hu : PP = (P : Int) * 4 := by
    have u1 : UU 0 = 2 * UU 1 := UU_succ 0 (by decide)
    have u2 : UU 1 = 2 * UU 2 := UU_succ 1 (by decide)
    have u3 : UU 2 = (P : Int) := by rw [hP]; rfl
    omega
  have hq : -1 ≤ q := by
    refine Int.not_lt.mp fun hlt => ?_
    have e1 : (q + 1074).toNat ≤ 1074 - 2 := by omega
    have e2 : c * 2 ^ (q + 1074).toNat ≤ 9007199254740991 * P := by rw [hP]; exact Nat.mul_le_mul (by omega) (Nat.pow_le_pow_right (by decide) e1)
    have h1 := h.2.1; have h2 := h.2.2
    rw [hz, ← hPP] at h1 h2
    generalize c * 2 ^ (q + 1074).toNat = W at e2 h1 h2
    have a1 : signed s W ≤ (W : Int) := by unfold signed; split <;> omega
    have a2 : -(W : Int) ≤ signed s W := by unfold signed; split <;> omega
    rcases hb with hb | hb
    · have : 2251799813685248 * PP ≤ lo * PP := Int.mul_le_mul_of_nonneg_right hb (by omega)
      omega
    · have : hi * PP ≤ -2251799813685248 * PP := Int.mul_le_mul_of_nonneg_right hb (by omega)
      omega
  have hd : DS 1 (signed s (c * 2 ^ (q + 1).toNat)) x := by
    unfold DS; rw [e]
    show signed s (c * 2 ^ (q + ((1 : Nat) : Int)).toNat) = _
    rw [show (-(q + ((1 : Nat) : Int))).toNat = 0 by omega]; simp
  refine ⟨_, hd, ?_, ?_⟩
  · have h1 := h.2.1
    rw [hd.zeq (by decide), UU_two, ← Int.mul_assoc] at h1
    exact Int.le_of_mul_le_mul_right h1 (UU_pos 1)
  · have h1 := h.2.2
    rw [hd.zeq (by decide), UU_two, ← Int.mul_assoc] at h1
    exact Int.le_of_mul_le_mul_right h1 (UU_pos 1)
/-- a sum that is a whole number of the coarser scale -/
theorem DS.add_half {k : Nat} {i j Q : Int} {x y : UInt64} (hx : DS (k + 1) i x) (hy : DS (k + 1) j y) (e : i + j = Q * 2) (hb : Q.natAbs ≤ 2 ^ 53) (hk : k ≤ 1022) : DS k Q (FP.dadd x y) := by
  show Whole _ (sft k (val64 (Core.dadd x y)))
  rw [val64_dadd]; refine ds_round hk hb ?_
  have h := whole_sum hx hy
  rw [sft_sum, e] at h
  generalize exactSum (val64 x) (val64 y) = d at h ⊢
  cases d with
  | nan => exact h.elim
  | inf s => exact h.elim
  | fin s c q =>
    have h' : Whole (Q * 2) (.fin s c (q + ((k + 1 : Nat) : Int))) := h
    show Whole Q (.fin s c (q + (k : Int)))
    rw [whole_iff (N := (-q).toNat) (by omega)] at h'
    rw [whole_iff (N := (-q).toNat + 1) (by omega)]
    rw [show q + (k : Int) + (((-q).toNat + 1 : Nat) : Int) = q + ((k + 1 : Nat) : Int) + ((-q).toNat : Nat) by omega, h', Nat.pow_succ, Int.natCast_mul]
    show Q * 2 * _ = Q * (_ * 2)
    ac_rfl
end Between

section OwnW
variable {p : Program} {l : Launch} {e : Env} {R : Room} {s : State} {m : MethodId} {args : Array Value} {below : List Frame} {meth : Method} {c : Code} {T : State} {locs : List Loc} {cells slots : Nat}
/-- as Dn, where String constants may have been interned on the way -/
def Dw (p : Program) (e : Env) (below : List Frame) (s : State) (Q : Option Value → Heap → List Loc → Prop) (rc rs : Nat) (A : State) : Prop :=
  ∃ s₂ o, Steps p.tables e below A s₂ ∧ s₂.status = .running ∧ Ended s₂ below o ∧ ∃ v L, o = .returned v ∧ Q v s₂.heap L ∧ ReturnedEndW s o s₂ L rc rs
theorem Dw.st {Q : Option Value → Heap → List Loc → Prop} {rc rs : Nat} {A B : State} (h : ∀ t, Steps p.tables e below B t → Steps p.tables e below A t) (k : Dw p e below s Q rc rs B) : Dw p e below s Q rc rs A := by
  obtain ⟨s2, o, h1, h2⟩ := k; exact ⟨s2, o, h _ h1, h2⟩
theorem Dw.tr {Q : Option Value → Heap → List Loc → Prop} {rc rs : Nat} {A B : State} (h : Steps p.tables e below A B) (k : Dw p e below s Q rc rs B) : Dw p e below s Q rc rs A := by
  obtain ⟨s2, o, h1, h2⟩ := k; exact ⟨s2, o, h.trans h1, h2⟩
theorem Dw.of {Q : Option Value → Heap → List Loc → Prop} {rc rs : Nat} {A : State} {vm1 : Vm} {n : Nat} (hS : s.Since vm1 n) (k : Dn p e below (s.setVm vm1) (fun v h L => Q v h L ∧ n ≤ h.size) rc rs A) : Dw p e below s Q rc rs A := by
  obtain ⟨s2, o, h1, h2, h3, v, L, rfl, ⟨hq, hn⟩, hr, hW, hs⟩ := k
  obtain ⟨a, b, c'⟩ := hS.ended hW hn hs
  exact ⟨s2, _, h1, h2, h3, v, L, rfl, hq, hr, a, b, c'⟩
theorem Dw.ofN {Q : Option Value → Heap → List Loc → Prop} {rc rs : Nat} {A : State} (k : Dn p e below s Q rc rs A) : Dw p e below s Q rc rs A := by
  obtain ⟨s2, o, h1, h2, h3, v, L, rfl, hq, hr, hW, hs⟩ := k
  exact ⟨s2, _, h1, h2, h3, v, L, rfl, hq, ReturnedEndW.of_narrow hr hW hs⟩
end OwnW

def own_VS (Z : State) (h : Heap) (a hm : Addr) (vs : Int64) (ss : UInt64) : Prop :=
  Exa Z h a "com/example/nudo/nudo/core/metrics/VehicleStatistics" ∧ Fld Z h a "com/example/nudo/nudo/core/metrics/VehicleStatistics" "waitingMs" "Ljava/util/Map;" (.ref hm) ∧ Fld Z h a "com/example/nudo/nudo/core/metrics/VehicleStatistics" "vehicleSteps" "J" (.long vs) ∧ Fld Z h a "com/example/nudo/nudo/core/metrics/VehicleStatistics" "speedSum" "D" (.double ss) ∧ Fld Z h a "com/example/nudo/nudo/core/metrics/VehicleStatistics" "departed" "J" (.long 0) ∧ Fld Z h a "com/example/nudo/nudo/core/metrics/VehicleStatistics" "arrived" "J" (.long 0) ∧ Fld Z h a "com/example/nudo/nudo/core/metrics/VehicleStatistics" "trips" "J" (.long 0) ∧ Fld Z h a "com/example/nudo/nudo/core/metrics/VehicleStatistics" "tripDurationsMs" "J" (.long 0)
def own_HM (Z : State) (h : Heap) (a : Addr) : Prop := Exa Z h a "java/util/HashMap" ∧ Fld Z h a "java/util/HashMap" "table" "[Ljava/util/HashMap$Node;" .null ∧ Fld Z h a "java/util/HashMap" "size" "I" (.int 0)
theorem own_lay : ((((Jvm.Lambda.Shape.mk "java/util/function/BiFunction" "apply" (Jvm.ClassFile.MethodDescriptor.mk ([(Jvm.ClassFile.FieldType.object "java/lang/Object"), (Jvm.ClassFile.FieldType.object "java/lang/Object")] : List Jvm.ClassFile.FieldType) (Option.some (Jvm.ClassFile.FieldType.object "java/lang/Object"))) ([Jvm.ClassFile.FieldType.long] : List Jvm.ClassFile.FieldType) (6 : Nat) "com/example/nudo/nudo/core/metrics/VehicleStatistics" "lambda$vehicleStep$1" (Jvm.ClassFile.MethodDescriptor.mk ([Jvm.ClassFile.FieldType.long, (Jvm.ClassFile.FieldType.object "java/lang/String"), (Jvm.ClassFile.FieldType.object "java/lang/Long")] : List Jvm.ClassFile.FieldType) (Option.some (Jvm.ClassFile.FieldType.object "java/lang/Long"))) false (Jvm.ClassFile.MethodDescriptor.mk ([(Jvm.ClassFile.FieldType.object "java/lang/String"), (Jvm.ClassFile.FieldType.object "java/lang/Long")] : List Jvm.ClassFile.FieldType) (Option.some (Jvm.ClassFile.FieldType.object "java/lang/Long")))) : Lambda.Shape).file "com/example/nudo/nudo/core/metrics/VehicleStatistics").bind fun f => (layoutFields f 0).map fun z => z.2.1) = some #[.long] := by decide +kernel
theorem own_c4 {v : Int32} (h1 : 0 ≤ v.toInt) (h2 : v.toInt ≤ 3) : v = 0 ∨ v = 1 ∨ v = 2 ∨ v = 3 := by
  have e : ∀ k : Int32, v.toInt = k.toInt → v = k := fun k h => Int32.toInt_inj.mp h
  rcases (show v.toInt = 0 ∨ v.toInt = 1 ∨ v.toInt = 2 ∨ v.toInt = 3 by omega) with h | h | h | h
  · exact Or.inl (e 0 h)
  · exact Or.inr (Or.inl (e 1 h))
  · exact Or.inr (Or.inr (Or.inl (e 2 h)))
  · exact Or.inr (Or.inr (Or.inr (e 3 h)))
theorem own_ne0 {Z : State} {args : Array Value} {t : Term} {x : Int32} (e : t.eval args Z none [] Z = some (.int x)) (h : (Cond.not (.eq t (.int 0))).value args Z none Z [] = some true) : x ≠ 0 := fun q => by
  subst q
  have e2 : (Term.int (0 : Int32)).eval args Z none [] Z = some (.int 0) := Term.int_eval 0
  simp [Cond.value, e, e2] at h
/-- a quotient of whole quarters by a small count is a finite number -/
theorem own_dq {i j : Int} {x y : UInt64} (hx : DS 2 i x) (hy : DS 0 j y) (hj : 0 < j) (h1 : -1099511627776 ≤ i) (h2 : i ≤ 1099511627776) : DI 2 (-1099511627776) 1099511627776 (FP.ddiv x y) :=
  DI.div (hx.di (by decide)) hy hj (by omega) (by omega) (rep_of (by decide) (by decide)) (rep_of (by decide) (by decide))
open Jvm.FP Jvm.FP.Core Jvm.Free.Fl in
/-- equal numbers by equal numbers: the quotients compare as equal (a zero's sign doesn't tell) -/
theorem own_eqdiv {i j : Int} {x y x' y' : UInt64} (hx : DS 2 i x) (hy : DS 0 j y) (hx' : DS 2 i x') (hy' : DS 0 j y') (hj : 0 < j) (h1 : -1099511627776 ≤ i) (h2 : i ≤ 1099511627776) (o : CmpOp) : cmpValue (FP.dcmp (FP.ddiv x y) (FP.ddiv x' y')) o = 0 := by
  by_cases hi : i = 0
  · subst hi
    have a : DS 2 0 (FP.ddiv x y) := DS.div (Q := 0) hx hy (by omega) (by simp) (by decide) (by decide)
    have b : DS 2 0 (FP.ddiv x' y') := DS.div (Q := 0) hx' hy' (by omega) (by simp) (by decide) (by decide)
    exact (DS.cmpV a b o).trans ((c3_eq _ _).mpr rfl)
  · obtain ⟨s, t, s1, t1, v1⟩ := ds_quot hx hy (by omega)
    obtain ⟨s', t', s2, t2, v2⟩ := ds_quot hx' hy' (by omega)
    have es : s = s' := by
      cases s <;> cases s' <;> first | rfl | (exfalso; simp [signed] at s1 s2; omega)
    have et : t = t' := by
      cases t <;> cases t' <;> first | rfl | (exfalso; simp [signed] at t1 t2; omega)
    subst es et
    have z : zv (FP.ddiv x y) = zv (FP.ddiv x' y') := by unfold zv; rw [v1, v2]
    rw [cmp_zv (own_dq hx hy hj h1 h2).1 (own_dq hx' hy' hj h1 h2).1, z]
    exact (cmpV_int _ _ o).trans ((c3_eq _ _).mpr rfl)

section OwnM
variable {p : Program} {l : Launch} {e : Env} {R : Room} {s : State} {m : MethodId} {args : Array Value} {below : List Frame} {meth : Method} {c : Code} {T : State} {locs : List Loc} {cells slots : Nat} {Z : State} {a0 : Array Value} {h : Heap}
/-- the site's class and record, in the tables at hand -/
theorem own_site (hZ : Z.Warmed39 s.vm) {nm : MethodName} (hn : s.methodNamed? nm = some m) {pc index : Nat} {σ : Lambda.Shape} (w : (Cond.lambdaSite nm pc index σ).before a0 Z = true) :
    ∃ (cK : ClassId) (k0 k : Class) (cf : ClassFile) (i0 p0 : Nat) (lk : Linked), Z.vm.classes[m.cls]? = some k0 ∧ s.vm.classes[m.cls]? = some k ∧ k.cf = some cf ∧ Lambda.shapeOf? cf index = some σ ∧ (k.callSites.find? fun y => y.1 == m.idx && y.2.1 == pc) = some (i0, p0, lk) ∧ Lambda.isMade { classPath := fun _ => none } Z.vm m.cls σ cK = true ∧
      ((∃ a, lk = .constant a ∧ σ.captured = []) ∨ (lk = .makes cK ∧ σ.captured ≠ [])) := by
  obtain ⟨cK, one, hat⟩ := Cond.lambdaSite_spec w
  obtain ⟨m', k, cf, i0, p0, lk, h1, h2, h3, h4, -, h6, h7, -, h9⟩ := State.lambdaAt?_spec hat
  have em : m' = m := by
    have q : s.methodNamed? nm = Z.methodNamed? nm := State.methodNamed?_setVm (s := Z) hZ.alike nm
    rw [h1, hn] at q
    exact (Option.some.inj q).symm
  subst em
  obtain ⟨k', q1, q2⟩ := hZ.alike.2.2 _ _ h2
  refine ⟨cK, k, k', cf, i0, p0, lk, h2, q1, by rw [q2]; exact h3, h4, by rw [q2]; exact h6, h7, ?_⟩
  rcases h9 with ⟨a, _, e1, -, e2, -⟩ | ⟨e1, -, e2⟩
  · exact Or.inl ⟨a, e1, e2⟩
  · exact Or.inr ⟨e1, e2⟩
/-- a lambda that captures nothing: its one object -/
theorem own_lam0 (X : Stand p l e R s m args below meth c T locs cells slots) (hx : p.tables.exec = Jvm.exec) (hZ : Z.Warmed39 s.vm) {nm : MethodName} (hn : s.methodNamed? nm = some m) {index : Nat} {σ : Lambda.Shape} {g : JFrame} (w : (Cond.lambdaSite nm g.pc index σ).before a0 Z = true) (hcap : σ.captured = []) (hg : g.method = m) (hsize : g.locals.size = c.maxLocals)
    (hd : decode c.code g.pc = .ok (.invokedynamic index, 5)) (hwords : 2 * g.monitorRoom + (g.stack.map fun v => v.category).sum + 3072 ≤ R.locals) :
    ∃ a : Addr, ∀ t, Steps p.tables e below (T.setTop { g with pc := g.pc + 5, stack := .ref a :: g.stack }) t → Steps p.tables e below (T.setTop g) t := by
  obtain ⟨cK, k0, k, cf, i0, p0, lk, h1, h2, h3, h4, h5, h6, ⟨a, rfl, -⟩ | ⟨-, e2⟩⟩ := own_site hZ hn w
  · exact ⟨a, fun t ht => X.lambdaConstant hx hg hsize hd h2 h5 (by rw [X.admits.platform]; exact hwords) ht⟩
  · exact absurd hcap e2
/-- a lambda that captures one long: a new object -/
theorem own_lam1 (X : Stand p l e R s m args below meth c T locs cells slots) (hx : p.tables.exec = Jvm.exec) (hZ : Z.Warmed39 s.vm) {nm : MethodName} (hn : s.methodNamed? nm = some m) {index : Nat} {σ : Lambda.Shape} {g : JFrame} (w : (Cond.lambdaSite nm g.pc index σ).before a0 Z = true) (hcap : σ.captured = [.long])
    (hO : (Cond.instantiable "java/lang/Object" 0).before a0 Z = true) (hlay : ((σ.file nm.cls).bind fun f => (layoutFields f 0).map fun z => z.2.1) = some #[.long]) (eT : T.heap = h) (hg : g.method = m) (hsize : g.locals.size = c.maxLocals)
    (hd : decode c.code g.pc = .ok (.invokedynamic index, 5)) {x : Int64} {rest : List Value} (hst : g.stack = .long x :: rest) (hwords : 2 * g.monitorRoom + (g.stack.map fun v => v.category).sum + 3072 ≤ R.locals) (hc : cells + 1 ≤ R.cells) (hs : slots + 1 ≤ R.slots) :
    ∃ (T' : State) (h' : Heap), Stand p l e R s m args below meth c T' locs (cells + 1) (slots + 1) ∧ T'.heap = h' ∧ Ext h h' ∧ ∀ t, Steps p.tables e below (T'.setTop { g with pc := g.pc + 5, stack := .ref h.size :: rest }) t → Steps p.tables e below (T.setTop g) t := by
  obtain ⟨cK, k0, k, cf, i0, p0, lk, h1, h2, h3, h4, h5, h6, ⟨a, -, e2⟩ | ⟨rfl, -⟩⟩ := own_site hZ hn w
  · rw [hcap] at e2; cases e2
  obtain ⟨b, nt, desc, sig, n1, n2, n3, n4⟩ := Lambda.shapeOf?_site h4
  obtain ⟨dk, kc, ok, -, -, cf', ob, -, -, lay, -, -, -, d1, d2, -, d4, d5, -, d7, d8, -, -, -, -, -, ⟨-, knd, -⟩, -, -, -, -, -, -, -, ⟨ty, -⟩, -⟩ := Lambda.isMade_spec h6
  obtain ⟨kn, e1, e2⟩ := className_of_methodNamed hn
  obtain ⟨ks, s1, s2⟩ := hZ.alike.2.2 _ _ d1
  have dn : dk.name = nm.cls := by
    have q : ks = kn := Option.some.inj (s1.symm.trans e1)
    rw [← e2, ← q, s2]
  obtain ⟨co, ko, o1, o2, -, -, -, o6⟩ := Cond.instantiable_spec hO
  have eo : ko = ok := by
    have q1 : co = ob := Option.some.inj (o1.symm.trans d5)
    subst q1
    exact Option.some.inj (o2.symm.trans d7)
  subst eo
  have types : kc.instanceTypes = #[.long] := by
    rw [dn] at d4
    rw [o6] at d8
    rw [d4] at hlay
    simp only [Option.bind_some, d8, Option.map_some, Option.some.injEq] at hlay
    rw [ty, hlay, Array.size_eq_zero_iff.mp o6]
    rfl
  obtain ⟨kc', c1, c2⟩ := hZ.alike.2.2 _ _ d2
  have types' : kc'.instanceTypes = #[.long] := by rw [c2]; exact types
  have knd' : kc'.kind = .ordinary := by rw [c2]; exact knd
  have cut : ((kc'.instanceTypes.toList.zip [Value.long x]).map fun (t, v) => narrow t v) = [.long x] := by rw [types']; rfl
  obtain ⟨X', st⟩ := X.lambdaMakes hx hg hsize hd (vals := [.long x]) (rest := rest) h2 h5 h3 n1 n2 (parseLong_of_parse n3) (by rw [n4, hcap]; rfl) (by rw [hst]; rfl) c1 (by rw [X.admits.platform]; exact hwords) hc (by rw [cut]; exact hs) (fun i v hv => by
    rw [cut] at hv
    cases i with
    | zero => simp at hv; subst hv; simp [State.fitsSlot, State.slotType?, c1, knd', types', fits]
    | succ j => simp at hv)
  rw [cut] at X' st
  subst eT
  refine ⟨_, _, X', rfl, ⟨?_, fun a cc q => ?_⟩, st⟩
  · show T.heap.size ≤ (T.heap.push _).size
    simp
  · have lt := (Array.getElem?_eq_some_iff.mp q).1
    rw [State.heap_pushCell_of_lt _ _ lt]; exact q
end OwnM

theorem d2_0 : decode jdk_43_method_3_code 0 = .ok (.iload_n 0, 1) := by decide +kernel
theorem d2_1 : decode jdk_43_method_3_code 1 = .ok (.sipush 255, 3) := by decide +kernel
theorem d2_4 : decode jdk_43_method_3_code 4 = .ok (.if_icmp .gt 7, 3) := by decide +kernel
theorem d2_7 : decode jdk_43_method_3_code 7 = .ok (.iconst 1, 1) := by decide +kernel
theorem d2_8 : decode jdk_43_method_3_code 8 = .ok (.goto 4, 3) := by decide +kernel
theorem d2_12 : decode jdk_43_method_3_code 12 = .ok (.ireturn, 1) := by decide +kernel
theorem pn0 : plainName "java/lang/StringLatin1" = true := by first | (simp [plainName, overriddenIn]; done) | decide +kernel
theorem ef2_rmCe (m : MethodId) (x0 : Int32) : entryFrame m #[(.int x0)] 1 = mkF m 0 #[vi x0] [] := by first | (simp [entryFrame, mkF, argsToLocals, Value.category]; done) | rfl
def QCe (Z : State) (cc : Int32) (h0 : Heap) (n0 : Nat) (v : Option Value) (h : Heap) (L : List Loc) : Prop := v = some (.int 1) ∧ Fr n0 L ∧ h = h0
theorem rmCe (l : Launch) (Z : State) (a0 : Array Value) (hw : ∀ d ∈ tables_1, d.before a0 Z = true) (ws : List Jvm.Cond) (cc : Int32) (h0 : Heap) (n0 : Nat) (Z0 : n0 ≤ h0.size) (hcc : ¬ (255 : Int32) < cc) :
    own_Met l (⟨"java/lang/StringLatin1", "canEncode", "(C)Z"⟩ : MethodName) (Jvm.Cond.code (⟨"java/lang/StringLatin1", "canEncode", "(C)Z"⟩ : MethodName) jdk_43_method_3_code 1 (some .boolean) :: ws) orm3 #[(.int cc)] Z h0 (QCe Z cc h0 n0) := by
  refine MetFree.of_bodySF (plainFor_of_name pn0) hisR ?_
  intro p e s m args below meth c s₁ Bd hml0 hP hK
  obtain ⟨rfl, hZ, hh⟩ := hP
  have hml : c.maxLocals = 1 := hml0
  obtain ⟨hx, hby, hlk, hret, (hown : s.vm.findClass "java/lang/StringLatin1" = _), (X0 : Stand p l e orm3 s m _ below meth c s₁ [] 0 0), e0⟩ := own_bg Bd hh
  have N0 := Fr.nil n0
  show Dn p e below s (QCe Z cc h0 n0) orm3.cells orm3.slots (s₁.setTop (entryFrame m #[(.int cc)] 1))
  refine Dn.st (fun _ kk => castTop (ef2_rmCe m cc) kk) ?_
  refine Dn.st (fun _ kk => XS.iloadN X0.here hx rfl (hb hby d2_0) rfl (XS.sipush X0.here hx rfl (hb hby d2_1) (kk))) ?_
  show Dn p e below s _ _ _ (s₁.setTop (mkF m 4 #[vi cc] [(.int 255), (.int cc)]))
  have hc4 : ¬ ((255 : Int32) < cc) := hcc
  refine Dn.st (fun _ kk => XS.icmpNo X0.here hx rfl (hb hby d2_4) rfl (flt hc4).2.2.1 (XS.iconst X0.here hx rfl (hb hby d2_7) (XS.goto X0.here hx rfl (pc0 := 8) (pc' := 12) rfl (hb hby d2_8) (by decide) (by decide) (kk)))) ?_
  show Dn p e below s _ _ _ (s₁.setTop (mkF m 12 #[vi cc] [(.int 1)]))
  exact Dn.ret X0 hlk hx hret rfl (Or.inl ⟨rfl, Or.inr (Or.inl rfl), _, rfl⟩) (hb hby d2_12) (by rw [e0]; exact ⟨rfl, N0, rfl⟩) (by decide) (by decide)

theorem d3_0 : decode jdk_43_method_46_code 0 = .ok (.iconst 1, 1) := by decide +kernel
theorem d3_1 : decode jdk_43_method_46_code 1 = .ok (.newarray .byte, 2) := by decide +kernel
theorem d3_3 : decode jdk_43_method_46_code 3 = .ok (.dup, 1) := by decide +kernel
theorem d3_4 : decode jdk_43_method_46_code 4 = .ok (.iconst 0, 1) := by decide +kernel
theorem d3_5 : decode jdk_43_method_46_code 5 = .ok (.iload_n 0, 1) := by decide +kernel
theorem d3_6 : decode jdk_43_method_46_code 6 = .ok (.i2b, 1) := by decide +kernel
theorem d3_7 : decode jdk_43_method_46_code 7 = .ok (.bastore, 1) := by decide +kernel
theorem d3_8 : decode jdk_43_method_46_code 8 = .ok (.areturn, 1) := by decide +kernel
theorem ef3_rmTb (m : MethodId) (x0 : Int32) : entryFrame m #[(.int x0)] 1 = mkF m 0 #[vi x0] [] := by first | (simp [entryFrame, mkF, argsToLocals, Value.category]; done) | rfl
def QTb (Z : State) (cc : Int32) (h0 : Heap) (n0 : Nat) (v : Option Value) (h : Heap) (L : List Loc) : Prop := ∃ b : Addr, v = some (.ref b) ∧ h0.size ≤ b ∧ Fr n0 L ∧ Keep h0 h []
theorem rmTb (l : Launch) (Z : State) (a0 : Array Value) (hw : ∀ d ∈ tables_1, d.before a0 Z = true) (ws : List Jvm.Cond) (cc : Int32) (h0 : Heap) (n0 : Nat) (Z0 : n0 ≤ h0.size) :
    own_Met l (⟨"java/lang/StringLatin1", "toBytes", "(C)[B"⟩ : MethodName) (Jvm.Cond.code (⟨"java/lang/StringLatin1", "toBytes", "(C)[B"⟩ : MethodName) jdk_43_method_46_code 1 (some (.array .byte)) :: ws) orm10 #[(.int cc)] Z h0 (QTb Z cc h0 n0) := by
  refine MetFree.of_bodySF (plainFor_of_name pn0) hisR ?_
  intro p e s m args below meth c s₁ Bd hml0 hP hK
  obtain ⟨rfl, hZ, hh⟩ := hP
  have hml : c.maxLocals = 1 := hml0
  obtain ⟨hx, hby, hlk, hret, (hown : s.vm.findClass "java/lang/StringLatin1" = _), (X0 : Stand p l e orm10 s m _ below meth c s₁ [] 0 0), e0⟩ := own_bg Bd hh
  have N0 := Fr.nil n0
  show Dn p e below s (QTb Z cc h0 n0) orm10.cells orm10.slots (s₁.setTop (entryFrame m #[(.int cc)] 1))
  refine Dn.st (fun _ kk => castTop (ef3_rmTb m cc) kk) ?_
  refine Dn.st (fun _ kk => XS.iconst X0.here hx rfl (hb hby d3_0) (kk)) ?_
  show Dn p e below s _ _ _ (s₁.setTop (mkF m 1 #[vi cc] [(.int 1)]))
  obtain ⟨T1, h1, k1, X1, e1, E1, A1, st1⟩ := newP X0 hx hZ (tw hw 15 rfl) e0 (g := (mkF m 1 #[vi cc] [(.int 1)])) rfl (hb hby d3_1) rfl (by decide) (cap := 1) (by decide) (by decide) (by decide) (by decide)
  obtain ⟨b1, g1⟩ : ∃ z, z = h0.size := ⟨_, rfl⟩
  rw [← g1] at A1 st1
  have gz_b1 : h0.size ≤ b1 := Nat.le_trans (Keep.refl h0 []).1 (Nat.le_of_eq g1.symm)
  have K1 := (Keep.refl h0 []).ext E1
  have gn_b1 : n0 ≤ b1 := Nat.le_trans Z0 (Nat.le_of_eq g1.symm)
  have Z1 : n0 ≤ h1.size := Nat.le_trans Z0 E1.1
  have V_b1 : Arv Z h1 b1 k1 .byte (1 : Int32) [(.int 0)] (.int 0) := (Arv.new A1 (by decide)).pad (pad_rep [] (.int 0) 1)
  refine Dn.st st1 ?_
  refine Dn.st (fun _ kk => XS.dup X1.here hx rfl (hb hby d3_3) rfl rfl (XS.iconst X1.here hx rfl (hb hby d3_4) (XS.iloadN X1.here hx rfl (hb hby d3_5) rfl (XS.i2b X1.here hx rfl (hb hby d3_6) rfl (kk))))) ?_
  show Dn p e below s _ _ _ (T1.setTop (mkF m 7 #[vi cc] [(.int (cc.toInt8.toInt32)), (.int 0), (.ref b1), (.ref b1)]))
  have Vc_b1_7 := V_b1
  obtain ⟨cl_b1_7, Ar_b1_7, q_b1_7, S_b1_7, N_b1_7, H_b1_7, G_b1_7⟩ := Vc_b1_7
  have hin7 : ¬ ((0 : Int32) < 0 ∨ cl_b1_7.slots.size ≤ ((0 : Int32)).toNatClampNeg) := inb_of S_b1_7 ⟨by decide, by decide⟩
  obtain ⟨T7, h7, X7, e7, W7, st7⟩ := stB X1 hx hZ e1 Ar_b1_7 (j := (0 : Int32)) hin7 (g := (mkF m 7 #[vi cc] [(.int (cc.toInt8.toInt32)), (.int 0), (.ref b1), (.ref b1)])) rfl rfl (hb hby d3_7)
  have V_b1_7 := Arv.set Ar_b1_7 q_b1_7 S_b1_7 N_b1_7 H_b1_7 G_b1_7 (fits_nar_byte _) W7 0 rfl (Nat.le_of_ble_eq_true rfl)
  have K7 := K1.wr W7 (Or.inr gz_b1)
  have N7 := Fr.snoc X7 N0 gn_b1
  have Z7 : n0 ≤ h7.size := Nat.le_trans Z1 (Keep.of_wr W7).1
  refine Dn.st st7 ?_
  exact Dn.ret X7 hlk hx hret rfl (Or.inr (Or.inr (Or.inr (Or.inr ⟨rfl, rfl, rfl⟩)))) (hb hby d3_8) (by rw [e7]; exact ⟨b1, rfl, gz_b1, N7, K7⟩) (by decide) (by decide)

theorem d4_0 : decode jdk_42_method_151_code 0 = .ok (.aload_n 0, 1) := by decide +kernel
theorem d4_1 : decode jdk_42_method_151_code 1 = .ok (.invokespecial 1, 3) := by decide +kernel
theorem d4_4 : decode jdk_42_method_151_code 4 = .ok (.aload_n 0, 1) := by decide +kernel
theorem d4_5 : decode jdk_42_method_151_code 5 = .ok (.aload_n 1, 1) := by decide +kernel
theorem d4_6 : decode jdk_42_method_151_code 6 = .ok (.putfield 9, 3) := by decide +kernel
theorem d4_9 : decode jdk_42_method_151_code 9 = .ok (.aload_n 0, 1) := by decide +kernel
theorem d4_10 : decode jdk_42_method_151_code 10 = .ok (.iload_n 2, 1) := by decide +kernel
theorem d4_11 : decode jdk_42_method_151_code 11 = .ok (.putfield 15, 3) := by decide +kernel
theorem d4_14 : decode jdk_42_method_151_code 14 = .ok (.return_, 1) := by decide +kernel
theorem pn1 : plainName "java/lang/String" = true := by first | (simp [plainName, overriddenIn]; done) | decide +kernel
theorem ef4_rmSb (m : MethodId) (x0 : Addr) (x1 : Addr) (x2 : Int32) : entryFrame m #[(.ref x0), (.ref x1), (.int x2)] 3 = mkF m 0 #[vr x0, vr x1, vi x2] [] := by first | (simp [entryFrame, mkF, argsToLocals, Value.category]; done) | rfl
def QSb (Z : State) (a : Addr) (vb : Addr) (h0 : Heap) (n0 : Nat) (v : Option Value) (h : Heap) (L : List Loc) : Prop := v = none ∧ Fr n0 L ∧ Keep h0 h [a]
theorem rmSb (l : Launch) (Z : State) (a0 : Array Value) (hw : ∀ d ∈ tables_1, d.before a0 Z = true) (ws : List Jvm.Cond) (a : Addr) (vb : Addr) (h0 : Heap) (n0 : Nat) (Z0 : n0 ≤ h0.size) (ga : n0 ≤ a) (Ea : Exa Z h0 a "java/lang/String") (F0 : Fld Z h0 a "java/lang/String" "coder" "B" (.int 0)) (F1 : Fld Z h0 a "java/lang/String" "value" "[B" .null) :
    own_Met l (⟨"java/lang/String", "<init>", "([BB)V"⟩ : MethodName) (Jvm.Cond.code (⟨"java/lang/String", "<init>", "([BB)V"⟩ : MethodName) jdk_42_method_151_code 3 none :: ws) orm4 #[(.ref a), (.ref vb), (.int 0)] Z h0 (QSb Z a vb h0 n0) := by
  refine MetFree.of_bodySF (plainFor_of_name pn1) hisR ?_
  intro p e s m args below meth c s₁ Bd hml0 hP hK
  obtain ⟨rfl, hZ, hh⟩ := hP
  have hml : c.maxLocals = 3 := hml0
  have hnm := (name_of_methodNamed Bd.named Bd.method).1
  obtain ⟨hx, hby, hlk, hret, (hown : s.vm.findClass "java/lang/String" = _), (X0 : Stand p l e orm4 s m _ below meth c s₁ [] 0 0), e0⟩ := own_bg Bd hh
  have N0 := Fr.nil n0
  show Dn p e below s (QSb Z a vb h0 n0) orm4.cells orm4.slots (s₁.setTop (entryFrame m #[(.ref a), (.ref vb), (.int 0)] 3))
  refine Dn.st (fun _ kk => castTop (ef4_rmSb m a vb (0 : Int32)) kk) ?_
  refine Dn.st (fun _ kk => XS.aloadN X0.here hx rfl (hb hby d4_0) rfl rfl (kk)) ?_
  show Dn p e below s _ _ _ (s₁.setTop (mkF m 1 #[vr a, vr vb, vi 0] [(.ref a)]))
  obtain ⟨T1, X1, e1, st1⟩ := initO X0 hx hZ hown (tw hw 20 rfl) (tw hw 21 rfl) (tw hw 22 rfl) e0 (g := (mkF m 1 #[vr a, vr vb, vi 0] [(.ref a)])) rfl (by rw [hml]; rfl) rfl (hb hby d4_1) (by decide) (W := 0) (by show 2 * 0 + _ ≤ _; exact Nat.le_of_eq rfl) (by decide)
  refine Dn.st st1 ?_
  refine Dn.st (fun _ kk => XS.aloadN X1.here hx rfl (hb hby d4_4) rfl rfl (XS.aloadN X1.here hx rfl (hb hby d4_5) rfl rfl (kk))) ?_
  show Dn p e below s _ _ _ (T1.setTop (mkF m 6 #[vr a, vr vb, vi 0] [(.ref vb), (.ref a)]))
  obtain ⟨T6, h6, X6, e6, W6, st6⟩ := putF X1 hx hZ hown (host := "") (Or.inl (tw hw 23 rfl)) Via.refl e1 F1 Ea (Or.inr ⟨(tw hw 24 rfl), rfl, hnm⟩) (tw hw 11 rfl) (ty := (.array .byte)) (by decide) rfl rfl (g := (mkF m 6 #[vr a, vr vb, vi 0] [(.ref vb), (.ref a)])) rfl rfl (hb hby d4_6)
  have E_a_6 := Ea.wr W6
  have F_a_coder_6 := F0.other W6 (Or.inr (slot_ne (Or.inr (tw hw 26 rfl)) (Or.inr (tw hw 24 rfl)) (by decide) (t := .byte) (t' := (.array .byte)) (by decide) (by decide)))
  have F_a_value_6 := F1.same W6
  have K6 := (Keep.refl h0 [a]).wr W6 (Or.inl (List.mem_of_getElem? (i := 0) rfl))
  have N6 := Fr.snoc X6 N0 ga
  have Z6 : n0 ≤ h6.size := Nat.le_trans Z0 (Keep.of_wr W6).1
  refine Dn.st st6 ?_
  refine Dn.st (fun _ kk => XS.aloadN X6.here hx rfl (hb hby d4_9) rfl rfl (XS.iloadN X6.here hx rfl (hb hby d4_10) rfl (kk))) ?_
  show Dn p e below s _ _ _ (T6.setTop (mkF m 11 #[vr a, vr vb, vi 0] [(.int 0), (.ref a)]))
  obtain ⟨T11, h11, X11, e11, W11, st11⟩ := putF X6 hx hZ hown (host := "") (Or.inl (tw hw 25 rfl)) Via.refl e6 F_a_coder_6 E_a_6 (Or.inr ⟨(tw hw 26 rfl), rfl, hnm⟩) (tw hw 11 rfl) (ty := .byte) (by decide) rfl rfl (g := (mkF m 11 #[vr a, vr vb, vi 0] [(.int 0), (.ref a)])) rfl rfl (hb hby d4_11)
  have E_a_11 := E_a_6.wr W11
  have F_a_value_11 := F_a_value_6.other W11 (Or.inr (slot_ne (Or.inr (tw hw 24 rfl)) (Or.inr (tw hw 26 rfl)) (by decide) (t := (.array .byte)) (t' := .byte) (by decide) (by decide)))
  have F_a_coder_11 := F_a_coder_6.same W11
  have K11 := K6.wr W11 (Or.inl (List.mem_of_getElem? (i := 0) rfl))
  have N11 := Fr.snoc X11 N6 ga
  have Z11 : n0 ≤ h11.size := Nat.le_trans Z6 (Keep.of_wr W11).1
  refine Dn.st st11 ?_
  exact Dn.ret0 X11 hlk hx hret (hb hby d4_14) (by rw [e11]; exact ⟨rfl, N11, K11⟩) (by decide) (by decide)

theorem d1_0 : decode jdk_42_method_139_code 0 = .ok (.getstatic 38, 3) := by decide +kernel
theorem d1_3 : decode jdk_42_method_139_code 3 = .ok (.ifCond .eq 23, 3) := by decide +kernel
theorem d1_6 : decode jdk_42_method_139_code 6 = .ok (.iload_n 0, 1) := by decide +kernel
theorem d1_7 : decode jdk_42_method_139_code 7 = .ok (.invokestatic 1015, 3) := by decide +kernel
theorem d1_10 : decode jdk_42_method_139_code 10 = .ok (.ifCond .eq 16, 3) := by decide +kernel
theorem d1_13 : decode jdk_42_method_139_code 13 = .ok (.new 10, 3) := by decide +kernel
theorem d1_16 : decode jdk_42_method_139_code 16 = .ok (.dup, 1) := by decide +kernel
theorem d1_17 : decode jdk_42_method_139_code 17 = .ok (.iload_n 0, 1) := by decide +kernel
theorem d1_18 : decode jdk_42_method_139_code 18 = .ok (.invokestatic 1018, 3) := by decide +kernel
theorem d1_21 : decode jdk_42_method_139_code 21 = .ok (.iconst 0, 1) := by decide +kernel
theorem d1_22 : decode jdk_42_method_139_code 22 = .ok (.invokespecial 209, 3) := by decide +kernel
theorem d1_25 : decode jdk_42_method_139_code 25 = .ok (.areturn, 1) := by decide +kernel
theorem pd0 : parseMethodDescriptor "(C)Z" = some ⟨[.char], some .boolean⟩ := by decide +kernel
theorem pd1 : parseMethodDescriptor "(C)[B" = some ⟨[.char], some (.array .byte)⟩ := by decide +kernel
theorem pd2 : parseMethodDescriptor "([BB)V" = some ⟨[(.array .byte), .byte], none⟩ := by decide +kernel
theorem ef1_rmVc (m : MethodId) (x0 : Int32) : entryFrame m #[(.int x0)] 1 = mkF m 0 #[vi x0] [] := by first | (simp [entryFrame, mkF, argsToLocals, Value.category]; done) | rfl
def QVc (Z : State) (cc : Int32) (cs : Int32) (h0 : Heap) (n0 : Nat) (v : Option Value) (h : Heap) (L : List Loc) : Prop := ∃ r : Addr, v = some (.ref r) ∧ h0.size ≤ r ∧ Fr n0 L ∧ Keep h0 h []
theorem rmVc (l : Launch) (Z : State) (a0 : Array Value) (hw : ∀ d ∈ tables_1, d.before a0 Z = true) (ws : List Jvm.Cond) (cc : Int32) (cs : Int32) (h0 : Heap) (n0 : Nat) (Z0 : n0 ≤ h0.size) (hcc : ¬ (255 : Int32) < cc) (hS : Sta Z h0 "java/lang/String" "COMPACT_STRINGS" "Z" (.int cs)) (hcs : ¬ cs = 0) :
    own_Met l (⟨"java/lang/String", "valueOf", "(C)Ljava/lang/String;"⟩ : MethodName) (Jvm.Cond.code (⟨"java/lang/String", "valueOf", "(C)Ljava/lang/String;"⟩ : MethodName) jdk_42_method_139_code 1 (some (.object "java/lang/String")) :: ws) orm7 #[(.int cc)] Z h0 (QVc Z cc cs h0 n0) := by
  refine MetFree.of_bodySF (plainFor_of_name pn1) hisR ?_
  intro p e s m args below meth c s₁ Bd hml0 hP hK
  obtain ⟨rfl, hZ, hh⟩ := hP
  have hml : c.maxLocals = 1 := hml0
  obtain ⟨hx, hby, hlk, hret, (hown : s.vm.findClass "java/lang/String" = _), (X0 : Stand p l e orm7 s m _ below meth c s₁ [] 0 0), e0⟩ := own_bg Bd hh
  have N0 := Fr.nil n0
  show Dn p e below s (QVc Z cc cs h0 n0) orm7.cells orm7.slots (s₁.setTop (entryFrame m #[(.int cc)] 1))
  refine Dn.st (fun _ kk => castTop (ef1_rmVc m cc) kk) ?_
  obtain ⟨T0z, X0z, e0z, st0z⟩ := getS2 X0 hx hZ hown (host := "") (Or.inl (tw hw 5 rfl)) Via.refl e0 hS (g := (mkF m 0 #[vi cc] [])) rfl (hb hby d1_0)
  refine Dn.st st0z ?_
  have hc3 : ¬ (cs = (0 : Int32)) := hcs
  refine Dn.st (fun _ kk => XS.ifNo X0z.here hx rfl (hb hby d1_3) rfl ((if0 _ _).trans (feq hc3).1) (XS.iloadN X0z.here hx rfl (hb hby d1_6) rfl (kk))) ?_
  show Dn p e below s _ _ _ (T0z.setTop (mkF m 7 #[vi cc] [(.int cc)]))
  obtain ⟨_, T7, Lc7, X7, hQ7, st7⟩ := own_cs X0z hx hZ hown (rmCe l Z a0 hw [] cc  h0 n0 Z0 hcc) (tw hw 6 rfl) (tw hw 7 rfl) (tw hw 8 rfl) (tw hw 9 rfl) e0z (g := (mkF m 7 #[vi cc] [(.int cc)])) (hb hby d1_7) (W := 0) (argsL := [(.int cc)]) (rest := []) (lenOf pd0 rfl) rfl (by rw [hml]; rfl) rfl rfl (Nat.le_of_eq rfl) (by decide) (by decide) (by decide) (by decide) (by decide)
  obtain ⟨rfl, Nq7, hh7⟩ := hQ7
  have N7 := Fr.app N0 Nq7
  refine Dn.st st7 ?_
  have hc10 : ¬ ((1 : Int32) = (0 : Int32)) := by decide
  refine Dn.st (fun _ kk => XS.ifNo X7.here hx rfl (hb hby d1_10) rfl ((if0 _ _).trans (feq hc10).1) (kk)) ?_
  show Dn p e below s _ _ _ (T7.setTop (mkF m 13 #[vi cc] []))
  obtain ⟨T13, h13, X13, e13, E13, A13, D13, -, st13⟩ := newO X7 hx hZ hown (tw hw 10 rfl) (tw hw 11 rfl) (tw hw 3 rfl) hh7 (g := (mkF m 13 #[vi cc] [])) rfl (hb hby d1_13) (by decide) (by decide)
  obtain ⟨b13, g13⟩ : ∃ z, z = h0.size := ⟨_, rfl⟩
  rw [← g13] at A13 D13 st13
  have gz_b13 : h0.size ≤ b13 := Nat.le_trans (Keep.refl h0 []).1 (Nat.le_of_eq g13.symm)
  have S_String_COMPACT_STRINGS_13 := hS.ext E13
  have K13 := (Keep.refl h0 []).ext E13
  have gn_b13 : n0 ≤ b13 := Nat.le_trans Z0 (Nat.le_of_eq g13.symm)
  have Z13 : n0 ≤ h13.size := Nat.le_trans Z0 E13.1
  have F_b13_value : Fld Z h13 b13 "java/lang/String" "value" "[B" .null := D13 (Or.inr (tw hw 24 rfl)) (ty := (.array .byte)) (by decide)
  have F_b13_coder : Fld Z h13 b13 "java/lang/String" "coder" "B" (.int 0) := D13 (Or.inr (tw hw 26 rfl)) (ty := .byte) (by decide)
  refine Dn.st st13 ?_
  refine Dn.st (fun _ kk => XS.dup X13.here hx rfl (hb hby d1_16) rfl rfl (XS.iloadN X13.here hx rfl (hb hby d1_17) rfl (kk))) ?_
  show Dn p e below s _ _ _ (T13.setTop (mkF m 18 #[vi cc] [(.int cc), (.ref b13), (.ref b13)]))
  obtain ⟨_, T18, Lc18, X18, hQ18, st18⟩ := own_cs X13 hx hZ hown (rmTb l Z a0 hw [] cc  h13 n0 Z13 ) (tw hw 12 rfl) (tw hw 13 rfl) (tw hw 8 rfl) (tw hw 14 rfl) e13 (g := (mkF m 18 #[vi cc] [(.int cc), (.ref b13), (.ref b13)])) (hb hby d1_18) (W := 2) (argsL := [(.int cc)]) (rest := [(.ref b13), (.ref b13)]) (lenOf pd1 rfl) rfl (by rw [hml]; rfl) rfl rfl (Nat.le_of_eq rfl) (by decide) (by decide) (by decide) (by decide) (by decide)
  obtain ⟨bb18, rfl, gz18, Nq18, K18⟩ := hQ18
  have N18 := Fr.app N7 Nq18
  refine Dn.st st18 ?_
  have ne_b13_bb18 : b13 ≠ bb18 := Nat.ne_of_lt (Nat.lt_of_lt_of_le A13.lt gz18)
  have gn_bb18 : n0 ≤ bb18 := Nat.le_trans Z13 gz18
  have gz_bb18 : h0.size ≤ bb18 := Nat.le_trans K13.1 gz18
  have E_b13_18 := A13.keep K18
  have F_b13_value_18 := F_b13_value.keep K18 nin0
  have F_b13_coder_18 := F_b13_coder.keep K18 nin0
  have Kt18 := Keep.trans K13 K18 (by simp)
  have Z18 : n0 ≤ T18.heap.size := Nat.le_trans Z13 K18.1
  refine Dn.st (fun _ kk => XS.iconst X18.here hx rfl (hb hby d1_21) (kk)) ?_
  show Dn p e below s _ _ _ (T18.setTop (mkF m 22 #[vi cc] [(.int 0), (.ref bb18), (.ref b13), (.ref b13)]))
  obtain ⟨_, T22, Lc22, X22, hQ22, st22⟩ := own_ci X18 hx hZ hown (rmSb l Z a0 hw [] b13 bb18 T18.heap n0 Z18 gn_b13 E_b13_18 F_b13_coder_18 F_b13_value_18) (tw hw 16 rfl) (tw hw 17 rfl) (tw hw 3 rfl) (tw hw 19 rfl) rfl (g := (mkF m 22 #[vi cc] [(.int 0), (.ref bb18), (.ref b13), (.ref b13)])) (hb hby d1_22) (W := 1) (argsL := [(.ref bb18), (.int 0)]) (rest := [(.ref b13)]) (lenOf pd2 rfl) rfl (by rw [hml]; rfl) rfl rfl (Nat.le_of_eq rfl) rfl (by decide) (by decide) (by decide) (by decide) (by decide)
  obtain ⟨rfl, Nq22, K22⟩ := hQ22
  have N22 := Fr.app N18 Nq22
  refine Dn.tr st22 ?_
  have Kt22 := Keep.trans Kt18 K22 (fun x hx => Or.inr ((List.mem_singleton.mp hx) ▸ gz_b13))
  have Z22 : n0 ≤ T22.heap.size := Nat.le_trans Z18 K22.1
  exact Dn.ret X22 hlk hx hret rfl (Or.inr (Or.inr (Or.inr (Or.inr ⟨rfl, rfl, rfl⟩)))) (hb hby d1_25) ⟨b13, rfl, gz_b13, N22, Kt22⟩ (by decide) (by decide)

theorem d8_0 : decode jdk_71_method_1_code 0 = .ok (.aload_n 0, 1) := by decide +kernel
theorem d8_1 : decode jdk_71_method_1_code 1 = .ok (.invokespecial 1, 3) := by decide +kernel
theorem d8_4 : decode jdk_71_method_1_code 4 = .ok (.return_, 1) := by decide +kernel
theorem pn2 : plainName "java/util/AbstractMap" = true := by first | (simp [plainName, overriddenIn]; done) | decide +kernel
theorem ef8_rmAm (m : MethodId) (x0 : Addr) : entryFrame m #[(.ref x0)] 1 = mkF m 0 #[vr x0] [] := by first | (simp [entryFrame, mkF, argsToLocals, Value.category]; done) | rfl
def QAm (Z : State) (a : Addr) (h0 : Heap) (n0 : Nat) (v : Option Value) (h : Heap) (L : List Loc) : Prop := v = none ∧ Fr n0 L ∧ h = h0
theorem rmAm (l : Launch) (Z : State) (a0 : Array Value) (hw : ∀ d ∈ tables_1, d.before a0 Z = true) (ws : List Jvm.Cond) (a : Addr) (h0 : Heap) (n0 : Nat) (Z0 : n0 ≤ h0.size) :
    own_Met l (⟨"java/util/AbstractMap", "<init>", "()V"⟩ : MethodName) (Jvm.Cond.code (⟨"java/util/AbstractMap", "<init>", "()V"⟩ : MethodName) jdk_71_method_1_code 1 none :: ws) orm4 #[(.ref a)] Z h0 (QAm Z a h0 n0) := by
  refine MetFree.of_bodySF (plainFor_of_name pn2) hisR ?_
  intro p e s m args below meth c s₁ Bd hml0 hP hK
  obtain ⟨rfl, hZ, hh⟩ := hP
  have hml : c.maxLocals = 1 := hml0
  obtain ⟨hx, hby, hlk, hret, (hown : s.vm.findClass "java/util/AbstractMap" = _), (X0 : Stand p l e orm4 s m _ below meth c s₁ [] 0 0), e0⟩ := own_bg Bd hh
  have N0 := Fr.nil n0
  show Dn p e below s (QAm Z a h0 n0) orm4.cells orm4.slots (s₁.setTop (entryFrame m #[(.ref a)] 1))
  refine Dn.st (fun _ kk => castTop (ef8_rmAm m a) kk) ?_
  refine Dn.st (fun _ kk => XS.aloadN X0.here hx rfl (hb hby d8_0) rfl rfl (kk)) ?_
  show Dn p e below s _ _ _ (s₁.setTop (mkF m 1 #[vr a] [(.ref a)]))
  obtain ⟨T1, X1, e1, st1⟩ := initO X0 hx hZ hown (tw hw 46 rfl) (tw hw 21 rfl) (tw hw 22 rfl) e0 (g := (mkF m 1 #[vr a] [(.ref a)])) rfl (by rw [hml]; rfl) rfl (hb hby d8_1) (by decide) (W := 0) (by show 2 * 0 + _ ≤ _; exact Nat.le_of_eq rfl) (by decide)
  refine Dn.st st1 ?_
  exact Dn.ret0 X1 hlk hx hret (hb hby d8_4) (by rw [e1]; exact ⟨rfl, N0, rfl⟩) (by decide) (by decide)

theorem d7_0 : decode jdk_69_method_7_code 0 = .ok (.aload_n 0, 1) := by decide +kernel
theorem d7_1 : decode jdk_69_method_7_code 1 = .ok (.invokespecial 43, 3) := by decide +kernel
theorem d7_4 : decode jdk_69_method_7_code 4 = .ok (.aload_n 0, 1) := by decide +kernel
theorem d7_5 : decode jdk_69_method_7_code 5 = .ok (.ldc 92, 2) := by decide +kernel
theorem d7_7 : decode jdk_69_method_7_code 7 = .ok (.putfield 81, 3) := by decide +kernel
theorem d7_10 : decode jdk_69_method_7_code 10 = .ok (.return_, 1) := by decide +kernel
theorem pd3 : parseMethodDescriptor "()V" = some ⟨[], none⟩ := by decide +kernel
theorem pn3 : plainName "java/util/HashMap" = true := by first | (simp [plainName, overriddenIn]; done) | decide +kernel
theorem ef7_rmHi (m : MethodId) (x0 : Addr) : entryFrame m #[(.ref x0)] 1 = mkF m 0 #[vr x0] [] := by first | (simp [entryFrame, mkF, argsToLocals, Value.category]; done) | rfl
def QHi (Z : State) (a : Addr) (h0 : Heap) (n0 : Nat) (v : Option Value) (h : Heap) (L : List Loc) : Prop := v = none ∧ Fr n0 L ∧ Keep h0 h [a] ∧ own_HM Z h a
theorem rmHi (l : Launch) (Z : State) (a0 : Array Value) (hw : ∀ d ∈ tables_1, d.before a0 Z = true) (ws : List Jvm.Cond) (a : Addr) (h0 : Heap) (n0 : Nat) (Z0 : n0 ≤ h0.size) (ga : n0 ≤ a) (Ea : Exa Z h0 a "java/util/HashMap") (F0 : Fld Z h0 a "java/util/HashMap" "table" "[Ljava/util/HashMap$Node;" .null) (F1 : Fld Z h0 a "java/util/HashMap" "size" "I" (.int 0)) (F2 : Fld Z h0 a "java/util/HashMap" "loadFactor" "F" (.float 0)) :
    own_Met l (⟨"java/util/HashMap", "<init>", "()V"⟩ : MethodName) (Jvm.Cond.code (⟨"java/util/HashMap", "<init>", "()V"⟩ : MethodName) jdk_69_method_7_code 1 none :: ws) orm6 #[(.ref a)] Z h0 (QHi Z a h0 n0) := by
  refine MetFree.of_bodySF (plainFor_of_name pn3) hisR ?_
  intro p e s m args below meth c s₁ Bd hml0 hP hK
  obtain ⟨rfl, hZ, hh⟩ := hP
  have hml : c.maxLocals = 1 := hml0
  have hnm := (name_of_methodNamed Bd.named Bd.method).1
  obtain ⟨hx, hby, hlk, hret, (hown : s.vm.findClass "java/util/HashMap" = _), (X0 : Stand p l e orm6 s m _ below meth c s₁ [] 0 0), e0⟩ := own_bg Bd hh
  have N0 := Fr.nil n0
  show Dn p e below s (QHi Z a h0 n0) orm6.cells orm6.slots (s₁.setTop (entryFrame m #[(.ref a)] 1))
  refine Dn.st (fun _ kk => castTop (ef7_rmHi m a) kk) ?_
  refine Dn.st (fun _ kk => XS.aloadN X0.here hx rfl (hb hby d7_0) rfl rfl (kk)) ?_
  show Dn p e below s _ _ _ (s₁.setTop (mkF m 1 #[vr a] [(.ref a)]))
  obtain ⟨_, T1, Lc1, X1, hQ1, st1⟩ := own_ci X0 hx hZ hown (rmAm l Z a0 hw [] a  h0 n0 Z0 ) (tw hw 40 rfl) (tw hw 41 rfl) (tw hw 44 rfl) (tw hw 45 rfl) e0 (g := (mkF m 1 #[vr a] [(.ref a)])) (hb hby d7_1) (W := 0) (argsL := []) (rest := []) (lenOf pd3 rfl) rfl (by rw [hml]; rfl) rfl rfl (Nat.le_of_eq rfl) rfl (by decide) (by decide) (by decide) (by decide) (by decide)
  obtain ⟨rfl, Nq1, hh1⟩ := hQ1
  have N1 := Fr.app N0 Nq1
  refine Dn.tr st1 ?_
  refine Dn.st (fun _ kk => XS.aloadN X1.here hx rfl (hb hby d7_4) rfl rfl (X1.ldcFloatC hx hown (mvT hZ (tw hw 47 rfl)) (g := (mkF m 5 #[vr a] [(.ref a)])) rfl (hb hby d7_5) _ (kk))) ?_
  show Dn p e below s _ _ _ (T1.setTop (mkF m 7 #[vr a] [(.float (1061158912 : UInt32)), (.ref a)]))
  obtain ⟨T7, h7, X7, e7, W7, st7⟩ := putF X1 hx hZ hown (host := "") (Or.inl (tw hw 48 rfl)) Via.refl hh1 F2 Ea (Or.inr ⟨(tw hw 49 rfl), rfl, hnm⟩) (tw hw 35 rfl) (ty := .float) (by decide) rfl rfl (g := (mkF m 7 #[vr a] [(.float (1061158912 : UInt32)), (.ref a)])) rfl rfl (hb hby d7_7)
  have E_a_7 := Ea.wr W7
  have F_a_table_7 := F0.other W7 (Or.inr (slot_ne (Or.inl (tw hw 84 rfl)) (Or.inr (tw hw 49 rfl)) (by decide) (t := (.array (.object "java/util/HashMap$Node"))) (t' := .float) (by decide) (by decide)))
  have F_a_size_7 := F1.other W7 (Or.inr (slot_ne (Or.inl (tw hw 118 rfl)) (Or.inr (tw hw 49 rfl)) (by decide) (t := .int) (t' := .float) (by decide) (by decide)))
  have F_a_loadFactor_7 := F2.same W7
  have K7 := (Keep.refl h0 [a]).wr W7 (Or.inl (List.mem_of_getElem? (i := 0) rfl))
  have N7 := Fr.snoc X7 N1 ga
  have Z7 : n0 ≤ h7.size := Nat.le_trans Z0 (Keep.of_wr W7).1
  refine Dn.st st7 ?_
  exact Dn.ret0 X7 hlk hx hret (hb hby d7_10) (by rw [e7]; exact ⟨rfl, N7, K7, E_a_7, F_a_table_7, F_a_size_7⟩) (by decide) (by decide)

theorem d11_0 : decode jdk_69_method_13_code 0 = .ok (.aload_n 0, 1) := by decide +kernel
theorem d11_1 : decode jdk_69_method_13_code 1 = .ok (.getfield 105, 3) := by decide +kernel
theorem d11_4 : decode jdk_69_method_13_code 4 = .ok (.dup, 1) := by decide +kernel
theorem d11_5 : decode jdk_69_method_13_code 5 = .ok (.astore_n 2, 1) := by decide +kernel
theorem d11_6 : decode jdk_69_method_13_code 6 = .ok (.ifnull 142, 3) := by decide +kernel
theorem d11_148 : decode jdk_69_method_13_code 148 = .ok (.aconst_null, 1) := by decide +kernel
theorem d11_149 : decode jdk_69_method_13_code 149 = .ok (.areturn, 1) := by decide +kernel
theorem ef11_rmGn (m : MethodId) (x0 : Addr) (x1 : Addr) : entryFrame m #[(.ref x0), (.ref x1)] 8 = mkF m 0 #[vr x0, vr x1, .unset, .unset, .unset, .unset, .unset, .unset] [] := by first | (simp [entryFrame, mkF, argsToLocals, Value.category]; done) | rfl
def QGn (Z : State) (a : Addr) (ky : Addr) (h0 : Heap) (n0 : Nat) (v : Option Value) (h : Heap) (L : List Loc) : Prop := v = some .null ∧ Fr n0 L ∧ h = h0
theorem rmGn (l : Launch) (Z : State) (a0 : Array Value) (hw : ∀ d ∈ tables_1, d.before a0 Z = true) (ws : List Jvm.Cond) (a : Addr) (ky : Addr) (h0 : Heap) (n0 : Nat) (Z0 : n0 ≤ h0.size) (hM : own_HM Z h0 a) :
    own_Met l (⟨"java/util/HashMap", "getNode", "(Ljava/lang/Object;)Ljava/util/HashMap$Node;"⟩ : MethodName) (Jvm.Cond.code (⟨"java/util/HashMap", "getNode", "(Ljava/lang/Object;)Ljava/util/HashMap$Node;"⟩ : MethodName) jdk_69_method_13_code 8 (some (.object "java/util/HashMap$Node")) :: ws) orm3 #[(.ref a), (.ref ky)] Z h0 (QGn Z a ky h0 n0) := by
  refine MetFree.of_bodySF (plainFor_of_name pn3) hisR ?_
  intro p e s m args below meth c s₁ Bd hml0 hP hK
  obtain ⟨rfl, hZ, hh⟩ := hP
  have hml : c.maxLocals = 8 := hml0
  obtain ⟨hx, hby, hlk, hret, (hown : s.vm.findClass "java/util/HashMap" = _), (X0 : Stand p l e orm3 s m _ below meth c s₁ [] 0 0), e0⟩ := own_bg Bd hh
  have N0 := Fr.nil n0
  show Dn p e below s (QGn Z a ky h0 n0) orm3.cells orm3.slots (s₁.setTop (entryFrame m #[(.ref a), (.ref ky)] 8))
  refine Dn.st (fun _ kk => castTop (ef11_rmGn m a ky) kk) ?_
  refine Dn.st (fun _ kk => XS.aloadN X0.here hx rfl (hb hby d11_0) rfl rfl (kk)) ?_
  show Dn p e below s _ _ _ (s₁.setTop (mkF m 1 #[vr a, vr ky, .unset, .unset, .unset, .unset, .unset, .unset] [(.ref a)]))
  obtain ⟨T1, X1, e1, st1⟩ := getF X0 hx hZ hown (host := "") (Or.inl (tw hw 83 rfl)) Via.refl e0 hM.2.1 (g := (mkF m 1 #[vr a, vr ky, .unset, .unset, .unset, .unset, .unset, .unset] [(.ref a)])) rfl rfl (hb hby d11_1)
  refine Dn.st st1 ?_
  refine Dn.st (fun _ kk => XS.dup X1.here hx rfl (hb hby d11_4) rfl rfl (XS.astoreN X1.here hx rfl (hb hby d11_5) rfl rfl (l' := #[vr a, vr ky, .val .null, .unset, .unset, .unset, .unset, .unset]) rfl (XS.ifnullYes X1.here hx rfl (pc0 := 6) (pc' := 148) rfl (hb hby d11_6) rfl (by decide) (by decide) (XS.aconstNull X1.here hx rfl (hb hby d11_148) (kk))))) ?_
  show Dn p e below s _ _ _ (T1.setTop (mkF m 149 #[vr a, vr ky, .val .null, .unset, .unset, .unset, .unset, .unset] [.null]))
  exact Dn.ret X1 hlk hx hret rfl (Or.inr (Or.inr (Or.inr (Or.inr ⟨rfl, rfl, rfl⟩)))) (hb hby d11_149) (by rw [e1]; exact ⟨rfl, N0, rfl⟩) (by decide) (by decide)

theorem d10_0 : decode jdk_69_method_36_code 0 = .ok (.aload_n 2, 1) := by decide +kernel
theorem d10_1 : decode jdk_69_method_36_code 1 = .ok (.ifnonnull 11, 3) := by decide +kernel
theorem d10_12 : decode jdk_69_method_36_code 12 = .ok (.aload_n 0, 1) := by decide +kernel
theorem d10_13 : decode jdk_69_method_36_code 13 = .ok (.aload_n 1, 1) := by decide +kernel
theorem d10_14 : decode jdk_69_method_36_code 14 = .ok (.invokevirtual 158, 3) := by decide +kernel
theorem d10_17 : decode jdk_69_method_36_code 17 = .ok (.dup, 1) := by decide +kernel
theorem d10_18 : decode jdk_69_method_36_code 18 = .ok (.astore_n 3, 1) := by decide +kernel
theorem d10_19 : decode jdk_69_method_36_code 19 = .ok (.ifnull 83, 3) := by decide +kernel
theorem d10_102 : decode jdk_69_method_36_code 102 = .ok (.aconst_null, 1) := by decide +kernel
theorem d10_103 : decode jdk_69_method_36_code 103 = .ok (.areturn, 1) := by decide +kernel
theorem pd4 : parseMethodDescriptor "(Ljava/lang/Object;)Ljava/util/HashMap$Node;" = some ⟨[(.object "java/lang/Object")], some (.object "java/util/HashMap$Node")⟩ := by decide +kernel
theorem ef10_rmCp (m : MethodId) (x0 : Addr) (x1 : Addr) (x2 : Addr) : entryFrame m #[(.ref x0), (.ref x1), (.ref x2)] 8 = mkF m 0 #[vr x0, vr x1, vr x2, .unset, .unset, .unset, .unset, .unset] [] := by first | (simp [entryFrame, mkF, argsToLocals, Value.category]; done) | rfl
def QCp (Z : State) (a : Addr) (ky : Addr) (fo : Addr) (h0 : Heap) (n0 : Nat) (v : Option Value) (h : Heap) (L : List Loc) : Prop := v = some .null ∧ Fr n0 L ∧ h = h0
theorem rmCp (l : Launch) (Z : State) (a0 : Array Value) (hw : ∀ d ∈ tables_1, d.before a0 Z = true) (ws : List Jvm.Cond) (a : Addr) (ky : Addr) (fo : Addr) (h0 : Heap) (n0 : Nat) (Z0 : n0 ≤ h0.size) (hM : own_HM Z h0 a) :
    own_Met l on2 (Jvm.Cond.code on2 jdk_69_method_36_code 8 (some (.object "java/lang/Object")) :: ws) orm5 #[(.ref a), (.ref ky), (.ref fo)] Z h0 (QCp Z a ky fo h0 n0) := by
  refine MetFree.of_bodySF (plainFor_of_name pn3) hisR ?_
  intro p e s m args below meth c s₁ Bd hml0 hP hK
  obtain ⟨rfl, hZ, hh⟩ := hP
  have hml : c.maxLocals = 8 := hml0
  obtain ⟨hx, hby, hlk, hret, (hown : s.vm.findClass "java/util/HashMap" = _), (X0 : Stand p l e orm5 s m _ below meth c s₁ [] 0 0), e0⟩ := own_bg Bd hh
  have N0 := Fr.nil n0
  show Dn p e below s (QCp Z a ky fo h0 n0) orm5.cells orm5.slots (s₁.setTop (entryFrame m #[(.ref a), (.ref ky), (.ref fo)] 8))
  refine Dn.st (fun _ kk => castTop (ef10_rmCp m a ky fo) kk) ?_
  refine Dn.st (fun _ kk => XS.aloadN X0.here hx rfl (hb hby d10_0) rfl rfl (XS.ifnonnullYes X0.here hx rfl (pc0 := 1) (pc' := 12) rfl (hb hby d10_1) rfl (by decide) (by decide) (XS.aloadN X0.here hx rfl (hb hby d10_12) rfl rfl (XS.aloadN X0.here hx rfl (hb hby d10_13) rfl rfl (kk))))) ?_
  show Dn p e below s _ _ _ (s₁.setTop (mkF m 14 #[vr a, vr ky, vr fo, .unset, .unset, .unset, .unset, .unset] [(.ref ky), (.ref a)]))
  obtain ⟨_, T14, Lc14, X14, hQ14, st14⟩ := own_cv X0 hx hZ hown (rmGn l Z a0 hw [] a ky  h0 n0 Z0 hM) (tw hw 78 rfl) (tw hw 79 rfl) (tw hw 81 rfl) (tw hw 80 rfl) (tw hw 36 rfl) (tw hw 82 rfl) e0 hM.1 (g := (mkF m 14 #[vr a, vr ky, vr fo, .unset, .unset, .unset, .unset, .unset] [(.ref ky), (.ref a)])) (hb hby d10_14) (W := 0) (argsL := [(.ref ky)]) (rest := []) (lenOf pd4 rfl) rfl (by rw [hml]; rfl) rfl rfl (Nat.le_of_eq rfl) (by decide) (by decide) (by decide) (by decide) (by decide)
  obtain ⟨rfl, Nq14, hh14⟩ := hQ14
  have N14 := Fr.app N0 Nq14
  refine Dn.tr st14 ?_
  refine Dn.st (fun _ kk => XS.dup X14.here hx rfl (hb hby d10_17) rfl rfl (XS.astoreN X14.here hx rfl (hb hby d10_18) rfl rfl (l' := #[vr a, vr ky, vr fo, .val .null, .unset, .unset, .unset, .unset]) rfl (XS.ifnullYes X14.here hx rfl (pc0 := 19) (pc' := 102) rfl (hb hby d10_19) rfl (by decide) (by decide) (XS.aconstNull X14.here hx rfl (hb hby d10_102) (kk))))) ?_
  show Dn p e below s _ _ _ (T14.setTop (mkF m 103 #[vr a, vr ky, vr fo, .val .null, .unset, .unset, .unset, .unset] [.null]))
  exact Dn.ret X14 hlk hx hret rfl (Or.inr (Or.inr (Or.inr (Or.inr ⟨rfl, rfl, rfl⟩)))) (hb hby d10_103) (by rw [hh14]; exact ⟨rfl, N14, rfl⟩) (by decide) (by decide)

theorem d15_0 : decode jdk_69_method_40_code 0 = .ok (.aload_n 1, 1) := by decide +kernel
theorem d15_1 : decode jdk_69_method_40_code 1 = .ok (.ifnonnull 11, 3) := by decide +kernel
theorem d15_12 : decode jdk_69_method_40_code 12 = .ok (.aload_n 0, 1) := by decide +kernel
theorem d15_13 : decode jdk_69_method_40_code 13 = .ok (.getfield 156, 3) := by decide +kernel
theorem d15_16 : decode jdk_69_method_40_code 16 = .ok (.ifCond .le 100, 3) := by decide +kernel
theorem d15_116 : decode jdk_69_method_40_code 116 = .ok (.return_, 1) := by decide +kernel
theorem ef15_rmRa (m : MethodId) (x0 : Addr) (x1 : Addr) : entryFrame m #[(.ref x0), (.ref x1)] 8 = mkF m 0 #[vr x0, vr x1, .unset, .unset, .unset, .unset, .unset, .unset] [] := by first | (simp [entryFrame, mkF, argsToLocals, Value.category]; done) | rfl
def QRa (Z : State) (a : Addr) (fo : Addr) (h0 : Heap) (n0 : Nat) (v : Option Value) (h : Heap) (L : List Loc) : Prop := v = none ∧ Fr n0 L ∧ h = h0
theorem rmRa (l : Launch) (Z : State) (a0 : Array Value) (hw : ∀ d ∈ tables_1, d.before a0 Z = true) (ws : List Jvm.Cond) (a : Addr) (fo : Addr) (h0 : Heap) (n0 : Nat) (Z0 : n0 ≤ h0.size) (hM : own_HM Z h0 a) :
    own_Met l on1 (Jvm.Cond.code on1 jdk_69_method_40_code 8 none :: ws) orm3 #[(.ref a), (.ref fo)] Z h0 (QRa Z a fo h0 n0) := by
  refine MetFree.of_bodySF (plainFor_of_name pn3) hisR ?_
  intro p e s m args below meth c s₁ Bd hml0 hP hK
  obtain ⟨rfl, hZ, hh⟩ := hP
  have hml : c.maxLocals = 8 := hml0
  obtain ⟨hx, hby, hlk, hret, (hown : s.vm.findClass "java/util/HashMap" = _), (X0 : Stand p l e orm3 s m _ below meth c s₁ [] 0 0), e0⟩ := own_bg Bd hh
  have N0 := Fr.nil n0
  show Dn p e below s (QRa Z a fo h0 n0) orm3.cells orm3.slots (s₁.setTop (entryFrame m #[(.ref a), (.ref fo)] 8))
  refine Dn.st (fun _ kk => castTop (ef15_rmRa m a fo) kk) ?_
  refine Dn.st (fun _ kk => XS.aloadN X0.here hx rfl (hb hby d15_0) rfl rfl (XS.ifnonnullYes X0.here hx rfl (pc0 := 1) (pc' := 12) rfl (hb hby d15_1) rfl (by decide) (by decide) (XS.aloadN X0.here hx rfl (hb hby d15_12) rfl rfl (kk)))) ?_
  show Dn p e below s _ _ _ (s₁.setTop (mkF m 13 #[vr a, vr fo, .unset, .unset, .unset, .unset, .unset, .unset] [(.ref a)]))
  obtain ⟨T13, X13, e13, st13⟩ := getF X0 hx hZ hown (host := "") (Or.inl (tw hw 117 rfl)) Via.refl e0 hM.2.2 (g := (mkF m 13 #[vr a, vr fo, .unset, .unset, .unset, .unset, .unset, .unset] [(.ref a)])) rfl rfl (hb hby d15_13)
  refine Dn.st st13 ?_
  have hc16 : ¬ ((0 : Int32) < (0 : Int32)) := by decide
  refine Dn.st (fun _ kk => XS.ifYes X13.here hx rfl (pc0 := 16) (pc' := 116) rfl (hb hby d15_16) rfl ((if0 _ _).trans (flt hc16).2.2.2) (by decide) (by decide) (kk)) ?_
  show Dn p e below s _ _ _ (T13.setTop (mkF m 116 #[vr a, vr fo, .unset, .unset, .unset, .unset, .unset, .unset] []))
  exact Dn.ret0 X13 hlk hx hret (hb hby d15_116) (by rw [e13]; exact ⟨rfl, N0, rfl⟩) (by decide) (by decide)

theorem d6_0 : decode prog_37_method_1_code 0 = .ok (.aload_n 0, 1) := by decide +kernel
theorem d6_1 : decode prog_37_method_1_code 1 = .ok (.invokespecial 1, 3) := by decide +kernel
theorem d6_4 : decode prog_37_method_1_code 4 = .ok (.aload_n 0, 1) := by decide +kernel
theorem d6_5 : decode prog_37_method_1_code 5 = .ok (.new 7, 3) := by decide +kernel
theorem d6_8 : decode prog_37_method_1_code 8 = .ok (.dup, 1) := by decide +kernel
theorem d6_9 : decode prog_37_method_1_code 9 = .ok (.invokespecial 9, 3) := by decide +kernel
theorem d6_12 : decode prog_37_method_1_code 12 = .ok (.putfield 10, 3) := by decide +kernel
theorem d6_15 : decode prog_37_method_1_code 15 = .ok (.aload_n 0, 1) := by decide +kernel
theorem d6_16 : decode prog_37_method_1_code 16 = .ok (.new 7, 3) := by decide +kernel
theorem d6_19 : decode prog_37_method_1_code 19 = .ok (.dup, 1) := by decide +kernel
theorem d6_20 : decode prog_37_method_1_code 20 = .ok (.invokespecial 9, 3) := by decide +kernel
theorem d6_23 : decode prog_37_method_1_code 23 = .ok (.putfield 16, 3) := by decide +kernel
theorem d6_26 : decode prog_37_method_1_code 26 = .ok (.return_, 1) := by decide +kernel
theorem pn4 : plainName "com/example/nudo/nudo/core/metrics/VehicleStatistics" = true := by first | (simp [plainName, overriddenIn]; done) | decide +kernel
theorem ef6_rmVi (m : MethodId) (x0 : Addr) : entryFrame m #[(.ref x0)] 1 = mkF m 0 #[vr x0] [] := by first | (simp [entryFrame, mkF, argsToLocals, Value.category]; done) | rfl
def QVi (Z : State) (a : Addr) (h0 : Heap) (n0 : Nat) (v : Option Value) (h : Heap) (L : List Loc) : Prop := ∃ hm : Addr, v = none ∧ Fr n0 L ∧ Keep h0 h [a] ∧ h0.size ≤ hm ∧ own_VS Z h a hm 0 0 ∧ own_HM Z h hm
theorem rmVi (l : Launch) (Z : State) (a0 : Array Value) (hw : ∀ d ∈ tables_1, d.before a0 Z = true) (ws : List Jvm.Cond) (a : Addr) (h0 : Heap) (n0 : Nat) (Z0 : n0 ≤ h0.size) (ga : n0 ≤ a) (Ea : Exa Z h0 a "com/example/nudo/nudo/core/metrics/VehicleStatistics") (F0 : Fld Z h0 a "com/example/nudo/nudo/core/metrics/VehicleStatistics" "departuresMs" "Ljava/util/Map;" .null) (F1 : Fld Z h0 a "com/example/nudo/nudo/core/metrics/VehicleStatistics" "waitingMs" "Ljava/util/Map;" .null) (F2 : Fld Z h0 a "com/example/nudo/nudo/core/metrics/VehicleStatistics" "vehicleSteps" "J" (.long 0)) (F3 : Fld Z h0 a "com/example/nudo/nudo/core/metrics/VehicleStatistics" "speedSum" "D" (.double 0)) (F4 : Fld Z h0 a "com/example/nudo/nudo/core/metrics/VehicleStatistics" "departed" "J" (.long 0)) (F5 : Fld Z h0 a "com/example/nudo/nudo/core/metrics/VehicleStatistics" "arrived" "J" (.long 0)) (F6 : Fld Z h0 a "com/example/nudo/nudo/core/metrics/VehicleStatistics" "trips" "J" (.long 0)) (F7 : Fld Z h0 a "com/example/nudo/nudo/core/metrics/VehicleStatistics" "tripDurationsMs" "J" (.long 0)) :
    own_Met l (⟨"com/example/nudo/nudo/core/metrics/VehicleStatistics", "<init>", "()V"⟩ : MethodName) (Jvm.Cond.code (⟨"com/example/nudo/nudo/core/metrics/VehicleStatistics", "<init>", "()V"⟩ : MethodName) prog_37_method_1_code 1 none :: ws) orm8 #[(.ref a)] Z h0 (QVi Z a h0 n0) := by
  refine MetFree.of_bodySF (plainFor_of_name pn4) hisR ?_
  intro p e s m args below meth c s₁ Bd hml0 hP hK
  obtain ⟨rfl, hZ, hh⟩ := hP
  have hml : c.maxLocals = 1 := hml0
  have hnm := (name_of_methodNamed Bd.named Bd.method).1
  obtain ⟨hx, hby, hlk, hret, (hown : s.vm.findClass "com/example/nudo/nudo/core/metrics/VehicleStatistics" = _), (X0 : Stand p l e orm8 s m _ below meth c s₁ [] 0 0), e0⟩ := own_bg Bd hh
  have N0 := Fr.nil n0
  show Dn p e below s (QVi Z a h0 n0) orm8.cells orm8.slots (s₁.setTop (entryFrame m #[(.ref a)] 1))
  refine Dn.st (fun _ kk => castTop (ef6_rmVi m a) kk) ?_
  refine Dn.st (fun _ kk => XS.aloadN X0.here hx rfl (hb hby d6_0) rfl rfl (kk)) ?_
  show Dn p e below s _ _ _ (s₁.setTop (mkF m 1 #[vr a] [(.ref a)]))
  obtain ⟨T1, X1, e1, st1⟩ := initO X0 hx hZ hown (tw hw 33 rfl) (tw hw 21 rfl) (tw hw 22 rfl) e0 (g := (mkF m 1 #[vr a] [(.ref a)])) rfl (by rw [hml]; rfl) rfl (hb hby d6_1) (by decide) (W := 0) (by show 2 * 0 + _ ≤ _; exact Nat.le_of_eq rfl) (by decide)
  refine Dn.st st1 ?_
  refine Dn.st (fun _ kk => XS.aloadN X1.here hx rfl (hb hby d6_4) rfl rfl (kk)) ?_
  show Dn p e below s _ _ _ (T1.setTop (mkF m 5 #[vr a] [(.ref a)]))
  obtain ⟨T5, h5, X5, e5, E5, A5, D5, -, st5⟩ := newO X1 hx hZ hown (tw hw 34 rfl) (tw hw 35 rfl) (tw hw 36 rfl) e1 (g := (mkF m 5 #[vr a] [(.ref a)])) rfl (hb hby d6_5) (by decide) (by decide)
  obtain ⟨b5, g5⟩ : ∃ z, z = h0.size := ⟨_, rfl⟩
  rw [← g5] at A5 D5 st5
  have ne_a_b5 : a ≠ b5 := Nat.ne_of_lt (Nat.lt_of_lt_of_le Ea.lt (Nat.le_of_eq g5.symm))
  have gz_b5 : h0.size ≤ b5 := Nat.le_trans (Keep.refl h0 [a]).1 (Nat.le_of_eq g5.symm)
  have E_a_5 := Ea.ext E5
  have F_a_departuresMs_5 := F0.ext E5
  have F_a_waitingMs_5 := F1.ext E5
  have F_a_vehicleSteps_5 := F2.ext E5
  have F_a_speedSum_5 := F3.ext E5
  have F_a_departed_5 := F4.ext E5
  have F_a_arrived_5 := F5.ext E5
  have F_a_trips_5 := F6.ext E5
  have F_a_tripDurationsMs_5 := F7.ext E5
  have K5 := (Keep.refl h0 [a]).ext E5
  have gn_b5 : n0 ≤ b5 := Nat.le_trans Z0 (Nat.le_of_eq g5.symm)
  have Z5 : n0 ≤ h5.size := Nat.le_trans Z0 E5.1
  have F_b5_loadFactor : Fld Z h5 b5 "java/util/HashMap" "loadFactor" "F" (.float (0 : UInt32)) := D5 (Or.inr (tw hw 49 rfl)) (ty := .float) (by decide)
  have F_b5_table : Fld Z h5 b5 "java/util/HashMap" "table" "[Ljava/util/HashMap$Node;" .null := D5 (Or.inl (tw hw 84 rfl)) (ty := (.array (.object "java/util/HashMap$Node"))) (by decide)
  have F_b5_size : Fld Z h5 b5 "java/util/HashMap" "size" "I" (.int 0) := D5 (Or.inl (tw hw 118 rfl)) (ty := .int) (by decide)
  refine Dn.st st5 ?_
  refine Dn.st (fun _ kk => XS.dup X5.here hx rfl (hb hby d6_8) rfl rfl (kk)) ?_
  show Dn p e below s _ _ _ (T5.setTop (mkF m 9 #[vr a] [(.ref b5), (.ref b5), (.ref a)]))
  obtain ⟨_, T9, Lc9, X9, hQ9, st9⟩ := own_ci X5 hx hZ hown (rmHi l Z a0 hw [] b5  h5 n0 Z5 gn_b5 A5 F_b5_table F_b5_size F_b5_loadFactor) (tw hw 37 rfl) (tw hw 38 rfl) (tw hw 36 rfl) (tw hw 39 rfl) e5 (g := (mkF m 9 #[vr a] [(.ref b5), (.ref b5), (.ref a)])) (hb hby d6_9) (W := 2) (argsL := []) (rest := [(.ref b5), (.ref a)]) (lenOf pd3 rfl) rfl (by rw [hml]; rfl) rfl rfl (Nat.le_of_eq rfl) rfl (by decide) (by decide) (by decide) (by decide) (by decide)
  obtain ⟨rfl, Nq9, K9, M9⟩ := hQ9
  have N9 := Fr.app N0 Nq9
  refine Dn.tr st9 ?_
  have E_a_9 := E_a_5.keep K9
  have F_a_departuresMs_9 := F_a_departuresMs_5.keep K9 (ninS ne_a_b5 nin0)
  have F_a_waitingMs_9 := F_a_waitingMs_5.keep K9 (ninS ne_a_b5 nin0)
  have F_a_vehicleSteps_9 := F_a_vehicleSteps_5.keep K9 (ninS ne_a_b5 nin0)
  have F_a_speedSum_9 := F_a_speedSum_5.keep K9 (ninS ne_a_b5 nin0)
  have F_a_departed_9 := F_a_departed_5.keep K9 (ninS ne_a_b5 nin0)
  have F_a_arrived_9 := F_a_arrived_5.keep K9 (ninS ne_a_b5 nin0)
  have F_a_trips_9 := F_a_trips_5.keep K9 (ninS ne_a_b5 nin0)
  have F_a_tripDurationsMs_9 := F_a_tripDurationsMs_5.keep K9 (ninS ne_a_b5 nin0)
  have Kt9 := Keep.trans K5 K9 (fun x hx => Or.inr ((List.mem_singleton.mp hx) ▸ gz_b5))
  have Z9 : n0 ≤ T9.heap.size := Nat.le_trans Z5 K9.1
  obtain ⟨T12, h12, X12, e12, W12, st12⟩ := putF X9 hx hZ hown (host := "") (Or.inl (tw hw 50 rfl)) Via.refl rfl F_a_departuresMs_9 E_a_9 (Or.inr ⟨(tw hw 51 rfl), rfl, hnm⟩) (tw hw 28 rfl) (ty := (.object "java/util/Map")) (by decide) rfl rfl (g := (mkF m 12 #[vr a] [(.ref b5), (.ref a)])) rfl rfl (hb hby d6_12)
  have E_a_12 := E_a_9.wr W12
  have F_a_waitingMs_12 := F_a_waitingMs_9.other W12 (Or.inr (slot_ne (Or.inr (tw hw 53 rfl)) (Or.inr (tw hw 51 rfl)) (by decide) (t := (.object "java/util/Map")) (t' := (.object "java/util/Map")) (by decide) (by decide)))
  have F_a_vehicleSteps_12 := F_a_vehicleSteps_9.other W12 (Or.inr (slot_ne (Or.inl (tw hw 61 rfl)) (Or.inr (tw hw 51 rfl)) (by decide) (t := .long) (t' := (.object "java/util/Map")) (by decide) (by decide)))
  have F_a_speedSum_12 := F_a_speedSum_9.other W12 (Or.inr (slot_ne (Or.inl (tw hw 63 rfl)) (Or.inr (tw hw 51 rfl)) (by decide) (t := .double) (t' := (.object "java/util/Map")) (by decide) (by decide)))
  have F_a_departed_12 := F_a_departed_9.other W12 (Or.inr (slot_ne (Or.inl (tw hw 101 rfl)) (Or.inr (tw hw 51 rfl)) (by decide) (t := .long) (t' := (.object "java/util/Map")) (by decide) (by decide)))
  have F_a_arrived_12 := F_a_arrived_9.other W12 (Or.inr (slot_ne (Or.inl (tw hw 103 rfl)) (Or.inr (tw hw 51 rfl)) (by decide) (t := .long) (t' := (.object "java/util/Map")) (by decide) (by decide)))
  have F_a_trips_12 := F_a_trips_9.other W12 (Or.inr (slot_ne (Or.inl (tw hw 105 rfl)) (Or.inr (tw hw 51 rfl)) (by decide) (t := .long) (t' := (.object "java/util/Map")) (by decide) (by decide)))
  have F_a_tripDurationsMs_12 := F_a_tripDurationsMs_9.other W12 (Or.inr (slot_ne (Or.inl (tw hw 107 rfl)) (Or.inr (tw hw 51 rfl)) (by decide) (t := .long) (t' := (.object "java/util/Map")) (by decide) (by decide)))
  have E_b5_12 := M9.1.wr W12
  have F_b5_table_12 := M9.2.1.other W12 (Or.inl (Ne.symm ne_a_b5))
  have F_b5_size_12 := M9.2.2.other W12 (Or.inl (Ne.symm ne_a_b5))
  have F_a_departuresMs_12 := F_a_departuresMs_9.same W12
  have K12 := Kt9.wr W12 (Or.inl (List.mem_of_getElem? (i := 0) rfl))
  have N12 := Fr.snoc X12 N9 ga
  have Z12 : n0 ≤ h12.size := Nat.le_trans Z9 (Keep.of_wr W12).1
  refine Dn.st st12 ?_
  refine Dn.st (fun _ kk => XS.aloadN X12.here hx rfl (hb hby d6_15) rfl rfl (kk)) ?_
  show Dn p e below s _ _ _ (T12.setTop (mkF m 16 #[vr a] [(.ref a)]))
  obtain ⟨T16, h16, X16, e16, E16, A16, D16, -, st16⟩ := newO X12 hx hZ hown (tw hw 34 rfl) (tw hw 35 rfl) (tw hw 36 rfl) e12 (g := (mkF m 16 #[vr a] [(.ref a)])) rfl (hb hby d6_16) (by decide) (by decide)
  obtain ⟨b16, g16⟩ : ∃ z, z = h12.size := ⟨_, rfl⟩
  rw [← g16] at A16 D16 st16
  have ne_a_b16 : a ≠ b16 := Nat.ne_of_lt (Nat.lt_of_lt_of_le E_a_12.lt (Nat.le_of_eq g16.symm))
  have ne_b5_b16 : b5 ≠ b16 := Nat.ne_of_lt (Nat.lt_of_lt_of_le E_b5_12.lt (Nat.le_of_eq g16.symm))
  have gz_b16 : h0.size ≤ b16 := Nat.le_trans K12.1 (Nat.le_of_eq g16.symm)
  have E_a_16 := E_a_12.ext E16
  have F_a_departuresMs_16 := F_a_departuresMs_12.ext E16
  have F_a_waitingMs_16 := F_a_waitingMs_12.ext E16
  have F_a_vehicleSteps_16 := F_a_vehicleSteps_12.ext E16
  have F_a_speedSum_16 := F_a_speedSum_12.ext E16
  have F_a_departed_16 := F_a_departed_12.ext E16
  have F_a_arrived_16 := F_a_arrived_12.ext E16
  have F_a_trips_16 := F_a_trips_12.ext E16
  have F_a_tripDurationsMs_16 := F_a_tripDurationsMs_12.ext E16
  have E_b5_16 := E_b5_12.ext E16
  have F_b5_table_16 := F_b5_table_12.ext E16
  have F_b5_size_16 := F_b5_size_12.ext E16
  have K16 := K12.ext E16
  have gn_b16 : n0 ≤ b16 := Nat.le_trans Z12 (Nat.le_of_eq g16.symm)
  have Z16 : n0 ≤ h16.size := Nat.le_trans Z12 E16.1
  have F_b16_loadFactor : Fld Z h16 b16 "java/util/HashMap" "loadFactor" "F" (.float (0 : UInt32)) := D16 (Or.inr (tw hw 49 rfl)) (ty := .float) (by decide)
  have F_b16_table : Fld Z h16 b16 "java/util/HashMap" "table" "[Ljava/util/HashMap$Node;" .null := D16 (Or.inl (tw hw 84 rfl)) (ty := (.array (.object "java/util/HashMap$Node"))) (by decide)
  have F_b16_size : Fld Z h16 b16 "java/util/HashMap" "size" "I" (.int 0) := D16 (Or.inl (tw hw 118 rfl)) (ty := .int) (by decide)
  refine Dn.st st16 ?_
  refine Dn.st (fun _ kk => XS.dup X16.here hx rfl (hb hby d6_19) rfl rfl (kk)) ?_
  show Dn p e below s _ _ _ (T16.setTop (mkF m 20 #[vr a] [(.ref b16), (.ref b16), (.ref a)]))
  obtain ⟨_, T20, Lc20, X20, hQ20, st20⟩ := own_ci X16 hx hZ hown (rmHi l Z a0 hw [] b16  h16 n0 Z16 gn_b16 A16 F_b16_table F_b16_size F_b16_loadFactor) (tw hw 37 rfl) (tw hw 38 rfl) (tw hw 36 rfl) (tw hw 39 rfl) e16 (g := (mkF m 20 #[vr a] [(.ref b16), (.ref b16), (.ref a)])) (hb hby d6_20) (W := 2) (argsL := []) (rest := [(.ref b16), (.ref a)]) (lenOf pd3 rfl) rfl (by rw [hml]; rfl) rfl rfl (Nat.le_of_eq rfl) rfl (by decide) (by decide) (by decide) (by decide) (by decide)
  obtain ⟨rfl, Nq20, K20, M20⟩ := hQ20
  have N20 := Fr.app N12 Nq20
  refine Dn.tr st20 ?_
  have E_a_20 := E_a_16.keep K20
  have F_a_departuresMs_20 := F_a_departuresMs_16.keep K20 (ninS ne_a_b16 nin0)
  have F_a_waitingMs_20 := F_a_waitingMs_16.keep K20 (ninS ne_a_b16 nin0)
  have F_a_vehicleSteps_20 := F_a_vehicleSteps_16.keep K20 (ninS ne_a_b16 nin0)
  have F_a_speedSum_20 := F_a_speedSum_16.keep K20 (ninS ne_a_b16 nin0)
  have F_a_departed_20 := F_a_departed_16.keep K20 (ninS ne_a_b16 nin0)
  have F_a_arrived_20 := F_a_arrived_16.keep K20 (ninS ne_a_b16 nin0)
  have F_a_trips_20 := F_a_trips_16.keep K20 (ninS ne_a_b16 nin0)
  have F_a_tripDurationsMs_20 := F_a_tripDurationsMs_16.keep K20 (ninS ne_a_b16 nin0)
  have E_b5_20 := E_b5_16.keep K20
  have F_b5_table_20 := F_b5_table_16.keep K20 (ninS ne_b5_b16 nin0)
  have F_b5_size_20 := F_b5_size_16.keep K20 (ninS ne_b5_b16 nin0)
  have Kt20 := Keep.trans K16 K20 (fun x hx => Or.inr ((List.mem_singleton.mp hx) ▸ gz_b16))
  have Z20 : n0 ≤ T20.heap.size := Nat.le_trans Z16 K20.1
  obtain ⟨T23, h23, X23, e23, W23, st23⟩ := putF X20 hx hZ hown (host := "") (Or.inl (tw hw 52 rfl)) Via.refl rfl F_a_waitingMs_20 E_a_20 (Or.inr ⟨(tw hw 53 rfl), rfl, hnm⟩) (tw hw 28 rfl) (ty := (.object "java/util/Map")) (by decide) rfl rfl (g := (mkF m 23 #[vr a] [(.ref b16), (.ref a)])) rfl rfl (hb hby d6_23)
  have E_a_23 := E_a_20.wr W23
  have F_a_departuresMs_23 := F_a_departuresMs_20.other W23 (Or.inr (slot_ne (Or.inr (tw hw 51 rfl)) (Or.inr (tw hw 53 rfl)) (by decide) (t := (.object "java/util/Map")) (t' := (.object "java/util/Map")) (by decide) (by decide)))
  have F_a_vehicleSteps_23 := F_a_vehicleSteps_20.other W23 (Or.inr (slot_ne (Or.inl (tw hw 61 rfl)) (Or.inr (tw hw 53 rfl)) (by decide) (t := .long) (t' := (.object "java/util/Map")) (by decide) (by decide)))
  have F_a_speedSum_23 := F_a_speedSum_20.other W23 (Or.inr (slot_ne (Or.inl (tw hw 63 rfl)) (Or.inr (tw hw 53 rfl)) (by decide) (t := .double) (t' := (.object "java/util/Map")) (by decide) (by decide)))
  have F_a_departed_23 := F_a_departed_20.other W23 (Or.inr (slot_ne (Or.inl (tw hw 101 rfl)) (Or.inr (tw hw 53 rfl)) (by decide) (t := .long) (t' := (.object "java/util/Map")) (by decide) (by decide)))
  have F_a_arrived_23 := F_a_arrived_20.other W23 (Or.inr (slot_ne (Or.inl (tw hw 103 rfl)) (Or.inr (tw hw 53 rfl)) (by decide) (t := .long) (t' := (.object "java/util/Map")) (by decide) (by decide)))
  have F_a_trips_23 := F_a_trips_20.other W23 (Or.inr (slot_ne (Or.inl (tw hw 105 rfl)) (Or.inr (tw hw 53 rfl)) (by decide) (t := .long) (t' := (.object "java/util/Map")) (by decide) (by decide)))
  have F_a_tripDurationsMs_23 := F_a_tripDurationsMs_20.other W23 (Or.inr (slot_ne (Or.inl (tw hw 107 rfl)) (Or.inr (tw hw 53 rfl)) (by decide) (t := .long) (t' := (.object "java/util/Map")) (by decide) (by decide)))
  have E_b5_23 := E_b5_20.wr W23
  have F_b5_table_23 := F_b5_table_20.other W23 (Or.inl (Ne.symm ne_a_b5))
  have F_b5_size_23 := F_b5_size_20.other W23 (Or.inl (Ne.symm ne_a_b5))
  have E_b16_23 := M20.1.wr W23
  have F_b16_table_23 := M20.2.1.other W23 (Or.inl (Ne.symm ne_a_b16))
  have F_b16_size_23 := M20.2.2.other W23 (Or.inl (Ne.symm ne_a_b16))
  have F_a_waitingMs_23 := F_a_waitingMs_20.same W23
  have K23 := Kt20.wr W23 (Or.inl (List.mem_of_getElem? (i := 0) rfl))
  have N23 := Fr.snoc X23 N20 ga
  have Z23 : n0 ≤ h23.size := Nat.le_trans Z20 (Keep.of_wr W23).1
  refine Dn.st st23 ?_
  exact Dn.ret0 X23 hlk hx hret (hb hby d6_26) (by rw [e23]; exact ⟨b16, rfl, N23, K23, gz_b16, ⟨E_a_23, F_a_waitingMs_23, F_a_vehicleSteps_23, F_a_speedSum_23, F_a_departed_23, F_a_arrived_23, F_a_trips_23, F_a_tripDurationsMs_23⟩, E_b16_23, F_b16_table_23, F_b16_size_23⟩) (by decide) (by decide)

theorem d9_0 : decode prog_37_method_6_code 0 = .ok (.aload_n 0, 1) := by decide +kernel
theorem d9_1 : decode prog_37_method_6_code 1 = .ok (.dup, 1) := by decide +kernel
theorem d9_2 : decode prog_37_method_6_code 2 = .ok (.getfield 52, 3) := by decide +kernel
theorem d9_5 : decode prog_37_method_6_code 5 = .ok (.lconst 1, 1) := by decide +kernel
theorem d9_6 : decode prog_37_method_6_code 6 = .ok (.ladd, 1) := by decide +kernel
theorem d9_7 : decode prog_37_method_6_code 7 = .ok (.putfield 52, 3) := by decide +kernel
theorem d9_10 : decode prog_37_method_6_code 10 = .ok (.aload_n 0, 1) := by decide +kernel
theorem d9_11 : decode prog_37_method_6_code 11 = .ok (.dup, 1) := by decide +kernel
theorem d9_12 : decode prog_37_method_6_code 12 = .ok (.getfield 55, 3) := by decide +kernel
theorem d9_15 : decode prog_37_method_6_code 15 = .ok (.dload_n 2, 1) := by decide +kernel
theorem d9_16 : decode prog_37_method_6_code 16 = .ok (.dadd, 1) := by decide +kernel
theorem d9_17 : decode prog_37_method_6_code 17 = .ok (.putfield 55, 3) := by decide +kernel
theorem d9_20 : decode prog_37_method_6_code 20 = .ok (.dload_n 2, 1) := by decide +kernel
theorem d9_21 : decode prog_37_method_6_code 21 = .ok (.ldc2_w 70, 3) := by decide +kernel
theorem d9_24 : decode prog_37_method_6_code 24 = .ok (.dcmp .g, 1) := by decide +kernel
theorem d9_25 : decode prog_37_method_6_code 25 = .ok (.ifCond .gt 21, 3) := by decide +kernel
theorem d9_28 : decode prog_37_method_6_code 28 = .ok (.aload_n 0, 1) := by decide +kernel
theorem d9_29 : decode prog_37_method_6_code 29 = .ok (.getfield 16, 3) := by decide +kernel
theorem d9_32 : decode prog_37_method_6_code 32 = .ok (.aload_n 1, 1) := by decide +kernel
theorem d9_33 : decode prog_37_method_6_code 33 = .ok (.lload 4, 2) := by decide +kernel
theorem d9_35 : decode prog_37_method_6_code 35 = .ok (.invokedynamic 72, 5) := by decide +kernel
theorem d9_40 : decode prog_37_method_6_code 40 = .ok (.invokeinterface 75 3, 5) := by decide +kernel
theorem d9_45 : decode prog_37_method_6_code 45 = .ok (.pop, 1) := by decide +kernel
theorem d9_46 : decode prog_37_method_6_code 46 = .ok (.return_, 1) := by decide +kernel
theorem pd5 : parseMethodDescriptor "(Ljava/lang/Object;Ljava/util/function/BiFunction;)Ljava/lang/Object;" = some ⟨[(.object "java/lang/Object"), (.object "java/util/function/BiFunction")], some (.object "java/lang/Object")⟩ := by decide +kernel
theorem ef9_rmVt (m : MethodId) (x0 : Addr) (x1 : Addr) (x2 : UInt64) (x3 : Int64) : entryFrame m #[(.ref x0), (.ref x1), (.double x2), (.long x3)] 6 = mkF m 0 #[vr x0, vr x1, .val (.double x2), .second, .val (.long x3), .second] [] := by first | (simp [entryFrame, mkF, argsToLocals, Value.category]; done) | rfl
def QVt (Z : State) (a : Addr) (vid : Addr) (sp : UInt64) (ms : Int64) (hm : Addr) (vs vs2 : Int64) (ss ss2 : UInt64) (h0 : Heap) (n0 : Nat) (v : Option Value) (h : Heap) (L : List Loc) : Prop := v = none ∧ Fr n0 L ∧ Keep h0 h [a] ∧ own_VS Z h a hm vs2 ss2
theorem rmVt (l : Launch) (Z : State) (a0 : Array Value) (hw : ∀ d ∈ tables_1, d.before a0 Z = true) (ws : List Jvm.Cond) (a : Addr) (vid : Addr) (sp : UInt64) (ms : Int64) (hm : Addr) (vs vs2 : Int64) (ss ss2 : UInt64) (h0 : Heap) (n0 : Nat) (Z0 : n0 ≤ h0.size) (ga : n0 ≤ a) (hV : own_VS Z h0 a hm vs ss) (hM : own_HM Z h0 hm) (hne : hm ≠ a) (hv : vs + (1 : Int64) = vs2) (hs : FP.dadd ss sp = ss2) (hnn : Jvm.Free.Fl.NoNaN64 (FP.dadd ss sp)) :
    own_Met l (⟨"com/example/nudo/nudo/core/metrics/VehicleStatistics", "vehicleStep", "(Ljava/lang/String;DJ)V"⟩ : MethodName) (Jvm.Cond.code (⟨"com/example/nudo/nudo/core/metrics/VehicleStatistics", "vehicleStep", "(Ljava/lang/String;DJ)V"⟩ : MethodName) prog_37_method_6_code 6 none :: ws) orm9 #[(.ref a), (.ref vid), (.double sp), (.long ms)] Z h0 (QVt Z a vid sp ms hm vs vs2 ss ss2 h0 n0) := by
  refine MetFree.of_bodySF (plainFor_of_name pn4) hisR ?_
  intro p e s m args below meth c s₁ Bd hml0 hP hK
  obtain ⟨rfl, hZ, hh⟩ := hP
  have hml : c.maxLocals = 6 := hml0
  obtain ⟨hx, hby, hlk, hret, (hown : s.vm.findClass "com/example/nudo/nudo/core/metrics/VehicleStatistics" = _), (X0 : Stand p l e orm9 s m _ below meth c s₁ [] 0 0), e0⟩ := own_bg Bd hh
  have N0 := Fr.nil n0
  show Dn p e below s (QVt Z a vid sp ms hm vs vs2 ss ss2 h0 n0) orm9.cells orm9.slots (s₁.setTop (entryFrame m #[(.ref a), (.ref vid), (.double sp), (.long ms)] 6))
  refine Dn.st (fun _ kk => castTop (ef9_rmVt m a vid sp ms) kk) ?_
  refine Dn.st (fun _ kk => XS.aloadN X0.here hx rfl (hb hby d9_0) rfl rfl (XS.dup X0.here hx rfl (hb hby d9_1) rfl rfl (kk))) ?_
  show Dn p e below s _ _ _ (s₁.setTop (mkF m 2 #[vr a, vr vid, .val (.double sp), .second, .val (.long ms), .second] [(.ref a), (.ref a)]))
  obtain ⟨T2, X2, e2, st2⟩ := getF X0 hx hZ hown (host := "") (Or.inl (tw hw 60 rfl)) Via.refl e0 hV.2.2.1 (g := (mkF m 2 #[vr a, vr vid, .val (.double sp), .second, .val (.long ms), .second] [(.ref a), (.ref a)])) rfl rfl (hb hby d9_2)
  refine Dn.st st2 ?_
  refine Dn.st (fun _ kk => XS.lconst X2.here hx rfl (hb hby d9_5) (XS.ladd X2.here hx rfl (hb hby d9_6) rfl (kk))) ?_
  show Dn p e below s _ _ _ (T2.setTop (mkF m 7 #[vr a, vr vid, .val (.double sp), .second, .val (.long ms), .second] [(.long (vs + (1 : Int64))), (.ref a)]))
  rw [hv]
  obtain ⟨T7, h7, X7, e7, W7, st7⟩ := putF X2 hx hZ hown (host := "") (Or.inl (tw hw 60 rfl)) Via.refl e2 hV.2.2.1 hV.1 (Or.inl (tw hw 61 rfl)) (tw hw 28 rfl) (ty := .long) (by decide) rfl rfl (g := (mkF m 7 #[vr a, vr vid, .val (.double sp), .second, .val (.long ms), .second] [(.long vs2), (.ref a)])) rfl rfl (hb hby d9_7)
  have E_a_7 := hV.1.wr W7
  have F_a_waitingMs_7 := hV.2.1.other W7 (Or.inr (slot_ne (Or.inr (tw hw 53 rfl)) (Or.inl (tw hw 61 rfl)) (by decide) (t := (.object "java/util/Map")) (t' := .long) (by decide) (by decide)))
  have F_a_speedSum_7 := hV.2.2.2.1.other W7 (Or.inr (slot_ne (Or.inl (tw hw 63 rfl)) (Or.inl (tw hw 61 rfl)) (by decide) (t := .double) (t' := .long) (by decide) (by decide)))
  have F_a_departed_7 := hV.2.2.2.2.1.other W7 (Or.inr (slot_ne (Or.inl (tw hw 101 rfl)) (Or.inl (tw hw 61 rfl)) (by decide) (t := .long) (t' := .long) (by decide) (by decide)))
  have F_a_arrived_7 := hV.2.2.2.2.2.1.other W7 (Or.inr (slot_ne (Or.inl (tw hw 103 rfl)) (Or.inl (tw hw 61 rfl)) (by decide) (t := .long) (t' := .long) (by decide) (by decide)))
  have F_a_trips_7 := hV.2.2.2.2.2.2.1.other W7 (Or.inr (slot_ne (Or.inl (tw hw 105 rfl)) (Or.inl (tw hw 61 rfl)) (by decide) (t := .long) (t' := .long) (by decide) (by decide)))
  have F_a_tripDurationsMs_7 := hV.2.2.2.2.2.2.2.other W7 (Or.inr (slot_ne (Or.inl (tw hw 107 rfl)) (Or.inl (tw hw 61 rfl)) (by decide) (t := .long) (t' := .long) (by decide) (by decide)))
  have E_hm_7 := hM.1.wr W7
  have F_hm_table_7 := hM.2.1.other W7 (Or.inl hne)
  have F_hm_size_7 := hM.2.2.other W7 (Or.inl hne)
  have F_a_vehicleSteps_7 := hV.2.2.1.same W7
  have K7 := (Keep.refl h0 [a]).wr W7 (Or.inl (List.mem_of_getElem? (i := 0) rfl))
  have N7 := Fr.snoc X7 N0 ga
  have Z7 : n0 ≤ h7.size := Nat.le_trans Z0 (Keep.of_wr W7).1
  refine Dn.st st7 ?_
  refine Dn.st (fun _ kk => XS.aloadN X7.here hx rfl (hb hby d9_10) rfl rfl (XS.dup X7.here hx rfl (hb hby d9_11) rfl rfl (kk))) ?_
  show Dn p e below s _ _ _ (T7.setTop (mkF m 12 #[vr a, vr vid, .val (.double sp), .second, .val (.long ms), .second] [(.ref a), (.ref a)]))
  obtain ⟨T12, X12, e12, st12⟩ := getF X7 hx hZ hown (host := "") (Or.inl (tw hw 62 rfl)) Via.refl e7 F_a_speedSum_7 (g := (mkF m 12 #[vr a, vr vid, .val (.double sp), .second, .val (.long ms), .second] [(.ref a), (.ref a)])) rfl rfl (hb hby d9_12)
  refine Dn.st st12 ?_
  refine Dn.st (fun _ kk => XS.dloadN X12.here hx rfl (hb hby d9_15) rfl (XS.daddS X12.here hx rfl (hb hby d9_16) rfl hnn rfl (kk))) ?_
  show Dn p e below s _ _ _ (T12.setTop (mkF m 17 #[vr a, vr vid, .val (.double sp), .second, .val (.long ms), .second] [(.double (FP.dadd ss sp)), (.ref a)]))
  generalize hv16 : ((FP.dadd ss sp) : UInt64) = v16
  rw [hv16.symm.trans hs]
  obtain ⟨T17, h17, X17, e17, W17, st17⟩ := putF X12 hx hZ hown (host := "") (Or.inl (tw hw 62 rfl)) Via.refl e12 F_a_speedSum_7 E_a_7 (Or.inl (tw hw 63 rfl)) (tw hw 28 rfl) (ty := .double) (by decide) rfl rfl (g := (mkF m 17 #[vr a, vr vid, .val (.double sp), .second, .val (.long ms), .second] [(.double ss2), (.ref a)])) rfl rfl (hb hby d9_17)
  have E_a_17 := E_a_7.wr W17
  have F_a_waitingMs_17 := F_a_waitingMs_7.other W17 (Or.inr (slot_ne (Or.inr (tw hw 53 rfl)) (Or.inl (tw hw 63 rfl)) (by decide) (t := (.object "java/util/Map")) (t' := .double) (by decide) (by decide)))
  have F_a_vehicleSteps_17 := F_a_vehicleSteps_7.other W17 (Or.inr (slot_ne (Or.inl (tw hw 61 rfl)) (Or.inl (tw hw 63 rfl)) (by decide) (t := .long) (t' := .double) (by decide) (by decide)))
  have F_a_departed_17 := F_a_departed_7.other W17 (Or.inr (slot_ne (Or.inl (tw hw 101 rfl)) (Or.inl (tw hw 63 rfl)) (by decide) (t := .long) (t' := .double) (by decide) (by decide)))
  have F_a_arrived_17 := F_a_arrived_7.other W17 (Or.inr (slot_ne (Or.inl (tw hw 103 rfl)) (Or.inl (tw hw 63 rfl)) (by decide) (t := .long) (t' := .double) (by decide) (by decide)))
  have F_a_trips_17 := F_a_trips_7.other W17 (Or.inr (slot_ne (Or.inl (tw hw 105 rfl)) (Or.inl (tw hw 63 rfl)) (by decide) (t := .long) (t' := .double) (by decide) (by decide)))
  have F_a_tripDurationsMs_17 := F_a_tripDurationsMs_7.other W17 (Or.inr (slot_ne (Or.inl (tw hw 107 rfl)) (Or.inl (tw hw 63 rfl)) (by decide) (t := .long) (t' := .double) (by decide) (by decide)))
  have E_hm_17 := E_hm_7.wr W17
  have F_hm_table_17 := F_hm_table_7.other W17 (Or.inl hne)
  have F_hm_size_17 := F_hm_size_7.other W17 (Or.inl hne)
  have F_a_speedSum_17 := F_a_speedSum_7.same W17
  have K17 := K7.wr W17 (Or.inl (List.mem_of_getElem? (i := 0) rfl))
  have N17 := Fr.snoc X17 N7 ga
  have Z17 : n0 ≤ h17.size := Nat.le_trans Z7 (Keep.of_wr W17).1
  refine Dn.st st17 ?_
  refine Dn.st (fun _ kk => XS.dloadN X17.here hx rfl (hb hby d9_20) rfl (X17.ldc2DoubleC hx hown (mvT hZ (tw hw 64 rfl)) (g := (mkF m 21 #[vr a, vr vid, .val (.double sp), .second, .val (.long ms), .second] [(.double sp)])) rfl (hb hby d9_21) _ (XS.dcmpS X17.here hx rfl (hb hby d9_24) rfl rfl (kk)))) ?_
  show Dn p e below s _ _ _ (T17.setTop (mkF m 25 #[vr a, vr vid, .val (.double sp), .second, .val (.long ms), .second] [(.int (cmpValue (FP.dcmp sp (4591870180066957722 : UInt64)) .g))]))
  generalize hv24 : ((cmpValue (FP.dcmp sp (4591870180066957722 : UInt64)) .g) : Int32) = v24
  by_cases hc25 : (0 : Int32) < v24
  · refine Dn.st (fun _ kk => XS.ifYes X17.here hx rfl (pc0 := 25) (pc' := 46) rfl (hb hby d9_25) rfl ((if0 _ _).trans (tlt hc25).2.2.1) (by decide) (by decide) (kk)) ?_
    show Dn p e below s _ _ _ (T17.setTop (mkF m 46 #[vr a, vr vid, .val (.double sp), .second, .val (.long ms), .second] []))
    exact Dn.ret0 X17 hlk hx hret (hb hby d9_46) (by rw [e17]; exact ⟨rfl, N17, K17, E_a_17, F_a_waitingMs_17, F_a_vehicleSteps_17, F_a_speedSum_17, F_a_departed_17, F_a_arrived_17, F_a_trips_17, F_a_tripDurationsMs_17⟩) (by decide) (by decide)
  · refine Dn.st (fun _ kk => XS.ifNo X17.here hx rfl (hb hby d9_25) rfl ((if0 _ _).trans (flt hc25).2.2.1) (XS.aloadN X17.here hx rfl (hb hby d9_28) rfl rfl (kk))) ?_
    show Dn p e below s _ _ _ (T17.setTop (mkF m 29 #[vr a, vr vid, .val (.double sp), .second, .val (.long ms), .second] [(.ref a)]))
    obtain ⟨T29, X29, e29, st29⟩ := getF X17 hx hZ hown (host := "") (Or.inl (tw hw 52 rfl)) Via.refl e17 F_a_waitingMs_17 (g := (mkF m 29 #[vr a, vr vid, .val (.double sp), .second, .val (.long ms), .second] [(.ref a)])) rfl rfl (hb hby d9_29)
    refine Dn.st st29 ?_
    refine Dn.st (fun _ kk => XS.aloadN X29.here hx rfl (hb hby d9_32) rfl rfl (XS.lload X29.here hx rfl (hb hby d9_33) rfl (kk))) ?_
    show Dn p e below s _ _ _ (T29.setTop (mkF m 35 #[vr a, vr vid, .val (.double sp), .second, .val (.long ms), .second] [(.long ms), (.ref vid), (.ref hm)]))
    obtain ⟨T35, h35, X35, e35, E35, st35⟩ := own_lam1 X29 hx hZ Bd.named (g := (mkF m 35 #[vr a, vr vid, .val (.double sp), .second, .val (.long ms), .second] [(.long ms), (.ref vid), (.ref hm)])) (tw hw 65 rfl) rfl (tw hw 68 rfl) own_lay e29 rfl (by rw [hml]; rfl) (hb hby d9_35) rfl (Nat.le_of_ble_eq_true rfl) (by decide) (by decide)
    obtain ⟨b35, g35⟩ : ∃ z, z = h17.size := ⟨_, rfl⟩
    rw [← g35] at st35
    have ne_a_b35 : a ≠ b35 := Nat.ne_of_lt (Nat.lt_of_lt_of_le E_a_17.lt (Nat.le_of_eq g35.symm))
    have ne_hm_b35 : hm ≠ b35 := Nat.ne_of_lt (Nat.lt_of_lt_of_le E_hm_17.lt (Nat.le_of_eq g35.symm))
    have gz_b35 : h0.size ≤ b35 := Nat.le_trans K17.1 (Nat.le_of_eq g35.symm)
    have E_a_35 := E_a_17.ext E35
    have F_a_waitingMs_35 := F_a_waitingMs_17.ext E35
    have F_a_vehicleSteps_35 := F_a_vehicleSteps_17.ext E35
    have F_a_speedSum_35 := F_a_speedSum_17.ext E35
    have F_a_departed_35 := F_a_departed_17.ext E35
    have F_a_arrived_35 := F_a_arrived_17.ext E35
    have F_a_trips_35 := F_a_trips_17.ext E35
    have F_a_tripDurationsMs_35 := F_a_tripDurationsMs_17.ext E35
    have E_hm_35 := E_hm_17.ext E35
    have F_hm_table_35 := F_hm_table_17.ext E35
    have F_hm_size_35 := F_hm_size_17.ext E35
    have K35 := K17.ext E35
    have gn_b35 : n0 ≤ b35 := Nat.le_trans Z17 (Nat.le_of_eq g35.symm)
    have Z35 : n0 ≤ h35.size := Nat.le_trans Z17 E35.1
    refine Dn.st st35 ?_
    obtain ⟨cq40, kq40, q40a, q40b, q40c⟩ := isOf hZ e35 E_hm_35
    obtain ⟨_, _, ⟨T40, L40, k40, n40⟩, -, X40, ⟨Lc40, hQ40, l40, y40, z40⟩, st40⟩ := X35.interfaceBack hx (xi := (⟨"java/util/Map", "computeIfPresent", "(Ljava/lang/Object;Ljava/util/function/BiFunction;)Ljava/lang/Object;"⟩ : MethodName)) (y := on2) hown (mvT hZ (tw hw 69 rfl)) (mvT hZ (tw hw 70 rfl)) (mvT hZ (tw hw 71 rfl)) (mvT hZ (tw hw 72 rfl)) (mvT hZ (tw hw 73 rfl)) (mvT hZ (tw hw 74 rfl)) (mvT hZ (tw hw 75 rfl)) (mvT hZ (tw hw 76 rfl)) (by decide) (backOf (W := 0) (rmCp l Z a0 hw [] hm vid b35  h35 n0 Z35 ⟨E_hm_35, F_hm_table_35, F_hm_size_35⟩) hZ (tw hw 77 rfl) (tw hw 36 rfl) (by decide) (by decide)) q40a q40b q40c (g := (mkF m 40 #[vr a, vr vid, .val (.double sp), .second, .val (.long ms), .second] [(.ref b35), (.ref vid), (.ref hm)])) rfl (by rw [hml]; rfl) (Steps.refl _) (argsL := [(.ref vid), (.ref b35)]) (rest := []) (lenOf pd5 rfl) rfl (by show 2 * 0 + _ ≤ _; exact Nat.le_of_eq rfl) (hb hby d9_40) (fun _ _ => ⟨rfl, e35, (by decide : 1 + 0 ≤ _), (by decide : 1 + 0 ≤ _)⟩)
    dsimp only [Pt.U, Pt.locs, Pt.cells, Pt.slots] at X40 l40 y40 z40 st40 hQ40
    subst l40 y40 z40
    obtain ⟨rfl, Nq40, hh40⟩ := hQ40
    have N40 := Fr.app N17 Nq40
    refine Dn.tr st40 ?_
    refine Dn.st (fun _ kk => XS.pop X40.here hx rfl (hb hby d9_45) rfl rfl (kk)) ?_
    show Dn p e below s _ _ _ (T40.setTop (mkF m 46 #[vr a, vr vid, .val (.double sp), .second, .val (.long ms), .second] []))
    exact Dn.ret0 X40 hlk hx hret (hb hby d9_46) (by rw [hh40]; exact ⟨rfl, N40, K35, E_a_35, F_a_waitingMs_35, F_a_vehicleSteps_35, F_a_speedSum_35, F_a_departed_35, F_a_arrived_35, F_a_trips_35, F_a_tripDurationsMs_35⟩) (by decide) (by decide)

theorem d14_0 : decode prog_37_method_4_code 0 = .ok (.aload_n 0, 1) := by decide +kernel
theorem d14_1 : decode prog_37_method_4_code 1 = .ok (.lconst 0, 1) := by decide +kernel
theorem d14_2 : decode prog_37_method_4_code 2 = .ok (.putfield 19, 3) := by decide +kernel
theorem d14_5 : decode prog_37_method_4_code 5 = .ok (.aload_n 0, 1) := by decide +kernel
theorem d14_6 : decode prog_37_method_4_code 6 = .ok (.lconst 0, 1) := by decide +kernel
theorem d14_7 : decode prog_37_method_4_code 7 = .ok (.putfield 35, 3) := by decide +kernel
theorem d14_10 : decode prog_37_method_4_code 10 = .ok (.aload_n 0, 1) := by decide +kernel
theorem d14_11 : decode prog_37_method_4_code 11 = .ok (.lconst 0, 1) := by decide +kernel
theorem d14_12 : decode prog_37_method_4_code 12 = .ok (.putfield 42, 3) := by decide +kernel
theorem d14_15 : decode prog_37_method_4_code 15 = .ok (.aload_n 0, 1) := by decide +kernel
theorem d14_16 : decode prog_37_method_4_code 16 = .ok (.lconst 0, 1) := by decide +kernel
theorem d14_17 : decode prog_37_method_4_code 17 = .ok (.putfield 45, 3) := by decide +kernel
theorem d14_20 : decode prog_37_method_4_code 20 = .ok (.aload_n 0, 1) := by decide +kernel
theorem d14_21 : decode prog_37_method_4_code 21 = .ok (.lconst 0, 1) := by decide +kernel
theorem d14_22 : decode prog_37_method_4_code 22 = .ok (.putfield 52, 3) := by decide +kernel
theorem d14_25 : decode prog_37_method_4_code 25 = .ok (.aload_n 0, 1) := by decide +kernel
theorem d14_26 : decode prog_37_method_4_code 26 = .ok (.dconst 0, 1) := by decide +kernel
theorem d14_27 : decode prog_37_method_4_code 27 = .ok (.putfield 55, 3) := by decide +kernel
theorem d14_30 : decode prog_37_method_4_code 30 = .ok (.aload_n 0, 1) := by decide +kernel
theorem d14_31 : decode prog_37_method_4_code 31 = .ok (.getfield 16, 3) := by decide +kernel
theorem d14_34 : decode prog_37_method_4_code 34 = .ok (.invokedynamic 59, 5) := by decide +kernel
theorem d14_39 : decode prog_37_method_4_code 39 = .ok (.invokeinterface 63 2, 5) := by decide +kernel
theorem d14_44 : decode prog_37_method_4_code 44 = .ok (.return_, 1) := by decide +kernel
theorem pd6 : parseMethodDescriptor "(Ljava/util/function/BiFunction;)V" = some ⟨[(.object "java/util/function/BiFunction")], none⟩ := by decide +kernel
theorem ef14_rmRs (m : MethodId) (x0 : Addr) : entryFrame m #[(.ref x0)] 1 = mkF m 0 #[vr x0] [] := by first | (simp [entryFrame, mkF, argsToLocals, Value.category]; done) | rfl
def QRs (Z : State) (a : Addr) (hm : Addr) (vs : Int64) (ss : UInt64) (h0 : Heap) (n0 : Nat) (v : Option Value) (h : Heap) (L : List Loc) : Prop := v = none ∧ Fr n0 L ∧ Keep h0 h [a] ∧ own_VS Z h a hm 0 FP.dconst0
theorem rmRs (l : Launch) (Z : State) (a0 : Array Value) (hw : ∀ d ∈ tables_1, d.before a0 Z = true) (ws : List Jvm.Cond) (a : Addr) (hm : Addr) (vs : Int64) (ss : UInt64) (h0 : Heap) (n0 : Nat) (Z0 : n0 ≤ h0.size) (ga : n0 ≤ a) (hV : own_VS Z h0 a hm vs ss) (hM : own_HM Z h0 hm) (hne : hm ≠ a) :
    own_Met l (⟨"com/example/nudo/nudo/core/metrics/VehicleStatistics", "restart", "()V"⟩ : MethodName) (Jvm.Cond.code (⟨"com/example/nudo/nudo/core/metrics/VehicleStatistics", "restart", "()V"⟩ : MethodName) prog_37_method_4_code 1 none :: ws) orm11 #[(.ref a)] Z h0 (QRs Z a hm vs ss h0 n0) := by
  refine MetFree.of_bodySF (plainFor_of_name pn4) hisR ?_
  intro p e s m args below meth c s₁ Bd hml0 hP hK
  obtain ⟨rfl, hZ, hh⟩ := hP
  have hml : c.maxLocals = 1 := hml0
  obtain ⟨hx, hby, hlk, hret, (hown : s.vm.findClass "com/example/nudo/nudo/core/metrics/VehicleStatistics" = _), (X0 : Stand p l e orm11 s m _ below meth c s₁ [] 0 0), e0⟩ := own_bg Bd hh
  have N0 := Fr.nil n0
  show Dn p e below s (QRs Z a hm vs ss h0 n0) orm11.cells orm11.slots (s₁.setTop (entryFrame m #[(.ref a)] 1))
  refine Dn.st (fun _ kk => castTop (ef14_rmRs m a) kk) ?_
  refine Dn.st (fun _ kk => XS.aloadN X0.here hx rfl (hb hby d14_0) rfl rfl (XS.lconst X0.here hx rfl (hb hby d14_1) (kk))) ?_
  show Dn p e below s _ _ _ (s₁.setTop (mkF m 2 #[vr a] [(.long (0 : Int64)), (.ref a)]))
  obtain ⟨T2, h2, X2, e2, W2, st2⟩ := putF X0 hx hZ hown (host := "") (Or.inl (tw hw 100 rfl)) Via.refl e0 hV.2.2.2.2.1 hV.1 (Or.inl (tw hw 101 rfl)) (tw hw 28 rfl) (ty := .long) (by decide) rfl rfl (g := (mkF m 2 #[vr a] [(.long (0 : Int64)), (.ref a)])) rfl rfl (hb hby d14_2)
  have E_a_2 := hV.1.wr W2
  have F_a_waitingMs_2 := hV.2.1.other W2 (Or.inr (slot_ne (Or.inr (tw hw 53 rfl)) (Or.inl (tw hw 101 rfl)) (by decide) (t := (.object "java/util/Map")) (t' := .long) (by decide) (by decide)))
  have F_a_vehicleSteps_2 := hV.2.2.1.other W2 (Or.inr (slot_ne (Or.inl (tw hw 61 rfl)) (Or.inl (tw hw 101 rfl)) (by decide) (t := .long) (t' := .long) (by decide) (by decide)))
  have F_a_speedSum_2 := hV.2.2.2.1.other W2 (Or.inr (slot_ne (Or.inl (tw hw 63 rfl)) (Or.inl (tw hw 101 rfl)) (by decide) (t := .double) (t' := .long) (by decide) (by decide)))
  have F_a_arrived_2 := hV.2.2.2.2.2.1.other W2 (Or.inr (slot_ne (Or.inl (tw hw 103 rfl)) (Or.inl (tw hw 101 rfl)) (by decide) (t := .long) (t' := .long) (by decide) (by decide)))
  have F_a_trips_2 := hV.2.2.2.2.2.2.1.other W2 (Or.inr (slot_ne (Or.inl (tw hw 105 rfl)) (Or.inl (tw hw 101 rfl)) (by decide) (t := .long) (t' := .long) (by decide) (by decide)))
  have F_a_tripDurationsMs_2 := hV.2.2.2.2.2.2.2.other W2 (Or.inr (slot_ne (Or.inl (tw hw 107 rfl)) (Or.inl (tw hw 101 rfl)) (by decide) (t := .long) (t' := .long) (by decide) (by decide)))
  have E_hm_2 := hM.1.wr W2
  have F_hm_table_2 := hM.2.1.other W2 (Or.inl hne)
  have F_hm_size_2 := hM.2.2.other W2 (Or.inl hne)
  have F_a_departed_2 := hV.2.2.2.2.1.same W2
  have K2 := (Keep.refl h0 [a]).wr W2 (Or.inl (List.mem_of_getElem? (i := 0) rfl))
  have N2 := Fr.snoc X2 N0 ga
  have Z2 : n0 ≤ h2.size := Nat.le_trans Z0 (Keep.of_wr W2).1
  refine Dn.st st2 ?_
  refine Dn.st (fun _ kk => XS.aloadN X2.here hx rfl (hb hby d14_5) rfl rfl (XS.lconst X2.here hx rfl (hb hby d14_6) (kk))) ?_
  show Dn p e below s _ _ _ (T2.setTop (mkF m 7 #[vr a] [(.long (0 : Int64)), (.ref a)]))
  obtain ⟨T7, h7, X7, e7, W7, st7⟩ := putF X2 hx hZ hown (host := "") (Or.inl (tw hw 102 rfl)) Via.refl e2 F_a_arrived_2 E_a_2 (Or.inl (tw hw 103 rfl)) (tw hw 28 rfl) (ty := .long) (by decide) rfl rfl (g := (mkF m 7 #[vr a] [(.long (0 : Int64)), (.ref a)])) rfl rfl (hb hby d14_7)
  have E_a_7 := E_a_2.wr W7
  have F_a_waitingMs_7 := F_a_waitingMs_2.other W7 (Or.inr (slot_ne (Or.inr (tw hw 53 rfl)) (Or.inl (tw hw 103 rfl)) (by decide) (t := (.object "java/util/Map")) (t' := .long) (by decide) (by decide)))
  have F_a_vehicleSteps_7 := F_a_vehicleSteps_2.other W7 (Or.inr (slot_ne (Or.inl (tw hw 61 rfl)) (Or.inl (tw hw 103 rfl)) (by decide) (t := .long) (t' := .long) (by decide) (by decide)))
  have F_a_speedSum_7 := F_a_speedSum_2.other W7 (Or.inr (slot_ne (Or.inl (tw hw 63 rfl)) (Or.inl (tw hw 103 rfl)) (by decide) (t := .double) (t' := .long) (by decide) (by decide)))
  have F_a_departed_7 := F_a_departed_2.other W7 (Or.inr (slot_ne (Or.inl (tw hw 101 rfl)) (Or.inl (tw hw 103 rfl)) (by decide) (t := .long) (t' := .long) (by decide) (by decide)))
  have F_a_trips_7 := F_a_trips_2.other W7 (Or.inr (slot_ne (Or.inl (tw hw 105 rfl)) (Or.inl (tw hw 103 rfl)) (by decide) (t := .long) (t' := .long) (by decide) (by decide)))
  have F_a_tripDurationsMs_7 := F_a_tripDurationsMs_2.other W7 (Or.inr (slot_ne (Or.inl (tw hw 107 rfl)) (Or.inl (tw hw 103 rfl)) (by decide) (t := .long) (t' := .long) (by decide) (by decide)))
  have E_hm_7 := E_hm_2.wr W7
  have F_hm_table_7 := F_hm_table_2.other W7 (Or.inl hne)
  have F_hm_size_7 := F_hm_size_2.other W7 (Or.inl hne)
  have F_a_arrived_7 := F_a_arrived_2.same W7
  have K7 := K2.wr W7 (Or.inl (List.mem_of_getElem? (i := 0) rfl))
  have N7 := Fr.snoc X7 N2 ga
  have Z7 : n0 ≤ h7.size := Nat.le_trans Z2 (Keep.of_wr W7).1
  refine Dn.st st7 ?_
  refine Dn.st (fun _ kk => XS.aloadN X7.here hx rfl (hb hby d14_10) rfl rfl (XS.lconst X7.here hx rfl (hb hby d14_11) (kk))) ?_
  show Dn p e below s _ _ _ (T7.setTop (mkF m 12 #[vr a] [(.long (0 : Int64)), (.ref a)]))
  obtain ⟨T12, h12, X12, e12, W12, st12⟩ := putF X7 hx hZ hown (host := "") (Or.inl (tw hw 104 rfl)) Via.refl e7 F_a_trips_7 E_a_7 (Or.inl (tw hw 105 rfl)) (tw hw 28 rfl) (ty := .long) (by decide) rfl rfl (g := (mkF m 12 #[vr a] [(.long (0 : Int64)), (.ref a)])) rfl rfl (hb hby d14_12)
  have E_a_12 := E_a_7.wr W12
  have F_a_waitingMs_12 := F_a_waitingMs_7.other W12 (Or.inr (slot_ne (Or.inr (tw hw 53 rfl)) (Or.inl (tw hw 105 rfl)) (by decide) (t := (.object "java/util/Map")) (t' := .long) (by decide) (by decide)))
  have F_a_vehicleSteps_12 := F_a_vehicleSteps_7.other W12 (Or.inr (slot_ne (Or.inl (tw hw 61 rfl)) (Or.inl (tw hw 105 rfl)) (by decide) (t := .long) (t' := .long) (by decide) (by decide)))
  have F_a_speedSum_12 := F_a_speedSum_7.other W12 (Or.inr (slot_ne (Or.inl (tw hw 63 rfl)) (Or.inl (tw hw 105 rfl)) (by decide) (t := .double) (t' := .long) (by decide) (by decide)))
  have F_a_departed_12 := F_a_departed_7.other W12 (Or.inr (slot_ne (Or.inl (tw hw 101 rfl)) (Or.inl (tw hw 105 rfl)) (by decide) (t := .long) (t' := .long) (by decide) (by decide)))
  have F_a_arrived_12 := F_a_arrived_7.other W12 (Or.inr (slot_ne (Or.inl (tw hw 103 rfl)) (Or.inl (tw hw 105 rfl)) (by decide) (t := .long) (t' := .long) (by decide) (by decide)))
  have F_a_tripDurationsMs_12 := F_a_tripDurationsMs_7.other W12 (Or.inr (slot_ne (Or.inl (tw hw 107 rfl)) (Or.inl (tw hw 105 rfl)) (by decide) (t := .long) (t' := .long) (by decide) (by decide)))
  have E_hm_12 := E_hm_7.wr W12
  have F_hm_table_12 := F_hm_table_7.other W12 (Or.inl hne)
  have F_hm_size_12 := F_hm_size_7.other W12 (Or.inl hne)
  have F_a_trips_12 := F_a_trips_7.same W12
  have K12 := K7.wr W12 (Or.inl (List.mem_of_getElem? (i := 0) rfl))
  have N12 := Fr.snoc X12 N7 ga
  have Z12 : n0 ≤ h12.size := Nat.le_trans Z7 (Keep.of_wr W12).1
  refine Dn.st st12 ?_
  refine Dn.st (fun _ kk => XS.aloadN X12.here hx rfl (hb hby d14_15) rfl rfl (XS.lconst X12.here hx rfl (hb hby d14_16) (kk))) ?_
  show Dn p e below s _ _ _ (T12.setTop (mkF m 17 #[vr a] [(.long (0 : Int64)), (.ref a)]))
  obtain ⟨T17, h17, X17, e17, W17, st17⟩ := putF X12 hx hZ hown (host := "") (Or.inl (tw hw 106 rfl)) Via.refl e12 F_a_tripDurationsMs_12 E_a_12 (Or.inl (tw hw 107 rfl)) (tw hw 28 rfl) (ty := .long) (by decide) rfl rfl (g := (mkF m 17 #[vr a] [(.long (0 : Int64)), (.ref a)])) rfl rfl (hb hby d14_17)
  have E_a_17 := E_a_12.wr W17
  have F_a_waitingMs_17 := F_a_waitingMs_12.other W17 (Or.inr (slot_ne (Or.inr (tw hw 53 rfl)) (Or.inl (tw hw 107 rfl)) (by decide) (t := (.object "java/util/Map")) (t' := .long) (by decide) (by decide)))
  have F_a_vehicleSteps_17 := F_a_vehicleSteps_12.other W17 (Or.inr (slot_ne (Or.inl (tw hw 61 rfl)) (Or.inl (tw hw 107 rfl)) (by decide) (t := .long) (t' := .long) (by decide) (by decide)))
  have F_a_speedSum_17 := F_a_speedSum_12.other W17 (Or.inr (slot_ne (Or.inl (tw hw 63 rfl)) (Or.inl (tw hw 107 rfl)) (by decide) (t := .double) (t' := .long) (by decide) (by decide)))
  have F_a_departed_17 := F_a_departed_12.other W17 (Or.inr (slot_ne (Or.inl (tw hw 101 rfl)) (Or.inl (tw hw 107 rfl)) (by decide) (t := .long) (t' := .long) (by decide) (by decide)))
  have F_a_arrived_17 := F_a_arrived_12.other W17 (Or.inr (slot_ne (Or.inl (tw hw 103 rfl)) (Or.inl (tw hw 107 rfl)) (by decide) (t := .long) (t' := .long) (by decide) (by decide)))
  have F_a_trips_17 := F_a_trips_12.other W17 (Or.inr (slot_ne (Or.inl (tw hw 105 rfl)) (Or.inl (tw hw 107 rfl)) (by decide) (t := .long) (t' := .long) (by decide) (by decide)))
  have E_hm_17 := E_hm_12.wr W17
  have F_hm_table_17 := F_hm_table_12.other W17 (Or.inl hne)
  have F_hm_size_17 := F_hm_size_12.other W17 (Or.inl hne)
  have F_a_tripDurationsMs_17 := F_a_tripDurationsMs_12.same W17
  have K17 := K12.wr W17 (Or.inl (List.mem_of_getElem? (i := 0) rfl))
  have N17 := Fr.snoc X17 N12 ga
  have Z17 : n0 ≤ h17.size := Nat.le_trans Z12 (Keep.of_wr W17).1
  refine Dn.st st17 ?_
  refine Dn.st (fun _ kk => XS.aloadN X17.here hx rfl (hb hby d14_20) rfl rfl (XS.lconst X17.here hx rfl (hb hby d14_21) (kk))) ?_
  show Dn p e below s _ _ _ (T17.setTop (mkF m 22 #[vr a] [(.long (0 : Int64)), (.ref a)]))
  obtain ⟨T22, h22, X22, e22, W22, st22⟩ := putF X17 hx hZ hown (host := "") (Or.inl (tw hw 60 rfl)) Via.refl e17 F_a_vehicleSteps_17 E_a_17 (Or.inl (tw hw 61 rfl)) (tw hw 28 rfl) (ty := .long) (by decide) rfl rfl (g := (mkF m 22 #[vr a] [(.long (0 : Int64)), (.ref a)])) rfl rfl (hb hby d14_22)
  have E_a_22 := E_a_17.wr W22
  have F_a_waitingMs_22 := F_a_waitingMs_17.other W22 (Or.inr (slot_ne (Or.inr (tw hw 53 rfl)) (Or.inl (tw hw 61 rfl)) (by decide) (t := (.object "java/util/Map")) (t' := .long) (by decide) (by decide)))
  have F_a_speedSum_22 := F_a_speedSum_17.other W22 (Or.inr (slot_ne (Or.inl (tw hw 63 rfl)) (Or.inl (tw hw 61 rfl)) (by decide) (t := .double) (t' := .long) (by decide) (by decide)))
  have F_a_departed_22 := F_a_departed_17.other W22 (Or.inr (slot_ne (Or.inl (tw hw 101 rfl)) (Or.inl (tw hw 61 rfl)) (by decide) (t := .long) (t' := .long) (by decide) (by decide)))
  have F_a_arrived_22 := F_a_arrived_17.other W22 (Or.inr (slot_ne (Or.inl (tw hw 103 rfl)) (Or.inl (tw hw 61 rfl)) (by decide) (t := .long) (t' := .long) (by decide) (by decide)))
  have F_a_trips_22 := F_a_trips_17.other W22 (Or.inr (slot_ne (Or.inl (tw hw 105 rfl)) (Or.inl (tw hw 61 rfl)) (by decide) (t := .long) (t' := .long) (by decide) (by decide)))
  have F_a_tripDurationsMs_22 := F_a_tripDurationsMs_17.other W22 (Or.inr (slot_ne (Or.inl (tw hw 107 rfl)) (Or.inl (tw hw 61 rfl)) (by decide) (t := .long) (t' := .long) (by decide) (by decide)))
  have E_hm_22 := E_hm_17.wr W22
  have F_hm_table_22 := F_hm_table_17.other W22 (Or.inl hne)
  have F_hm_size_22 := F_hm_size_17.other W22 (Or.inl hne)
  have F_a_vehicleSteps_22 := F_a_vehicleSteps_17.same W22
  have K22 := K17.wr W22 (Or.inl (List.mem_of_getElem? (i := 0) rfl))
  have N22 := Fr.snoc X22 N17 ga
  have Z22 : n0 ≤ h22.size := Nat.le_trans Z17 (Keep.of_wr W22).1
  refine Dn.st st22 ?_
  refine Dn.st (fun _ kk => XS.aloadN X22.here hx rfl (hb hby d14_25) rfl rfl (XS.dconst0 X22.here hx rfl (hb hby d14_26) rfl (kk))) ?_
  show Dn p e below s _ _ _ (T22.setTop (mkF m 27 #[vr a] [(.double FP.dconst0), (.ref a)]))
  obtain ⟨T27, h27, X27, e27, W27, st27⟩ := putF X22 hx hZ hown (host := "") (Or.inl (tw hw 62 rfl)) Via.refl e22 F_a_speedSum_22 E_a_22 (Or.inl (tw hw 63 rfl)) (tw hw 28 rfl) (ty := .double) (by decide) rfl rfl (g := (mkF m 27 #[vr a] [(.double FP.dconst0), (.ref a)])) rfl rfl (hb hby d14_27)
  have E_a_27 := E_a_22.wr W27
  have F_a_waitingMs_27 := F_a_waitingMs_22.other W27 (Or.inr (slot_ne (Or.inr (tw hw 53 rfl)) (Or.inl (tw hw 63 rfl)) (by decide) (t := (.object "java/util/Map")) (t' := .double) (by decide) (by decide)))
  have F_a_vehicleSteps_27 := F_a_vehicleSteps_22.other W27 (Or.inr (slot_ne (Or.inl (tw hw 61 rfl)) (Or.inl (tw hw 63 rfl)) (by decide) (t := .long) (t' := .double) (by decide) (by decide)))
  have F_a_departed_27 := F_a_departed_22.other W27 (Or.inr (slot_ne (Or.inl (tw hw 101 rfl)) (Or.inl (tw hw 63 rfl)) (by decide) (t := .long) (t' := .double) (by decide) (by decide)))
  have F_a_arrived_27 := F_a_arrived_22.other W27 (Or.inr (slot_ne (Or.inl (tw hw 103 rfl)) (Or.inl (tw hw 63 rfl)) (by decide) (t := .long) (t' := .double) (by decide) (by decide)))
  have F_a_trips_27 := F_a_trips_22.other W27 (Or.inr (slot_ne (Or.inl (tw hw 105 rfl)) (Or.inl (tw hw 63 rfl)) (by decide) (t := .long) (t' := .double) (by decide) (by decide)))
  have F_a_tripDurationsMs_27 := F_a_tripDurationsMs_22.other W27 (Or.inr (slot_ne (Or.inl (tw hw 107 rfl)) (Or.inl (tw hw 63 rfl)) (by decide) (t := .long) (t' := .double) (by decide) (by decide)))
  have E_hm_27 := E_hm_22.wr W27
  have F_hm_table_27 := F_hm_table_22.other W27 (Or.inl hne)
  have F_hm_size_27 := F_hm_size_22.other W27 (Or.inl hne)
  have F_a_speedSum_27 := F_a_speedSum_22.same W27
  have K27 := K22.wr W27 (Or.inl (List.mem_of_getElem? (i := 0) rfl))
  have N27 := Fr.snoc X27 N22 ga
  have Z27 : n0 ≤ h27.size := Nat.le_trans Z22 (Keep.of_wr W27).1
  refine Dn.st st27 ?_
  refine Dn.st (fun _ kk => XS.aloadN X27.here hx rfl (hb hby d14_30) rfl rfl (kk)) ?_
  show Dn p e below s _ _ _ (T27.setTop (mkF m 31 #[vr a] [(.ref a)]))
  obtain ⟨T31, X31, e31, st31⟩ := getF X27 hx hZ hown (host := "") (Or.inl (tw hw 52 rfl)) Via.refl e27 F_a_waitingMs_27 (g := (mkF m 31 #[vr a] [(.ref a)])) rfl rfl (hb hby d14_31)
  refine Dn.st st31 ?_
  obtain ⟨lm34, st34⟩ := own_lam0 X31 hx hZ Bd.named (g := (mkF m 34 #[vr a] [(.ref hm)])) (tw hw 108 rfl) rfl rfl (by rw [hml]; rfl) (hb hby d14_34) (Nat.le_of_ble_eq_true rfl)
  refine Dn.st st34 ?_
  obtain ⟨cq39, kq39, q39a, q39b, q39c⟩ := isOf hZ e31 E_hm_27
  obtain ⟨_, _, ⟨T39, L39, k39, n39⟩, -, X39, ⟨Lc39, hQ39, l39, y39, z39⟩, st39⟩ := X31.interfaceBack hx (xi := (⟨"java/util/Map", "replaceAll", "(Ljava/util/function/BiFunction;)V"⟩ : MethodName)) (y := on1) hown (mvT hZ (tw hw 109 rfl)) (mvT hZ (tw hw 110 rfl)) (mvT hZ (tw hw 111 rfl)) (mvT hZ (tw hw 112 rfl)) (mvT hZ (tw hw 113 rfl)) (mvT hZ (tw hw 114 rfl)) (mvT hZ (tw hw 115 rfl)) (mvT hZ (tw hw 76 rfl)) (by decide) (backOf (W := 0) (rmRa l Z a0 hw [] hm lm34  h27 n0 Z27 ⟨E_hm_27, F_hm_table_27, F_hm_size_27⟩) hZ (tw hw 116 rfl) (tw hw 36 rfl) (by decide) (by decide)) q39a q39b q39c (g := (mkF m 39 #[vr a] [(.ref lm34), (.ref hm)])) rfl (by rw [hml]; rfl) (Steps.refl _) (argsL := [(.ref lm34)]) (rest := []) (lenOf pd6 rfl) rfl (by show 2 * 0 + _ ≤ _; exact Nat.le_of_eq rfl) (hb hby d14_39) (fun _ _ => ⟨rfl, e31, (by decide : 0 + 0 ≤ _), (by decide : 0 + 0 ≤ _)⟩)
  dsimp only [Pt.U, Pt.locs, Pt.cells, Pt.slots] at X39 l39 y39 z39 st39 hQ39
  subst l39 y39 z39
  obtain ⟨rfl, Nq39, hh39⟩ := hQ39
  have N39 := Fr.app N27 Nq39
  refine Dn.tr st39 ?_
  exact Dn.ret0 X39 hlk hx hret (hb hby d14_44) (by rw [hh39]; exact ⟨rfl, N39, K27, E_a_27, F_a_waitingMs_27, F_a_vehicleSteps_27, F_a_speedSum_27, F_a_departed_27, F_a_arrived_27, F_a_trips_27, F_a_tripDurationsMs_27⟩) (by decide) (by decide)

theorem d13_0 : decode prog_37_method_11_code 0 = .ok (.aload_n 0, 1) := by decide +kernel
theorem d13_1 : decode prog_37_method_11_code 1 = .ok (.getfield 52, 3) := by decide +kernel
theorem d13_4 : decode prog_37_method_11_code 4 = .ok (.lreturn, 1) := by decide +kernel
theorem ef13_rmGv (m : MethodId) (x0 : Addr) : entryFrame m #[(.ref x0)] 1 = mkF m 0 #[vr x0] [] := by first | (simp [entryFrame, mkF, argsToLocals, Value.category]; done) | rfl
def QGv (Z : State) (a : Addr) (hm : Addr) (vs : Int64) (ss : UInt64) (h0 : Heap) (n0 : Nat) (v : Option Value) (h : Heap) (L : List Loc) : Prop := v = some (.long vs) ∧ Fr n0 L ∧ h = h0
theorem rmGv (l : Launch) (Z : State) (a0 : Array Value) (hw : ∀ d ∈ tables_1, d.before a0 Z = true) (ws : List Jvm.Cond) (a : Addr) (hm : Addr) (vs : Int64) (ss : UInt64) (h0 : Heap) (n0 : Nat) (Z0 : n0 ≤ h0.size) (hV : own_VS Z h0 a hm vs ss) :
    own_Met l (⟨"com/example/nudo/nudo/core/metrics/VehicleStatistics", "getVehicleSteps", "()J"⟩ : MethodName) (Jvm.Cond.code (⟨"com/example/nudo/nudo/core/metrics/VehicleStatistics", "getVehicleSteps", "()J"⟩ : MethodName) prog_37_method_11_code 1 (some .long) :: ws) orm3 #[(.ref a)] Z h0 (QGv Z a hm vs ss h0 n0) := by
  refine MetFree.of_bodySF (plainFor_of_name pn4) hisR ?_
  intro p e s m args below meth c s₁ Bd hml0 hP hK
  obtain ⟨rfl, hZ, hh⟩ := hP
  have hml : c.maxLocals = 1 := hml0
  obtain ⟨hx, hby, hlk, hret, (hown : s.vm.findClass "com/example/nudo/nudo/core/metrics/VehicleStatistics" = _), (X0 : Stand p l e orm3 s m _ below meth c s₁ [] 0 0), e0⟩ := own_bg Bd hh
  have N0 := Fr.nil n0
  show Dn p e below s (QGv Z a hm vs ss h0 n0) orm3.cells orm3.slots (s₁.setTop (entryFrame m #[(.ref a)] 1))
  refine Dn.st (fun _ kk => castTop (ef13_rmGv m a) kk) ?_
  refine Dn.st (fun _ kk => XS.aloadN X0.here hx rfl (hb hby d13_0) rfl rfl (kk)) ?_
  show Dn p e below s _ _ _ (s₁.setTop (mkF m 1 #[vr a] [(.ref a)]))
  obtain ⟨T1, X1, e1, st1⟩ := getF X0 hx hZ hown (host := "") (Or.inl (tw hw 60 rfl)) Via.refl e0 hV.2.2.1 (g := (mkF m 1 #[vr a] [(.ref a)])) rfl rfl (hb hby d13_1)
  refine Dn.st st1 ?_
  exact Dn.ret X1 hlk hx hret rfl (Or.inr (Or.inl ⟨rfl, rfl, _, rfl⟩)) (hb hby d13_4) (by rw [e1]; exact ⟨rfl, N0, rfl⟩) (by decide) (by decide)

theorem d12_0 : decode prog_37_method_13_code 0 = .ok (.aload_n 0, 1) := by decide +kernel
theorem d12_1 : decode prog_37_method_13_code 1 = .ok (.getfield 52, 3) := by decide +kernel
theorem d12_4 : decode prog_37_method_13_code 4 = .ok (.lconst 0, 1) := by decide +kernel
theorem d12_5 : decode prog_37_method_13_code 5 = .ok (.lcmp, 1) := by decide +kernel
theorem d12_6 : decode prog_37_method_13_code 6 = .ok (.ifCond .ne 7, 3) := by decide +kernel
theorem d12_9 : decode prog_37_method_13_code 9 = .ok (.dconst 0, 1) := by decide +kernel
theorem d12_10 : decode prog_37_method_13_code 10 = .ok (.goto 13, 3) := by decide +kernel
theorem d12_23 : decode prog_37_method_13_code 23 = .ok (.dreturn, 1) := by decide +kernel
theorem ef12_rmG0 (m : MethodId) (x0 : Addr) : entryFrame m #[(.ref x0)] 1 = mkF m 0 #[vr x0] [] := by first | (simp [entryFrame, mkF, argsToLocals, Value.category]; done) | rfl
def QG0 (Z : State) (a : Addr) (hm : Addr) (ss : UInt64) (h0 : Heap) (n0 : Nat) (v : Option Value) (h : Heap) (L : List Loc) : Prop := v = some (.double FP.dconst0) ∧ Fr n0 L ∧ h = h0
theorem rmG0 (l : Launch) (Z : State) (a0 : Array Value) (hw : ∀ d ∈ tables_1, d.before a0 Z = true) (ws : List Jvm.Cond) (a : Addr) (hm : Addr) (ss : UInt64) (h0 : Heap) (n0 : Nat) (Z0 : n0 ≤ h0.size) (hV : own_VS Z h0 a hm 0 ss) :
    own_Met l on0 (Jvm.Cond.code on0 prog_37_method_13_code 1 (some .double) :: ws) orm3 #[(.ref a)] Z h0 (QG0 Z a hm ss h0 n0) := by
  refine MetFree.of_bodySF (plainFor_of_name pn4) hisR ?_
  intro p e s m args below meth c s₁ Bd hml0 hP hK
  obtain ⟨rfl, hZ, hh⟩ := hP
  have hml : c.maxLocals = 1 := hml0
  obtain ⟨hx, hby, hlk, hret, (hown : s.vm.findClass "com/example/nudo/nudo/core/metrics/VehicleStatistics" = _), (X0 : Stand p l e orm3 s m _ below meth c s₁ [] 0 0), e0⟩ := own_bg Bd hh
  have N0 := Fr.nil n0
  show Dn p e below s (QG0 Z a hm ss h0 n0) orm3.cells orm3.slots (s₁.setTop (entryFrame m #[(.ref a)] 1))
  refine Dn.st (fun _ kk => castTop (ef12_rmG0 m a) kk) ?_
  refine Dn.st (fun _ kk => XS.aloadN X0.here hx rfl (hb hby d12_0) rfl rfl (kk)) ?_
  show Dn p e below s _ _ _ (s₁.setTop (mkF m 1 #[vr a] [(.ref a)]))
  obtain ⟨T1, X1, e1, st1⟩ := getF X0 hx hZ hown (host := "") (Or.inl (tw hw 60 rfl)) Via.refl e0 hV.2.2.1 (g := (mkF m 1 #[vr a] [(.ref a)])) rfl rfl (hb hby d12_1)
  refine Dn.st st1 ?_
  refine Dn.st (fun _ kk => XS.lconst X1.here hx rfl (hb hby d12_4) (XS.lcmp X1.here hx rfl (hb hby d12_5) rfl (kk))) ?_
  show Dn p e below s _ _ _ (T1.setTop (mkF m 6 #[vr a] [(.int 0)]))
  have hc6 : (0 : Int32) = (0 : Int32) := by decide
  refine Dn.st (fun _ kk => XS.ifNo X1.here hx rfl (hb hby d12_6) rfl ((if0 _ _).trans (teq hc6).2) (XS.dconst0 X1.here hx rfl (hb hby d12_9) rfl (XS.goto X1.here hx rfl (pc0 := 10) (pc' := 23) rfl (hb hby d12_10) (by decide) (by decide) (kk)))) ?_
  show Dn p e below s _ _ _ (T1.setTop (mkF m 23 #[vr a] [(.double FP.dconst0)]))
  exact Dn.ret X1 hlk hx hret rfl (Or.inr (Or.inr (Or.inl ⟨rfl, rfl, _, rfl⟩))) (hb hby d12_23) (by rw [e1]; exact ⟨rfl, N0, rfl⟩) (by decide) (by decide)

theorem d12_13 : decode prog_37_method_13_code 13 = .ok (.aload_n 0, 1) := by decide +kernel
theorem d12_14 : decode prog_37_method_13_code 14 = .ok (.getfield 55, 3) := by decide +kernel
theorem d12_17 : decode prog_37_method_13_code 17 = .ok (.aload_n 0, 1) := by decide +kernel
theorem d12_18 : decode prog_37_method_13_code 18 = .ok (.getfield 52, 3) := by decide +kernel
theorem d12_21 : decode prog_37_method_13_code 21 = .ok (.l2d, 1) := by decide +kernel
theorem d12_22 : decode prog_37_method_13_code 22 = .ok (.ddiv, 1) := by decide +kernel
theorem ef12_rmG1 (m : MethodId) (x0 : Addr) : entryFrame m #[(.ref x0)] 1 = mkF m 0 #[vr x0] [] := by first | (simp [entryFrame, mkF, argsToLocals, Value.category]; done) | rfl
def QG1 (Z : State) (a : Addr) (hm : Addr) (vs : Int64) (ss : UInt64) (h0 : Heap) (n0 : Nat) (v : Option Value) (h : Heap) (L : List Loc) : Prop := v = some (.double (FP.ddiv ss (FP.l2d vs))) ∧ Fr n0 L ∧ h = h0
theorem rmG1 (l : Launch) (Z : State) (a0 : Array Value) (hw : ∀ d ∈ tables_1, d.before a0 Z = true) (ws : List Jvm.Cond) (a : Addr) (hm : Addr) (vs : Int64) (ss : UInt64) (h0 : Heap) (n0 : Nat) (Z0 : n0 ≤ h0.size) (hV : own_VS Z h0 a hm vs ss) (hn0 : ¬ vs = 0) (hnn : Jvm.Free.Fl.NoNaN64 (FP.ddiv ss (FP.l2d vs))) :
    own_Met l on0 (Jvm.Cond.code on0 prog_37_method_13_code 1 (some .double) :: ws) orm3 #[(.ref a)] Z h0 (QG1 Z a hm vs ss h0 n0) := by
  refine MetFree.of_bodySF (plainFor_of_name pn4) hisR ?_
  intro p e s m args below meth c s₁ Bd hml0 hP hK
  obtain ⟨rfl, hZ, hh⟩ := hP
  have hml : c.maxLocals = 1 := hml0
  obtain ⟨hx, hby, hlk, hret, (hown : s.vm.findClass "com/example/nudo/nudo/core/metrics/VehicleStatistics" = _), (X0 : Stand p l e orm3 s m _ below meth c s₁ [] 0 0), e0⟩ := own_bg Bd hh
  have N0 := Fr.nil n0
  show Dn p e below s (QG1 Z a hm vs ss h0 n0) orm3.cells orm3.slots (s₁.setTop (entryFrame m #[(.ref a)] 1))
  refine Dn.st (fun _ kk => castTop (ef12_rmG1 m a) kk) ?_
  refine Dn.st (fun _ kk => XS.aloadN X0.here hx rfl (hb hby d12_0) rfl rfl (kk)) ?_
  show Dn p e below s _ _ _ (s₁.setTop (mkF m 1 #[vr a] [(.ref a)]))
  obtain ⟨T1, X1, e1, st1⟩ := getF X0 hx hZ hown (host := "") (Or.inl (tw hw 60 rfl)) Via.refl e0 hV.2.2.1 (g := (mkF m 1 #[vr a] [(.ref a)])) rfl rfl (hb hby d12_1)
  refine Dn.st st1 ?_
  refine Dn.st (fun _ kk => XS.lconst X1.here hx rfl (hb hby d12_4) (XS.lcmp X1.here hx rfl (hb hby d12_5) rfl (kk))) ?_
  show Dn p e below s _ _ _ (T1.setTop (mkF m 6 #[vr a] [(.int (lcmpW vs (0 : Int64)))]))
  have hc6 : ¬ ((lcmpW vs (0 : Int64)) = (0 : Int32)) := mt (lw_eq _ _).mp hn0
  refine Dn.st (fun _ kk => XS.ifYes X1.here hx rfl (pc0 := 6) (pc' := 13) rfl (hb hby d12_6) rfl ((if0 _ _).trans (feq hc6).2) (by decide) (by decide) (XS.aloadN X1.here hx rfl (hb hby d12_13) rfl rfl (kk))) ?_
  show Dn p e below s _ _ _ (T1.setTop (mkF m 14 #[vr a] [(.ref a)]))
  obtain ⟨T14, X14, e14, st14⟩ := getF X1 hx hZ hown (host := "") (Or.inl (tw hw 62 rfl)) Via.refl e1 hV.2.2.2.1 (g := (mkF m 14 #[vr a] [(.ref a)])) rfl rfl (hb hby d12_14)
  refine Dn.st st14 ?_
  refine Dn.st (fun _ kk => XS.aloadN X14.here hx rfl (hb hby d12_17) rfl rfl (kk)) ?_
  show Dn p e below s _ _ _ (T14.setTop (mkF m 18 #[vr a] [(.ref a), (.double ss)]))
  obtain ⟨T18, X18, e18, st18⟩ := getF X14 hx hZ hown (host := "") (Or.inl (tw hw 60 rfl)) Via.refl e14 hV.2.2.1 (g := (mkF m 18 #[vr a] [(.ref a), (.double ss)])) rfl rfl (hb hby d12_18)
  refine Dn.st st18 ?_
  refine Dn.st (fun _ kk => XS.l2dS X18.here hx rfl (hb hby d12_21) rfl rfl (XS.ddivS X18.here hx rfl (hb hby d12_22) rfl hnn rfl (kk))) ?_
  show Dn p e below s _ _ _ (T18.setTop (mkF m 23 #[vr a] [(.double (FP.ddiv ss (FP.l2d vs)))]))
  exact Dn.ret X18 hlk hx hret rfl (Or.inr (Or.inr (Or.inl ⟨rfl, rfl, _, rfl⟩))) (hb hby d12_23) (by rw [e18]; exact ⟨rfl, N0, rfl⟩) (by decide) (by decide)

theorem dc_0 : DS 0 0 (0 : UInt64) := DS.lit (s := false) (c := 0) (q := -1074) (by decide +kernel) (by decide +kernel)
theorem dc_4616189618054758400 : DS 0 4 (4616189618054758400 : UInt64) := DS.lit (s := false) (c := 4503599627370496) (q := -50) (by decide +kernel) (by decide +kernel)
theorem pd7 : parseMethodDescriptor "(C)Ljava/lang/String;" = some ⟨[.char], some (.object "java/lang/String")⟩ := by decide +kernel
theorem pd8 : parseMethodDescriptor "()D" = some ⟨[], some .double⟩ := by decide +kernel
theorem pd9 : parseMethodDescriptor "()J" = some ⟨[], some .long⟩ := by decide +kernel
theorem pd10 : parseMethodDescriptor "(Ljava/lang/String;DJ)V" = some ⟨[(.object "java/lang/String"), .double, .long], none⟩ := by decide +kernel
theorem pn5 : plainName "com/example/nudo/nudo/core/metrics/VehicleStatisticsGetMeanSpeedPinLaw" = true := by first | (simp [plainName, overriddenIn]; done) | decide +kernel
theorem ef0_rm0 (m : MethodId) (x0 : Int32) (x1 : Int32) (x2 : Int32) (x3 : Int32) (x4 : Int32) (x5 : Int64) : entryFrame m #[(.int x0), (.int x1), (.int x2), (.int x3), (.int x4), (.long x5)] maxLocals = mkF m 0 #[vi x0, vi x1, vi x2, vi x3, vi x4, .val (.long x5), .second, .unset, .unset, .unset, .unset, .unset, .unset, .unset, .unset, .unset, .unset, .unset, .unset] [] := by first | (simp [entryFrame, mkF, argsToLocals, Value.category, maxLocals]; done) | rfl
def Q0 (Z : State) (p0 : Int32) (p1 : Int32) (p2 : Int32) (p3 : Int32) (p4 : Int32) (p5 : Int64) (cs : Int32) (h0 : Heap) (n0 : Nat) (v : Option Value) (h : Heap) (L : List Loc) : Prop := v = some (.int 1) ∧ Fr n0 L
theorem rm0 (l : Launch) (Z : State) (a0 : Array Value) (hw : ∀ d ∈ tables_1, d.before a0 Z = true) (ws : List Jvm.Cond) (p0 : Int32) (p1 : Int32) (p2 : Int32) (p3 : Int32) (p4 : Int32) (p5 : Int64) (cs : Int32) (h0 : Heap) (n0 : Nat) (Z0 : n0 ≤ h0.size) (hS : Sta Z h0 "java/lang/String" "COMPACT_STRINGS" "Z" (.int cs)) (hcs : ¬ cs = 0) :
    MetFree l x (head1 (Jvm.Cond.code x code maxLocals ret :: ws) room_1) (fun aa UU => aa = #[(.int p0), (.int p1), (.int p2), (.int p3), (.int p4), (.long p5)] ∧ Z.Warmed39 UU.vm ∧ UU.heap = h0) (fun _ _ _ _ _ => True) (fun _ UU oo UU' => ∃ vv LL, oo = .returned vv ∧ Q0 Z p0 p1 p2 p3 p4 p5 cs h0 n0 vv UU'.heap LL ∧ ReturnedEndW UU oo UU' LL 32 192) := by
  refine MetFree.of_bodySF (plainFor_of_name pn5) hisR ?_
  intro p e s m args below meth c s₁ Bd hml0 hP hK
  obtain ⟨rfl, hZ, hh⟩ := hP
  have hml : c.maxLocals = 19 := hml0
  obtain ⟨hx, hby, hlk, hret, (hown : s.vm.findClass "com/example/nudo/nudo/core/metrics/VehicleStatisticsGetMeanSpeedPinLaw" = _), (X0 : Stand p l e room_1 s m _ below meth c s₁ [] 0 0), e0⟩ := own_bg Bd hh
  have N0 := Fr.nil n0
  have r_p0 := rng32 p0
  have r_p1 := rng32 p1
  have r_p2 := rng32 p2
  have r_p3 := rng32 p3
  have r_p4 := rng32 p4
  have r_p5 := rng64 p5
  show Dw p e below s (Q0 Z p0 p1 p2 p3 p4 p5 cs h0 n0) 32 192 (s₁.setTop (entryFrame m #[(.int p0), (.int p1), (.int p2), (.int p3), (.int p4), (.long p5)] maxLocals))
  refine Dw.st (fun _ kk => castTop (ef0_rm0 m p0 p1 p2 p3 p4 p5) kk) ?_
  refine Dw.ofN ?_
  refine Dn.st (fun _ kk => XS.iloadN X0.here hx rfl (hb hby at_0) rfl (XS.iconst X0.here hx rfl (hb hby at_1) (XS.iand X0.here hx rfl (hb hby at_2) rfl (kk)))) ?_
  show Dn p e below s _ _ _ (s₁.setTop (mkF m 3 #[vi p0, vi p1, vi p2, vi p3, vi p4, .val (.long p5), .second, .unset, .unset, .unset, .unset, .unset, .unset, .unset, .unset, .unset, .unset, .unset, .unset] [(.int (p3 &&& (3 : Int32)))]))
  generalize hv2 : ((p3 &&& (3 : Int32)) : Int32) = v2
  have q2 : v2.toInt = p3.toInt % 4 := by have qq := c_mask p3 (3 : Int32) 2 (by decide) (by decide); rw [hv2] at qq; exact qq
  have r2 := rng32 v2
  refine Dn.st (fun _ kk => XS.istore X0.here hx rfl (hb hby at_3) rfl (l' := #[vi p0, vi p1, vi p2, vi p3, vi p4, .val (.long p5), .second, vi v2, .unset, .unset, .unset, .unset, .unset, .unset, .unset, .unset, .unset, .unset, .unset]) rfl (XS.iloadN X0.here hx rfl (hb hby at_5) rfl (XS.iconst X0.here hx rfl (hb hby at_6) (XS.iand X0.here hx rfl (hb hby at_7) rfl (kk))))) ?_
  show Dn p e below s _ _ _ (s₁.setTop (mkF m 8 #[vi p0, vi p1, vi p2, vi p3, vi p4, .val (.long p5), .second, vi v2, .unset, .unset, .unset, .unset, .unset, .unset, .unset, .unset, .unset, .unset, .unset] [(.int (p3 &&& (4 : Int32)))]))
  generalize hv7 : ((p3 &&& (4 : Int32)) : Int32) = v7
  have q7 : 0 ≤ v7.toInt ∧ v7.toInt ≤ 4 := by have qq := c_and p3 (4 : Int32) (by decide); rw [hv7] at qq; exact qq
  have r7 := rng32 v7
  by_cases hc8 : v7 = (0 : Int32)
  · have hi8 : v7.toInt = 0 := congrArg Int32.toInt hc8
    refine Dn.st (fun _ kk => XS.ifYes X0.here hx rfl (pc0 := 8) (pc' := 15) rfl (hb hby at_8) rfl ((if0 _ _).trans (teq hc8).1) (by decide) (by decide) (XS.iconst X0.here hx rfl (hb hby at_15) (XS.istore X0.here hx rfl (hb hby at_16) rfl (l' := #[vi p0, vi p1, vi p2, vi p3, vi p4, .val (.long p5), .second, vi v2, vi 0, .unset, .unset, .unset, .unset, .unset, .unset, .unset, .unset, .unset, .unset]) rfl (XS.iloadN X0.here hx rfl (hb hby at_18) rfl (X0.ldcInt hx hown (mvT hZ (tw hw 0 rfl)) (g := (mkF m 19 #[vi p0, vi p1, vi p2, vi p3, vi p4, .val (.long p5), .second, vi v2, vi 0, .unset, .unset, .unset, .unset, .unset, .unset, .unset, .unset, .unset, .unset] [(.int p0)])) rfl (hb hby at_19) _ (iremM X0 hx rfl (hb hby at_21) rfl (by decide) (kk))))))) ?_
    show Dn p e below s _ _ _ (s₁.setTop (mkF m 22 #[vi p0, vi p1, vi p2, vi p3, vi p4, .val (.long p5), .second, vi v2, vi 0, .unset, .unset, .unset, .unset, .unset, .unset, .unset, .unset, .unset, .unset] [(.int (p0 % (100000 : Int32)))]))
    generalize hv21 : ((p0 % (100000 : Int32)) : Int32) = v21
    have q21 : (0 ≤ p0.toInt → v21.toInt = p0.toInt % 100000) ∧ (p0.toInt < 0 → v21.toInt = -((-p0.toInt) % 100000)) := by have qq := c_irem p0 (100000 : Int32) 100000 rfl; rw [hv21] at qq; exact qq
    have r21 := rng32 v21
    refine Dn.st (fun _ kk => XS.istore X0.here hx rfl (hb hby at_22) rfl (l' := #[vi p0, vi p1, vi p2, vi p3, vi p4, .val (.long p5), .second, vi v2, vi 0, vi v21, .unset, .unset, .unset, .unset, .unset, .unset, .unset, .unset, .unset]) rfl (XS.iloadN X0.here hx rfl (hb hby at_24) rfl (X0.ldcInt hx hown (mvT hZ (tw hw 0 rfl)) (g := (mkF m 25 #[vi p0, vi p1, vi p2, vi p3, vi p4, .val (.long p5), .second, vi v2, vi 0, vi v21, .unset, .unset, .unset, .unset, .unset, .unset, .unset, .unset, .unset] [(.int p1)])) rfl (hb hby at_25) _ (iremM X0 hx rfl (hb hby at_27) rfl (by decide) (kk))))) ?_
    show Dn p e below s _ _ _ (s₁.setTop (mkF m 28 #[vi p0, vi p1, vi p2, vi p3, vi p4, .val (.long p5), .second, vi v2, vi 0, vi v21, .unset, .unset, .unset, .unset, .unset, .unset, .unset, .unset, .unset] [(.int (p1 % (100000 : Int32)))]))
    generalize hv27 : ((p1 % (100000 : Int32)) : Int32) = v27
    have q27 : (0 ≤ p1.toInt → v27.toInt = p1.toInt % 100000) ∧ (p1.toInt < 0 → v27.toInt = -((-p1.toInt) % 100000)) := by have qq := c_irem p1 (100000 : Int32) 100000 rfl; rw [hv27] at qq; exact qq
    have r27 := rng32 v27
    refine Dn.st (fun _ kk => XS.istore X0.here hx rfl (hb hby at_28) rfl (l' := #[vi p0, vi p1, vi p2, vi p3, vi p4, .val (.long p5), .second, vi v2, vi 0, vi v21, vi v27, .unset, .unset, .unset, .unset, .unset, .unset, .unset, .unset]) rfl (XS.iloadN X0.here hx rfl (hb hby at_30) rfl (X0.ldcInt hx hown (mvT hZ (tw hw 0 rfl)) (g := (mkF m 31 #[vi p0, vi p1, vi p2, vi p3, vi p4, .val (.long p5), .second, vi v2, vi 0, vi v21, vi v27, .unset, .unset, .unset, .unset, .unset, .unset, .unset, .unset] [(.int p2)])) rfl (hb hby at_31) _ (iremM X0 hx rfl (hb hby at_33) rfl (by decide) (kk))))) ?_
    show Dn p e below s _ _ _ (s₁.setTop (mkF m 34 #[vi p0, vi p1, vi p2, vi p3, vi p4, .val (.long p5), .second, vi v2, vi 0, vi v21, vi v27, .unset, .unset, .unset, .unset, .unset, .unset, .unset, .unset] [(.int (p2 % (100000 : Int32)))]))
    generalize hv33 : ((p2 % (100000 : Int32)) : Int32) = v33
    have q33 : (0 ≤ p2.toInt → v33.toInt = p2.toInt % 100000) ∧ (p2.toInt < 0 → v33.toInt = -((-p2.toInt) % 100000)) := by have qq := c_irem p2 (100000 : Int32) 100000 rfl; rw [hv33] at qq; exact qq
    have r33 := rng32 v33
    refine Dn.st (fun _ kk => XS.istore X0.here hx rfl (hb hby at_34) rfl (l' := #[vi p0, vi p1, vi p2, vi p3, vi p4, .val (.long p5), .second, vi v2, vi 0, vi v21, vi v27, vi v33, .unset, .unset, .unset, .unset, .unset, .unset, .unset]) rfl (XS.iload X0.here hx rfl (hb hby at_36) rfl (XS.bipush X0.here hx rfl (hb hby at_38) (XS.ishr X0.here hx rfl (hb hby at_40) rfl (kk))))) ?_
    show Dn p e below s _ _ _ (s₁.setTop (mkF m 41 #[vi p0, vi p1, vi p2, vi p3, vi p4, .val (.long p5), .second, vi v2, vi 0, vi v21, vi v27, vi v33, .unset, .unset, .unset, .unset, .unset, .unset, .unset] [(.int (p4 >>> ((8 : Int32) &&& 31)))]))
    generalize hv40 : ((p4 >>> ((8 : Int32) &&& 31)) : Int32) = v40
    have q40 : v40.toInt = p4.toInt / 256 := by have qq := c_ishr p4 (8 : Int32) 8 (by decide); rw [hv40] at qq; exact qq
    have r40 := rng32 v40
    refine Dn.st (fun _ kk => X0.ldcInt hx hown (mvT hZ (tw hw 0 rfl)) (g := (mkF m 41 #[vi p0, vi p1, vi p2, vi p3, vi p4, .val (.long p5), .second, vi v2, vi 0, vi v21, vi v27, vi v33, .unset, .unset, .unset, .unset, .unset, .unset, .unset] [(.int v40)])) rfl (hb hby at_41) _ (iremM X0 hx rfl (hb hby at_43) rfl (by decide) (kk))) ?_
    show Dn p e below s _ _ _ (s₁.setTop (mkF m 44 #[vi p0, vi p1, vi p2, vi p3, vi p4, .val (.long p5), .second, vi v2, vi 0, vi v21, vi v27, vi v33, .unset, .unset, .unset, .unset, .unset, .unset, .unset] [(.int (v40 % (100000 : Int32)))]))
    generalize hv43 : ((v40 % (100000 : Int32)) : Int32) = v43
    have q43 : (0 ≤ v40.toInt → v43.toInt = v40.toInt % 100000) ∧ (v40.toInt < 0 → v43.toInt = -((-v40.toInt) % 100000)) := by have qq := c_irem v40 (100000 : Int32) 100000 rfl; rw [hv43] at qq; exact qq
    have r43 := rng32 v43
    refine Dn.st (fun _ kk => XS.istore X0.here hx rfl (hb hby at_44) rfl (l' := #[vi p0, vi p1, vi p2, vi p3, vi p4, .val (.long p5), .second, vi v2, vi 0, vi v21, vi v27, vi v33, vi v43, .unset, .unset, .unset, .unset, .unset, .unset]) rfl (XS.iload X0.here hx rfl (hb hby at_46) rfl (XS.sipush X0.here hx rfl (hb hby at_48) (XS.iand X0.here hx rfl (hb hby at_51) rfl (kk))))) ?_
    show Dn p e below s _ _ _ (s₁.setTop (mkF m 52 #[vi p0, vi p1, vi p2, vi p3, vi p4, .val (.long p5), .second, vi v2, vi 0, vi v21, vi v27, vi v33, vi v43, .unset, .unset, .unset, .unset, .unset, .unset] [(.int (p4 &&& (255 : Int32)))]))
    generalize hv51 : ((p4 &&& (255 : Int32)) : Int32) = v51
    have q51 : v51.toInt = p4.toInt % 256 := by have qq := c_mask p4 (255 : Int32) 8 (by decide) (by decide); rw [hv51] at qq; exact qq
    have r51 := rng32 v51
    refine Dn.st (fun _ kk => XS.i2c X0.here hx rfl (hb hby at_52) rfl (kk)) ?_
    show Dn p e below s _ _ _ (s₁.setTop (mkF m 53 #[vi p0, vi p1, vi p2, vi p3, vi p4, .val (.long p5), .second, vi v2, vi 0, vi v21, vi v27, vi v33, vi v43, .unset, .unset, .unset, .unset, .unset, .unset] [(.int (v51.toUInt32.toUInt16.toUInt32.toInt32))]))
    generalize hv52 : ((v51.toUInt32.toUInt16.toUInt32.toInt32) : Int32) = v52
    have q52 : (v52.toInt - v51.toInt) % 65536 = 0 ∧ 0 ≤ v52.toInt ∧ v52.toInt < 65536 := by have qq := c_i2c v51; rw [hv52] at qq; exact qq
    have r52 := rng32 v52
    obtain ⟨_, T53, Lc53, X53, hQ53, st53⟩ := own_cs X0 hx hZ hown (rmVc l Z a0 hw [] v52 cs h0 n0 Z0 (by intro q; have q' := Int32.lt_iff_toInt_lt.mp q; have e255 : (255 : Int32).toInt = 255 := rfl; omega) hS hcs) (tw hw 1 rfl) (tw hw 2 rfl) (tw hw 3 rfl) (tw hw 4 rfl) e0 (g := (mkF m 53 #[vi p0, vi p1, vi p2, vi p3, vi p4, .val (.long p5), .second, vi v2, vi 0, vi v21, vi v27, vi v33, vi v43, .unset, .unset, .unset, .unset, .unset, .unset] [(.int v52)])) (hb hby at_53) (W := 0) (argsL := [(.int v52)]) (rest := []) (lenOf pd7 rfl) rfl (by rw [hml]; rfl) rfl rfl (Nat.le_of_eq rfl) (by decide) (by decide) (by decide) (by decide) (by decide)
    obtain ⟨bb53, rfl, gz53, Nq53, K53⟩ := hQ53
    have N53 := Fr.app N0 Nq53
    refine Dn.st st53 ?_
    have Z53 : n0 ≤ T53.heap.size := Nat.le_trans Z0 K53.1
    refine Dn.st (fun _ kk => XS.astore X53.here hx rfl (hb hby at_56) rfl rfl (l' := #[vi p0, vi p1, vi p2, vi p3, vi p4, .val (.long p5), .second, vi v2, vi 0, vi v21, vi v27, vi v33, vi v43, vr bb53, .unset, .unset, .unset, .unset, .unset]) rfl (kk)) ?_
    show Dn p e below s _ _ _ (T53.setTop (mkF m 58 #[vi p0, vi p1, vi p2, vi p3, vi p4, .val (.long p5), .second, vi v2, vi 0, vi v21, vi v27, vi v33, vi v43, vr bb53, .unset, .unset, .unset, .unset, .unset] []))
    obtain ⟨T58, h58, X58, e58, E58, A58, D58, -, st58⟩ := newO X53 hx hZ hown (tw hw 27 rfl) (tw hw 28 rfl) (tw hw 29 rfl) rfl (g := (mkF m 58 #[vi p0, vi p1, vi p2, vi p3, vi p4, .val (.long p5), .second, vi v2, vi 0, vi v21, vi v27, vi v33, vi v43, vr bb53, .unset, .unset, .unset, .unset, .unset] [])) rfl (hb hby at_58) (by decide) (by decide)
    obtain ⟨b58, g58⟩ : ∃ z, z = T53.heap.size := ⟨_, rfl⟩
    rw [← g58] at A58 D58 st58
    have gn_b58 : n0 ≤ b58 := Nat.le_trans Z53 (Nat.le_of_eq g58.symm)
    have Z58 : n0 ≤ h58.size := Nat.le_trans Z53 E58.1
    have F_b58_departuresMs : Fld Z h58 b58 "com/example/nudo/nudo/core/metrics/VehicleStatistics" "departuresMs" "Ljava/util/Map;" .null := D58 (Or.inr (tw hw 51 rfl)) (ty := (.object "java/util/Map")) (by decide)
    have F_b58_waitingMs : Fld Z h58 b58 "com/example/nudo/nudo/core/metrics/VehicleStatistics" "waitingMs" "Ljava/util/Map;" .null := D58 (Or.inr (tw hw 53 rfl)) (ty := (.object "java/util/Map")) (by decide)
    have F_b58_vehicleSteps : Fld Z h58 b58 "com/example/nudo/nudo/core/metrics/VehicleStatistics" "vehicleSteps" "J" (.long (0 : Int64)) := D58 (Or.inl (tw hw 61 rfl)) (ty := .long) (by decide)
    have F_b58_speedSum : Fld Z h58 b58 "com/example/nudo/nudo/core/metrics/VehicleStatistics" "speedSum" "D" (.double (0 : UInt64)) := D58 (Or.inl (tw hw 63 rfl)) (ty := .double) (by decide)
    have F_b58_departed : Fld Z h58 b58 "com/example/nudo/nudo/core/metrics/VehicleStatistics" "departed" "J" (.long (0 : Int64)) := D58 (Or.inl (tw hw 101 rfl)) (ty := .long) (by decide)
    have F_b58_arrived : Fld Z h58 b58 "com/example/nudo/nudo/core/metrics/VehicleStatistics" "arrived" "J" (.long (0 : Int64)) := D58 (Or.inl (tw hw 103 rfl)) (ty := .long) (by decide)
    have F_b58_trips : Fld Z h58 b58 "com/example/nudo/nudo/core/metrics/VehicleStatistics" "trips" "J" (.long (0 : Int64)) := D58 (Or.inl (tw hw 105 rfl)) (ty := .long) (by decide)
    have F_b58_tripDurationsMs : Fld Z h58 b58 "com/example/nudo/nudo/core/metrics/VehicleStatistics" "tripDurationsMs" "J" (.long (0 : Int64)) := D58 (Or.inl (tw hw 107 rfl)) (ty := .long) (by decide)
    refine Dn.st st58 ?_
    refine Dn.st (fun _ kk => XS.dup X58.here hx rfl (hb hby at_61) rfl rfl (kk)) ?_
    show Dn p e below s _ _ _ (T58.setTop (mkF m 62 #[vi p0, vi p1, vi p2, vi p3, vi p4, .val (.long p5), .second, vi v2, vi 0, vi v21, vi v27, vi v33, vi v43, vr bb53, .unset, .unset, .unset, .unset, .unset] [(.ref b58), (.ref b58)]))
    obtain ⟨_, T62, Lc62, X62, hQ62, st62⟩ := own_ci X58 hx hZ hown (rmVi l Z a0 hw [] b58  h58 n0 Z58 gn_b58 A58 F_b58_departuresMs F_b58_waitingMs F_b58_vehicleSteps F_b58_speedSum F_b58_departed F_b58_arrived F_b58_trips F_b58_tripDurationsMs) (tw hw 30 rfl) (tw hw 31 rfl) (tw hw 29 rfl) (tw hw 32 rfl) e58 (g := (mkF m 62 #[vi p0, vi p1, vi p2, vi p3, vi p4, .val (.long p5), .second, vi v2, vi 0, vi v21, vi v27, vi v33, vi v43, vr bb53, .unset, .unset, .unset, .unset, .unset] [(.ref b58), (.ref b58)])) (hb hby at_62) (W := 1) (argsL := []) (rest := [(.ref b58)]) (lenOf pd3 rfl) rfl (by rw [hml]; rfl) rfl rfl (Nat.le_of_eq rfl) rfl (by decide) (by decide) (by decide) (by decide) (by decide)
    obtain ⟨hm, rfl, Nq62, K62, gh62, V62, U62⟩ := hQ62
    have N62 := Fr.app N53 Nq62
    refine Dn.tr st62 ?_
    have Z62 : n0 ≤ T62.heap.size := Nat.le_trans Z58 K62.1
    have nehm : hm ≠ b58 := U62.1.ne V62.1 (by decide)
    refine Dn.st (fun _ kk => XS.astore X62.here hx rfl (hb hby at_65) rfl rfl (l' := #[vi p0, vi p1, vi p2, vi p3, vi p4, .val (.long p5), .second, vi v2, vi 0, vi v21, vi v27, vi v33, vi v43, vr bb53, vr b58, .unset, .unset, .unset, .unset]) rfl (kk)) ?_
    show Dn p e below s _ _ _ (T62.setTop (mkF m 67 #[vi p0, vi p1, vi p2, vi p3, vi p4, .val (.long p5), .second, vi v2, vi 0, vi v21, vi v27, vi v33, vi v43, vr bb53, vr b58, .unset, .unset, .unset, .unset] []))
    rcases own_c4 (v := v2) (by omega) (by omega) with hk67 | hk67 | hk67 | hk67
    · subst hk67
      refine Dn.st (fun _ kk => XS.iload X62.here hx rfl (hb hby at_67) rfl (kk)) ?_
      show Dn p e below s _ _ _ (T62.setTop (mkF m 69 #[vi p0, vi p1, vi p2, vi p3, vi p4, .val (.long p5), .second, vi 0, vi 0, vi v21, vi v27, vi v33, vi v43, vr bb53, vr b58, .unset, .unset, .unset, .unset] [(.int 0)]))
      have hc69 : (0 : Int32) = (0 : Int32) := by decide
      refine Dn.st (fun _ kk => XS.ifYes X62.here hx rfl (pc0 := 69) (pc' := 93) rfl (hb hby at_69) rfl ((if0 _ _).trans (teq hc69).1) (by decide) (by decide) (XS.lconst X62.here hx rfl (hb hby at_93) (XS.lstore X62.here hx rfl (hb hby at_94) rfl (l' := #[vi p0, vi p1, vi p2, vi p3, vi p4, .val (.long p5), .second, vi 0, vi 0, vi v21, vi v27, vi v33, vi v43, vr bb53, vr b58, .val (.long (0 : Int64)), .second, .unset, .unset]) rfl (XS.iload X62.here hx rfl (hb hby at_96) rfl (XS.iconst X62.here hx rfl (hb hby at_98) (kk)))))) ?_
      show Dn p e below s _ _ _ (T62.setTop (mkF m 99 #[vi p0, vi p1, vi p2, vi p3, vi p4, .val (.long p5), .second, vi 0, vi 0, vi v21, vi v27, vi v33, vi v43, vr bb53, vr b58, .val (.long (0 : Int64)), .second, .unset, .unset] [(.int 1), (.int 0)]))
      have hc99 : (0 : Int32) < (1 : Int32) := by decide
      refine Dn.st (fun _ kk => XS.icmpYes X62.here hx rfl (pc0 := 99) (pc' := 126) rfl (hb hby at_99) rfl (tlt hc99).1 (by decide) (by decide) (XS.iload X62.here hx rfl (hb hby at_126) rfl (XS.iconst X62.here hx rfl (hb hby at_128) (kk)))) ?_
      show Dn p e below s _ _ _ (T62.setTop (mkF m 129 #[vi p0, vi p1, vi p2, vi p3, vi p4, .val (.long p5), .second, vi 0, vi 0, vi v21, vi v27, vi v33, vi v43, vr bb53, vr b58, .val (.long (0 : Int64)), .second, .unset, .unset] [(.int 2), (.int 0)]))
      have hc129 : (0 : Int32) < (2 : Int32) := by decide
      refine Dn.st (fun _ kk => XS.icmpYes X62.here hx rfl (pc0 := 129) (pc' := 156) rfl (hb hby at_129) rfl (tlt hc129).1 (by decide) (by decide) (XS.iload X62.here hx rfl (hb hby at_156) rfl (XS.iconst X62.here hx rfl (hb hby at_158) (kk)))) ?_
      show Dn p e below s _ _ _ (T62.setTop (mkF m 159 #[vi p0, vi p1, vi p2, vi p3, vi p4, .val (.long p5), .second, vi 0, vi 0, vi v21, vi v27, vi v33, vi v43, vr bb53, vr b58, .val (.long (0 : Int64)), .second, .unset, .unset] [(.int 3), (.int 0)]))
      have hc159 : (0 : Int32) < (3 : Int32) := by decide
      refine Dn.st (fun _ kk => XS.icmpYes X62.here hx rfl (pc0 := 159) (pc' := 186) rfl (hb hby at_159) rfl (tlt hc159).1 (by decide) (by decide) (XS.iload X62.here hx rfl (hb hby at_186) rfl (kk))) ?_
      show Dn p e below s _ _ _ (T62.setTop (mkF m 188 #[vi p0, vi p1, vi p2, vi p3, vi p4, .val (.long p5), .second, vi 0, vi 0, vi v21, vi v27, vi v33, vi v43, vr bb53, vr b58, .val (.long (0 : Int64)), .second, .unset, .unset] [(.int 0)]))
      have hc188 : (0 : Int32) = (0 : Int32) := by decide
      refine Dn.st (fun _ kk => XS.ifNo X62.here hx rfl (hb hby at_188) rfl ((if0 _ _).trans (teq hc188).2) (XS.dconst0 X62.here hx rfl (hb hby at_191) rfl (XS.goto X62.here hx rfl (pc0 := 192) (pc' := 206) rfl (hb hby at_192) (by decide) (by decide) (XS.dstore X62.here hx rfl (hb hby at_206) rfl (l' := #[vi p0, vi p1, vi p2, vi p3, vi p4, .val (.long p5), .second, vi 0, vi 0, vi v21, vi v27, vi v33, vi v43, vr bb53, vr b58, .val (.long (0 : Int64)), .second, .val (.double FP.dconst0), .second]) rfl (XS.aload X62.here hx rfl (hb hby at_208) rfl rfl (kk)))))) ?_
      show Dn p e below s _ _ _ (T62.setTop (mkF m 210 #[vi p0, vi p1, vi p2, vi p3, vi p4, .val (.long p5), .second, vi 0, vi 0, vi v21, vi v27, vi v33, vi v43, vr bb53, vr b58, .val (.long (0 : Int64)), .second, .val (.double FP.dconst0), .second] [(.ref b58)]))
      obtain ⟨_, T210, Lc210, X210, hQ210, st210⟩ := own_cv X62 hx hZ hown (rmG0 l Z a0 hw [] b58 hm (0 : UInt64) T62.heap n0 Z62 V62) (tw hw 85 rfl) (tw hw 86 rfl) (tw hw 88 rfl) (tw hw 87 rfl) (tw hw 29 rfl) (tw hw 89 rfl) rfl V62.1 (g := (mkF m 210 #[vi p0, vi p1, vi p2, vi p3, vi p4, .val (.long p5), .second, vi 0, vi 0, vi v21, vi v27, vi v33, vi v43, vr bb53, vr b58, .val (.long (0 : Int64)), .second, .val (.double FP.dconst0), .second] [(.ref b58)])) (hb hby at_210) (W := 0) (argsL := []) (rest := []) (lenOf pd8 rfl) rfl (by rw [hml]; rfl) rfl rfl (Nat.le_of_eq rfl) (by decide) (by decide) (by decide) (by decide) (by decide)
      obtain ⟨rfl, Nq210, hh210⟩ := hQ210
      have N210 := Fr.app N62 Nq210
      refine Dn.tr st210 ?_
      refine Dn.st (fun _ kk => XS.dload X210.here hx rfl (hb hby at_213) rfl (XS.dcmpS X210.here hx rfl (hb hby at_215) rfl (DS.cmpV dc_0 dc_0 _) (kk))) ?_
      show Dn p e below s _ _ _ (T210.setTop (mkF m 216 #[vi p0, vi p1, vi p2, vi p3, vi p4, .val (.long p5), .second, vi 0, vi 0, vi v21, vi v27, vi v33, vi v43, vr bb53, vr b58, .val (.long (0 : Int64)), .second, .val (.double FP.dconst0), .second] [(.int (c3 0 0))]))
      have hc216 : (c3 0 0) = (0 : Int32) := (c3_eq _ _).mpr rfl
      refine Dn.st (fun _ kk => XS.ifNo X210.here hx rfl (hb hby at_216) rfl ((if0 _ _).trans (teq hc216).2) (XS.aload X210.here hx rfl (hb hby at_219) rfl rfl (kk))) ?_
      show Dn p e below s _ _ _ (T210.setTop (mkF m 221 #[vi p0, vi p1, vi p2, vi p3, vi p4, .val (.long p5), .second, vi 0, vi 0, vi v21, vi v27, vi v33, vi v43, vr bb53, vr b58, .val (.long (0 : Int64)), .second, .val (.double FP.dconst0), .second] [(.ref b58)]))
      obtain ⟨_, T221, Lc221, X221, hQ221, st221⟩ := own_cv X210 hx hZ hown (rmGv l Z a0 hw [] b58 hm (0 : Int64) (0 : UInt64) T62.heap n0 Z62 V62) (tw hw 90 rfl) (tw hw 91 rfl) (tw hw 93 rfl) (tw hw 92 rfl) (tw hw 29 rfl) (tw hw 94 rfl) hh210 V62.1 (g := (mkF m 221 #[vi p0, vi p1, vi p2, vi p3, vi p4, .val (.long p5), .second, vi 0, vi 0, vi v21, vi v27, vi v33, vi v43, vr bb53, vr b58, .val (.long (0 : Int64)), .second, .val (.double FP.dconst0), .second] [(.ref b58)])) (hb hby at_221) (W := 0) (argsL := []) (rest := []) (lenOf pd9 rfl) rfl (by rw [hml]; rfl) rfl rfl (Nat.le_of_eq rfl) (by decide) (by decide) (by decide) (by decide) (by decide)
      obtain ⟨rfl, Nq221, hh221⟩ := hQ221
      have N221 := Fr.app N210 Nq221
      refine Dn.tr st221 ?_
      refine Dn.st (fun _ kk => XS.iload X221.here hx rfl (hb hby at_224) rfl (XS.i2l X221.here hx rfl (hb hby at_226) rfl (XS.lcmp X221.here hx rfl (hb hby at_227) rfl (kk)))) ?_
      show Dn p e below s _ _ _ (T221.setTop (mkF m 228 #[vi p0, vi p1, vi p2, vi p3, vi p4, .val (.long p5), .second, vi 0, vi 0, vi v21, vi v27, vi v33, vi v43, vr bb53, vr b58, .val (.long (0 : Int64)), .second, .val (.double FP.dconst0), .second] [(.int 0)]))
      have hc228 : (0 : Int32) = (0 : Int32) := by decide
      refine Dn.st (fun _ kk => XS.ifNo X221.here hx rfl (hb hby at_228) rfl ((if0 _ _).trans (teq hc228).2) (XS.iconst X221.here hx rfl (hb hby at_231) (XS.goto X221.here hx rfl (pc0 := 232) (pc' := 236) rfl (hb hby at_232) (by decide) (by decide) (kk)))) ?_
      show Dn p e below s _ _ _ (T221.setTop (mkF m 236 #[vi p0, vi p1, vi p2, vi p3, vi p4, .val (.long p5), .second, vi 0, vi 0, vi v21, vi v27, vi v33, vi v43, vr bb53, vr b58, .val (.long (0 : Int64)), .second, .val (.double FP.dconst0), .second] [(.int 1)]))
      exact Dn.ret X221 hlk hx hret rfl (Or.inl ⟨rfl, Or.inr (Or.inl rfl), _, rfl⟩) (hb hby at_236) (by rw [hh221]; exact ⟨rfl, N221⟩) (by decide) (by decide)
    · subst hk67
      refine Dn.st (fun _ kk => XS.iload X62.here hx rfl (hb hby at_67) rfl (kk)) ?_
      show Dn p e below s _ _ _ (T62.setTop (mkF m 69 #[vi p0, vi p1, vi p2, vi p3, vi p4, .val (.long p5), .second, vi 1, vi 0, vi v21, vi v27, vi v33, vi v43, vr bb53, vr b58, .unset, .unset, .unset, .unset] [(.int 0)]))
      have hc69 : (0 : Int32) = (0 : Int32) := by decide
      refine Dn.st (fun _ kk => XS.ifYes X62.here hx rfl (pc0 := 69) (pc' := 93) rfl (hb hby at_69) rfl ((if0 _ _).trans (teq hc69).1) (by decide) (by decide) (XS.lconst X62.here hx rfl (hb hby at_93) (XS.lstore X62.here hx rfl (hb hby at_94) rfl (l' := #[vi p0, vi p1, vi p2, vi p3, vi p4, .val (.long p5), .second, vi 1, vi 0, vi v21, vi v27, vi v33, vi v43, vr bb53, vr b58, .val (.long (0 : Int64)), .second, .unset, .unset]) rfl (XS.iload X62.here hx rfl (hb hby at_96) rfl (XS.iconst X62.here hx rfl (hb hby at_98) (kk)))))) ?_
      show Dn p e below s _ _ _ (T62.setTop (mkF m 99 #[vi p0, vi p1, vi p2, vi p3, vi p4, .val (.long p5), .second, vi 1, vi 0, vi v21, vi v27, vi v33, vi v43, vr bb53, vr b58, .val (.long (0 : Int64)), .second, .unset, .unset] [(.int 1), (.int 1)]))
      have hc99 : ¬ ((1 : Int32) < (1 : Int32)) := by decide
      refine Dn.st (fun _ kk => XS.icmpNo X62.here hx rfl (hb hby at_99) rfl (flt hc99).1 (XS.aload X62.here hx rfl (hb hby at_102) rfl rfl (XS.aload X62.here hx rfl (hb hby at_104) rfl rfl (XS.iload X62.here hx rfl (hb hby at_106) rfl (kk))))) ?_
      show Dn p e below s _ _ _ (T62.setTop (mkF m 108 #[vi p0, vi p1, vi p2, vi p3, vi p4, .val (.long p5), .second, vi 1, vi 0, vi v21, vi v27, vi v33, vi v43, vr bb53, vr b58, .val (.long (0 : Int64)), .second, .unset, .unset] [(.int v21), (.ref bb53), (.ref b58)]))
      have d108 := DS.i2d v21
      refine Dn.st (fun _ kk => XS.i2dS X62.here hx rfl (hb hby at_108) rfl rfl (kk)) ?_
      show Dn p e below s _ _ _ (T62.setTop (mkF m 109 #[vi p0, vi p1, vi p2, vi p3, vi p4, .val (.long p5), .second, vi 1, vi 0, vi v21, vi v27, vi v33, vi v43, vr bb53, vr b58, .val (.long (0 : Int64)), .second, .unset, .unset] [(.double (FP.i2d v21)), (.ref bb53), (.ref b58)]))
      generalize hv108 : ((FP.i2d v21) : UInt64) = v108 at d108 ⊢
      refine Dn.st (fun _ kk => X62.ldc2DoubleC hx hown (mvT hZ (tw hw 54 rfl)) (g := (mkF m 109 #[vi p0, vi p1, vi p2, vi p3, vi p4, .val (.long p5), .second, vi 1, vi 0, vi v21, vi v27, vi v33, vi v43, vr bb53, vr b58, .val (.long (0 : Int64)), .second, .unset, .unset] [(.double v108), (.ref bb53), (.ref b58)])) rfl (hb hby at_109) _ (kk)) ?_
      show Dn p e below s _ _ _ (T62.setTop (mkF m 112 #[vi p0, vi p1, vi p2, vi p3, vi p4, .val (.long p5), .second, vi 1, vi 0, vi v21, vi v27, vi v33, vi v43, vr bb53, vr b58, .val (.long (0 : Int64)), .second, .unset, .unset] [(.double (4616189618054758400 : UInt64)), (.double v108), (.ref bb53), (.ref b58)]))
      have d112 : DS 2 v21.toInt (FP.ddiv v108 (4616189618054758400 : UInt64)) := DS.divp (t := 2) d108 dc_4616189618054758400 (by first | omega | decide) (by decide)
      refine Dn.st (fun _ kk => XS.ddivS X62.here hx rfl (hb hby at_112) rfl d112.nn rfl (kk)) ?_
      show Dn p e below s _ _ _ (T62.setTop (mkF m 113 #[vi p0, vi p1, vi p2, vi p3, vi p4, .val (.long p5), .second, vi 1, vi 0, vi v21, vi v27, vi v33, vi v43, vr bb53, vr b58, .val (.long (0 : Int64)), .second, .unset, .unset] [(.double (FP.ddiv v108 (4616189618054758400 : UInt64))), (.ref bb53), (.ref b58)]))
      generalize hv112 : ((FP.ddiv v108 (4616189618054758400 : UInt64)) : UInt64) = v112 at d112 ⊢
      refine Dn.st (fun _ kk => XS.lload X62.here hx rfl (hb hby at_113) rfl (kk)) ?_
      show Dn p e below s _ _ _ (T62.setTop (mkF m 115 #[vi p0, vi p1, vi p2, vi p3, vi p4, .val (.long p5), .second, vi 1, vi 0, vi v21, vi v27, vi v33, vi v43, vr bb53, vr b58, .val (.long (0 : Int64)), .second, .unset, .unset] [(.long p5), (.double v112), (.ref bb53), (.ref b58)]))
      obtain ⟨w115, hw115⟩ : ∃ z, FP.dadd (0 : UInt64) v112 = z := ⟨_, rfl⟩
      have dw115 : DS 2 (0 + v21.toInt) w115 := hw115 ▸ DS.add (DS.zero 2) d112 (by omega) (by decide)
      obtain ⟨_, T115, Lc115, X115, hQ115, st115⟩ := own_cv X62 hx hZ hown (rmVt l Z a0 hw [] b58 bb53 v112 p5 hm (0 : Int64) (1 : Int64) (0 : UInt64) w115 T62.heap n0 Z62 gn_b58 V62 U62 nehm rfl hw115 (hw115 ▸ dw115.nn)) (tw hw 55 rfl) (tw hw 56 rfl) (tw hw 58 rfl) (tw hw 57 rfl) (tw hw 29 rfl) (tw hw 59 rfl) rfl V62.1 (g := (mkF m 115 #[vi p0, vi p1, vi p2, vi p3, vi p4, .val (.long p5), .second, vi 1, vi 0, vi v21, vi v27, vi v33, vi v43, vr bb53, vr b58, .val (.long (0 : Int64)), .second, .unset, .unset] [(.long p5), (.double v112), (.ref bb53), (.ref b58)])) (hb hby at_115) (W := 0) (argsL := [(.ref bb53), (.double v112), (.long p5)]) (rest := []) (lenOf pd10 rfl) rfl (by rw [hml]; rfl) rfl rfl (Nat.le_of_eq rfl) (by decide) (by decide) (by decide) (by decide) (by decide)
      obtain ⟨rfl, Nq115, K115, V115⟩ := hQ115
      have N115 := Fr.app N62 Nq115
      refine Dn.tr st115 ?_
      have Z115 : n0 ≤ T115.heap.size := Nat.le_trans Z62 K115.1
      have U115 : own_HM Z T115.heap hm := ⟨U62.1.keep K115, U62.2.1.keep K115 (ninS nehm nin0), U62.2.2.keep K115 (ninS nehm nin0)⟩
      refine Dn.st (fun _ kk => XS.lload X115.here hx rfl (hb hby at_118) rfl (XS.iload X115.here hx rfl (hb hby at_120) rfl (XS.i2l X115.here hx rfl (hb hby at_122) rfl (kk)))) ?_
      show Dn p e below s _ _ _ (T115.setTop (mkF m 123 #[vi p0, vi p1, vi p2, vi p3, vi p4, .val (.long p5), .second, vi 1, vi 0, vi v21, vi v27, vi v33, vi v43, vr bb53, vr b58, .val (.long (0 : Int64)), .second, .unset, .unset] [(.long (v21.toInt64)), (.long (0 : Int64))]))
      generalize hv122 : ((v21.toInt64) : Int64) = v122
      have q122 : v122.toInt = v21.toInt := by have qq := c_i2l v21; rw [hv122] at qq; exact qq
      have r122 := rng64 v122
      refine Dn.st (fun _ kk => XS.ladd X115.here hx rfl (hb hby at_123) rfl (kk)) ?_
      show Dn p e below s _ _ _ (T115.setTop (mkF m 124 #[vi p0, vi p1, vi p2, vi p3, vi p4, .val (.long p5), .second, vi 1, vi 0, vi v21, vi v27, vi v33, vi v43, vr bb53, vr b58, .val (.long (0 : Int64)), .second, .unset, .unset] [(.long ((0 : Int64) + v122))]))
      generalize hv123 : (((0 : Int64) + v122) : Int64) = v123
      have q123 : (v123.toInt - (0 + v122.toInt)) % 18446744073709551616 = 0 := by have qq := c_ladd (0 : Int64) v122; rw [hv123] at qq; exact qq
      have r123 := rng64 v123
      refine Dn.st (fun _ kk => XS.lstore X115.here hx rfl (hb hby at_124) rfl (l' := #[vi p0, vi p1, vi p2, vi p3, vi p4, .val (.long p5), .second, vi 1, vi 0, vi v21, vi v27, vi v33, vi v43, vr bb53, vr b58, .val (.long v123), .second, .unset, .unset]) rfl (XS.iload X115.here hx rfl (hb hby at_126) rfl (XS.iconst X115.here hx rfl (hb hby at_128) (kk)))) ?_
      show Dn p e below s _ _ _ (T115.setTop (mkF m 129 #[vi p0, vi p1, vi p2, vi p3, vi p4, .val (.long p5), .second, vi 1, vi 0, vi v21, vi v27, vi v33, vi v43, vr bb53, vr b58, .val (.long v123), .second, .unset, .unset] [(.int 2), (.int 1)]))
      have hc129 : (1 : Int32) < (2 : Int32) := by decide
      refine Dn.st (fun _ kk => XS.icmpYes X115.here hx rfl (pc0 := 129) (pc' := 156) rfl (hb hby at_129) rfl (tlt hc129).1 (by decide) (by decide) (XS.iload X115.here hx rfl (hb hby at_156) rfl (XS.iconst X115.here hx rfl (hb hby at_158) (kk)))) ?_
      show Dn p e below s _ _ _ (T115.setTop (mkF m 159 #[vi p0, vi p1, vi p2, vi p3, vi p4, .val (.long p5), .second, vi 1, vi 0, vi v21, vi v27, vi v33, vi v43, vr bb53, vr b58, .val (.long v123), .second, .unset, .unset] [(.int 3), (.int 1)]))
      have hc159 : (1 : Int32) < (3 : Int32) := by decide
      refine Dn.st (fun _ kk => XS.icmpYes X115.here hx rfl (pc0 := 159) (pc' := 186) rfl (hb hby at_159) rfl (tlt hc159).1 (by decide) (by decide) (XS.iload X115.here hx rfl (hb hby at_186) rfl (kk))) ?_
      show Dn p e below s _ _ _ (T115.setTop (mkF m 188 #[vi p0, vi p1, vi p2, vi p3, vi p4, .val (.long p5), .second, vi 1, vi 0, vi v21, vi v27, vi v33, vi v43, vr bb53, vr b58, .val (.long v123), .second, .unset, .unset] [(.int 1)]))
      have hc188 : ¬ ((1 : Int32) = (0 : Int32)) := by decide
      refine Dn.st (fun _ kk => XS.ifYes X115.here hx rfl (pc0 := 188) (pc' := 195) rfl (hb hby at_188) rfl ((if0 _ _).trans (feq hc188).2) (by decide) (by decide) (XS.lload X115.here hx rfl (hb hby at_195) rfl (kk))) ?_
      show Dn p e below s _ _ _ (T115.setTop (mkF m 197 #[vi p0, vi p1, vi p2, vi p3, vi p4, .val (.long p5), .second, vi 1, vi 0, vi v21, vi v27, vi v33, vi v43, vr bb53, vr b58, .val (.long v123), .second, .unset, .unset] [(.long v123)]))
      have d197 := DS.l2d (v := v123) (by omega)
      refine Dn.st (fun _ kk => XS.l2dS X115.here hx rfl (hb hby at_197) rfl rfl (kk)) ?_
      show Dn p e below s _ _ _ (T115.setTop (mkF m 198 #[vi p0, vi p1, vi p2, vi p3, vi p4, .val (.long p5), .second, vi 1, vi 0, vi v21, vi v27, vi v33, vi v43, vr bb53, vr b58, .val (.long v123), .second, .unset, .unset] [(.double (FP.l2d v123))]))
      generalize hv197 : ((FP.l2d v123) : UInt64) = v197 at d197 ⊢
      refine Dn.st (fun _ kk => X115.ldc2DoubleC hx hown (mvT hZ (tw hw 54 rfl)) (g := (mkF m 198 #[vi p0, vi p1, vi p2, vi p3, vi p4, .val (.long p5), .second, vi 1, vi 0, vi v21, vi v27, vi v33, vi v43, vr bb53, vr b58, .val (.long v123), .second, .unset, .unset] [(.double v197)])) rfl (hb hby at_198) _ (kk)) ?_
      show Dn p e below s _ _ _ (T115.setTop (mkF m 201 #[vi p0, vi p1, vi p2, vi p3, vi p4, .val (.long p5), .second, vi 1, vi 0, vi v21, vi v27, vi v33, vi v43, vr bb53, vr b58, .val (.long v123), .second, .unset, .unset] [(.double (4616189618054758400 : UInt64)), (.double v197)]))
      have d201 : DS 2 v123.toInt (FP.ddiv v197 (4616189618054758400 : UInt64)) := DS.divp (t := 2) d197 dc_4616189618054758400 (by first | omega | decide) (by decide)
      refine Dn.st (fun _ kk => XS.ddivS X115.here hx rfl (hb hby at_201) rfl d201.nn rfl (kk)) ?_
      show Dn p e below s _ _ _ (T115.setTop (mkF m 202 #[vi p0, vi p1, vi p2, vi p3, vi p4, .val (.long p5), .second, vi 1, vi 0, vi v21, vi v27, vi v33, vi v43, vr bb53, vr b58, .val (.long v123), .second, .unset, .unset] [(.double (FP.ddiv v197 (4616189618054758400 : UInt64)))]))
      generalize hv201 : ((FP.ddiv v197 (4616189618054758400 : UInt64)) : UInt64) = v201 at d201 ⊢
      refine Dn.st (fun _ kk => XS.iload X115.here hx rfl (hb hby at_202) rfl (kk)) ?_
      show Dn p e below s _ _ _ (T115.setTop (mkF m 204 #[vi p0, vi p1, vi p2, vi p3, vi p4, .val (.long p5), .second, vi 1, vi 0, vi v21, vi v27, vi v33, vi v43, vr bb53, vr b58, .val (.long v123), .second, .unset, .unset] [(.int 1), (.double v201)]))
      have d204 := DS.i2d (1 : Int32)
      refine Dn.st (fun _ kk => XS.i2dS X115.here hx rfl (hb hby at_204) rfl rfl (kk)) ?_
      show Dn p e below s _ _ _ (T115.setTop (mkF m 205 #[vi p0, vi p1, vi p2, vi p3, vi p4, .val (.long p5), .second, vi 1, vi 0, vi v21, vi v27, vi v33, vi v43, vr bb53, vr b58, .val (.long v123), .second, .unset, .unset] [(.double (FP.i2d (1 : Int32))), (.double v201)]))
      generalize hv204 : ((FP.i2d (1 : Int32)) : UInt64) = v204 at d204 ⊢
      refine Dn.st (fun _ kk => XS.ddivS X115.here hx rfl (hb hby at_205) rfl (own_dq d201 (DS.cast d204 rfl (rfl : _ = (1 : Int))) (by decide) (by omega) (by omega)).nn rfl (kk)) ?_
      show Dn p e below s _ _ _ (T115.setTop (mkF m 206 #[vi p0, vi p1, vi p2, vi p3, vi p4, .val (.long p5), .second, vi 1, vi 0, vi v21, vi v27, vi v33, vi v43, vr bb53, vr b58, .val (.long v123), .second, .unset, .unset] [(.double (FP.ddiv v201 v204))]))
      generalize hv205 : ((FP.ddiv v201 v204) : UInt64) = v205
      refine Dn.st (fun _ kk => XS.dstore X115.here hx rfl (hb hby at_206) rfl (l' := #[vi p0, vi p1, vi p2, vi p3, vi p4, .val (.long p5), .second, vi 1, vi 0, vi v21, vi v27, vi v33, vi v43, vr bb53, vr b58, .val (.long v123), .second, .val (.double v205), .second]) rfl (XS.aload X115.here hx rfl (hb hby at_208) rfl rfl (kk))) ?_
      show Dn p e below s _ _ _ (T115.setTop (mkF m 210 #[vi p0, vi p1, vi p2, vi p3, vi p4, .val (.long p5), .second, vi 1, vi 0, vi v21, vi v27, vi v33, vi v43, vr bb53, vr b58, .val (.long v123), .second, .val (.double v205), .second] [(.ref b58)]))
      obtain ⟨_, T210, Lc210, X210, hQ210, st210⟩ := own_cv X115 hx hZ hown (rmG1 l Z a0 hw [] b58 hm (1 : Int64) w115 T115.heap n0 Z115 V115 (by decide) (own_dq dw115 (DS.cast (DS.l2d (v := (1 : Int64)) (by decide)) rfl (rfl : _ = (1 : Int))) (by decide) (by omega) (by omega)).nn) (tw hw 85 rfl) (tw hw 86 rfl) (tw hw 88 rfl) (tw hw 87 rfl) (tw hw 29 rfl) (tw hw 89 rfl) rfl V115.1 (g := (mkF m 210 #[vi p0, vi p1, vi p2, vi p3, vi p4, .val (.long p5), .second, vi 1, vi 0, vi v21, vi v27, vi v33, vi v43, vr bb53, vr b58, .val (.long v123), .second, .val (.double v205), .second] [(.ref b58)])) (hb hby at_210) (W := 0) (argsL := []) (rest := []) (lenOf pd8 rfl) rfl (by rw [hml]; rfl) rfl rfl (Nat.le_of_eq rfl) (by decide) (by decide) (by decide) (by decide) (by decide)
      obtain ⟨rfl, Nq210, hh210⟩ := hQ210
      have N210 := Fr.app N115 Nq210
      refine Dn.tr st210 ?_
      refine Dn.st (fun _ kk => XS.dload X210.here hx rfl (hb hby at_213) rfl (XS.dcmpS X210.here hx rfl (hb hby at_215) rfl (show cmpValue (FP.dcmp (FP.ddiv w115 (FP.l2d (1 : Int64))) v205) .l = (0 : Int32) from (by rw [← hv205]; exact own_eqdiv dw115 (DS.cast (DS.l2d (v := (1 : Int64)) (by decide)) rfl (rfl : _ = (1 : Int))) (DS.cast d201 rfl (by omega)) (DS.cast d204 rfl (rfl : _ = (1 : Int))) (by decide) (by omega) (by omega) _)) (kk))) ?_
      show Dn p e below s _ _ _ (T210.setTop (mkF m 216 #[vi p0, vi p1, vi p2, vi p3, vi p4, .val (.long p5), .second, vi 1, vi 0, vi v21, vi v27, vi v33, vi v43, vr bb53, vr b58, .val (.long v123), .second, .val (.double v205), .second] [(.int 0)]))
      have hc216 : (0 : Int32) = (0 : Int32) := by decide
      refine Dn.st (fun _ kk => XS.ifNo X210.here hx rfl (hb hby at_216) rfl ((if0 _ _).trans (teq hc216).2) (XS.aload X210.here hx rfl (hb hby at_219) rfl rfl (kk))) ?_
      show Dn p e below s _ _ _ (T210.setTop (mkF m 221 #[vi p0, vi p1, vi p2, vi p3, vi p4, .val (.long p5), .second, vi 1, vi 0, vi v21, vi v27, vi v33, vi v43, vr bb53, vr b58, .val (.long v123), .second, .val (.double v205), .second] [(.ref b58)]))
      obtain ⟨_, T221, Lc221, X221, hQ221, st221⟩ := own_cv X210 hx hZ hown (rmGv l Z a0 hw [] b58 hm (1 : Int64) w115 T115.heap n0 Z115 V115) (tw hw 90 rfl) (tw hw 91 rfl) (tw hw 93 rfl) (tw hw 92 rfl) (tw hw 29 rfl) (tw hw 94 rfl) hh210 V115.1 (g := (mkF m 221 #[vi p0, vi p1, vi p2, vi p3, vi p4, .val (.long p5), .second, vi 1, vi 0, vi v21, vi v27, vi v33, vi v43, vr bb53, vr b58, .val (.long v123), .second, .val (.double v205), .second] [(.ref b58)])) (hb hby at_221) (W := 0) (argsL := []) (rest := []) (lenOf pd9 rfl) rfl (by rw [hml]; rfl) rfl rfl (Nat.le_of_eq rfl) (by decide) (by decide) (by decide) (by decide) (by decide)
      obtain ⟨rfl, Nq221, hh221⟩ := hQ221
      have N221 := Fr.app N210 Nq221
      refine Dn.tr st221 ?_
      refine Dn.st (fun _ kk => XS.iload X221.here hx rfl (hb hby at_224) rfl (XS.i2l X221.here hx rfl (hb hby at_226) rfl (XS.lcmp X221.here hx rfl (hb hby at_227) rfl (kk)))) ?_
      show Dn p e below s _ _ _ (T221.setTop (mkF m 228 #[vi p0, vi p1, vi p2, vi p3, vi p4, .val (.long p5), .second, vi 1, vi 0, vi v21, vi v27, vi v33, vi v43, vr bb53, vr b58, .val (.long v123), .second, .val (.double v205), .second] [(.int 0)]))
      have hc228 : (0 : Int32) = (0 : Int32) := by decide
      refine Dn.st (fun _ kk => XS.ifNo X221.here hx rfl (hb hby at_228) rfl ((if0 _ _).trans (teq hc228).2) (XS.iconst X221.here hx rfl (hb hby at_231) (XS.goto X221.here hx rfl (pc0 := 232) (pc' := 236) rfl (hb hby at_232) (by decide) (by decide) (kk)))) ?_
      show Dn p e below s _ _ _ (T221.setTop (mkF m 236 #[vi p0, vi p1, vi p2, vi p3, vi p4, .val (.long p5), .second, vi 1, vi 0, vi v21, vi v27, vi v33, vi v43, vr bb53, vr b58, .val (.long v123), .second, .val (.double v205), .second] [(.int 1)]))
      exact Dn.ret X221 hlk hx hret rfl (Or.inl ⟨rfl, Or.inr (Or.inl rfl), _, rfl⟩) (hb hby at_236) (by rw [hh221]; exact ⟨rfl, N221⟩) (by decide) (by decide)
    · subst hk67
      refine Dn.st (fun _ kk => XS.iload X62.here hx rfl (hb hby at_67) rfl (kk)) ?_
      show Dn p e below s _ _ _ (T62.setTop (mkF m 69 #[vi p0, vi p1, vi p2, vi p3, vi p4, .val (.long p5), .second, vi 2, vi 0, vi v21, vi v27, vi v33, vi v43, vr bb53, vr b58, .unset, .unset, .unset, .unset] [(.int 0)]))
      have hc69 : (0 : Int32) = (0 : Int32) := by decide
      refine Dn.st (fun _ kk => XS.ifYes X62.here hx rfl (pc0 := 69) (pc' := 93) rfl (hb hby at_69) rfl ((if0 _ _).trans (teq hc69).1) (by decide) (by decide) (XS.lconst X62.here hx rfl (hb hby at_93) (XS.lstore X62.here hx rfl (hb hby at_94) rfl (l' := #[vi p0, vi p1, vi p2, vi p3, vi p4, .val (.long p5), .second, vi 2, vi 0, vi v21, vi v27, vi v33, vi v43, vr bb53, vr b58, .val (.long (0 : Int64)), .second, .unset, .unset]) rfl (XS.iload X62.here hx rfl (hb hby at_96) rfl (XS.iconst X62.here hx rfl (hb hby at_98) (kk)))))) ?_
      show Dn p e below s _ _ _ (T62.setTop (mkF m 99 #[vi p0, vi p1, vi p2, vi p3, vi p4, .val (.long p5), .second, vi 2, vi 0, vi v21, vi v27, vi v33, vi v43, vr bb53, vr b58, .val (.long (0 : Int64)), .second, .unset, .unset] [(.int 1), (.int 2)]))
      have hc99 : ¬ ((2 : Int32) < (1 : Int32)) := by decide
      refine Dn.st (fun _ kk => XS.icmpNo X62.here hx rfl (hb hby at_99) rfl (flt hc99).1 (XS.aload X62.here hx rfl (hb hby at_102) rfl rfl (XS.aload X62.here hx rfl (hb hby at_104) rfl rfl (XS.iload X62.here hx rfl (hb hby at_106) rfl (kk))))) ?_
      show Dn p e below s _ _ _ (T62.setTop (mkF m 108 #[vi p0, vi p1, vi p2, vi p3, vi p4, .val (.long p5), .second, vi 2, vi 0, vi v21, vi v27, vi v33, vi v43, vr bb53, vr b58, .val (.long (0 : Int64)), .second, .unset, .unset] [(.int v21), (.ref bb53), (.ref b58)]))
      have d108 := DS.i2d v21
      refine Dn.st (fun _ kk => XS.i2dS X62.here hx rfl (hb hby at_108) rfl rfl (kk)) ?_
      show Dn p e below s _ _ _ (T62.setTop (mkF m 109 #[vi p0, vi p1, vi p2, vi p3, vi p4, .val (.long p5), .second, vi 2, vi 0, vi v21, vi v27, vi v33, vi v43, vr bb53, vr b58, .val (.long (0 : Int64)), .second, .unset, .unset] [(.double (FP.i2d v21)), (.ref bb53), (.ref b58)]))
      generalize hv108 : ((FP.i2d v21) : UInt64) = v108 at d108 ⊢
      refine Dn.st (fun _ kk => X62.ldc2DoubleC hx hown (mvT hZ (tw hw 54 rfl)) (g := (mkF m 109 #[vi p0, vi p1, vi p2, vi p3, vi p4, .val (.long p5), .second, vi 2, vi 0, vi v21, vi v27, vi v33, vi v43, vr bb53, vr b58, .val (.long (0 : Int64)), .second, .unset, .unset] [(.double v108), (.ref bb53), (.ref b58)])) rfl (hb hby at_109) _ (kk)) ?_
      show Dn p e below s _ _ _ (T62.setTop (mkF m 112 #[vi p0, vi p1, vi p2, vi p3, vi p4, .val (.long p5), .second, vi 2, vi 0, vi v21, vi v27, vi v33, vi v43, vr bb53, vr b58, .val (.long (0 : Int64)), .second, .unset, .unset] [(.double (4616189618054758400 : UInt64)), (.double v108), (.ref bb53), (.ref b58)]))
      have d112 : DS 2 v21.toInt (FP.ddiv v108 (4616189618054758400 : UInt64)) := DS.divp (t := 2) d108 dc_4616189618054758400 (by first | omega | decide) (by decide)
      refine Dn.st (fun _ kk => XS.ddivS X62.here hx rfl (hb hby at_112) rfl d112.nn rfl (kk)) ?_
      show Dn p e below s _ _ _ (T62.setTop (mkF m 113 #[vi p0, vi p1, vi p2, vi p3, vi p4, .val (.long p5), .second, vi 2, vi 0, vi v21, vi v27, vi v33, vi v43, vr bb53, vr b58, .val (.long (0 : Int64)), .second, .unset, .unset] [(.double (FP.ddiv v108 (4616189618054758400 : UInt64))), (.ref bb53), (.ref b58)]))
      generalize hv112 : ((FP.ddiv v108 (4616189618054758400 : UInt64)) : UInt64) = v112 at d112 ⊢
      refine Dn.st (fun _ kk => XS.lload X62.here hx rfl (hb hby at_113) rfl (kk)) ?_
      show Dn p e below s _ _ _ (T62.setTop (mkF m 115 #[vi p0, vi p1, vi p2, vi p3, vi p4, .val (.long p5), .second, vi 2, vi 0, vi v21, vi v27, vi v33, vi v43, vr bb53, vr b58, .val (.long (0 : Int64)), .second, .unset, .unset] [(.long p5), (.double v112), (.ref bb53), (.ref b58)]))
      obtain ⟨w115, hw115⟩ : ∃ z, FP.dadd (0 : UInt64) v112 = z := ⟨_, rfl⟩
      have dw115 : DS 2 (0 + v21.toInt) w115 := hw115 ▸ DS.add (DS.zero 2) d112 (by omega) (by decide)
      obtain ⟨_, T115, Lc115, X115, hQ115, st115⟩ := own_cv X62 hx hZ hown (rmVt l Z a0 hw [] b58 bb53 v112 p5 hm (0 : Int64) (1 : Int64) (0 : UInt64) w115 T62.heap n0 Z62 gn_b58 V62 U62 nehm rfl hw115 (hw115 ▸ dw115.nn)) (tw hw 55 rfl) (tw hw 56 rfl) (tw hw 58 rfl) (tw hw 57 rfl) (tw hw 29 rfl) (tw hw 59 rfl) rfl V62.1 (g := (mkF m 115 #[vi p0, vi p1, vi p2, vi p3, vi p4, .val (.long p5), .second, vi 2, vi 0, vi v21, vi v27, vi v33, vi v43, vr bb53, vr b58, .val (.long (0 : Int64)), .second, .unset, .unset] [(.long p5), (.double v112), (.ref bb53), (.ref b58)])) (hb hby at_115) (W := 0) (argsL := [(.ref bb53), (.double v112), (.long p5)]) (rest := []) (lenOf pd10 rfl) rfl (by rw [hml]; rfl) rfl rfl (Nat.le_of_eq rfl) (by decide) (by decide) (by decide) (by decide) (by decide)
      obtain ⟨rfl, Nq115, K115, V115⟩ := hQ115
      have N115 := Fr.app N62 Nq115
      refine Dn.tr st115 ?_
      have Z115 : n0 ≤ T115.heap.size := Nat.le_trans Z62 K115.1
      have U115 : own_HM Z T115.heap hm := ⟨U62.1.keep K115, U62.2.1.keep K115 (ninS nehm nin0), U62.2.2.keep K115 (ninS nehm nin0)⟩
      refine Dn.st (fun _ kk => XS.lload X115.here hx rfl (hb hby at_118) rfl (XS.iload X115.here hx rfl (hb hby at_120) rfl (XS.i2l X115.here hx rfl (hb hby at_122) rfl (kk)))) ?_
      show Dn p e below s _ _ _ (T115.setTop (mkF m 123 #[vi p0, vi p1, vi p2, vi p3, vi p4, .val (.long p5), .second, vi 2, vi 0, vi v21, vi v27, vi v33, vi v43, vr bb53, vr b58, .val (.long (0 : Int64)), .second, .unset, .unset] [(.long (v21.toInt64)), (.long (0 : Int64))]))
      generalize hv122 : ((v21.toInt64) : Int64) = v122
      have q122 : v122.toInt = v21.toInt := by have qq := c_i2l v21; rw [hv122] at qq; exact qq
      have r122 := rng64 v122
      refine Dn.st (fun _ kk => XS.ladd X115.here hx rfl (hb hby at_123) rfl (kk)) ?_
      show Dn p e below s _ _ _ (T115.setTop (mkF m 124 #[vi p0, vi p1, vi p2, vi p3, vi p4, .val (.long p5), .second, vi 2, vi 0, vi v21, vi v27, vi v33, vi v43, vr bb53, vr b58, .val (.long (0 : Int64)), .second, .unset, .unset] [(.long ((0 : Int64) + v122))]))
      generalize hv123 : (((0 : Int64) + v122) : Int64) = v123
      have q123 : (v123.toInt - (0 + v122.toInt)) % 18446744073709551616 = 0 := by have qq := c_ladd (0 : Int64) v122; rw [hv123] at qq; exact qq
      have r123 := rng64 v123
      refine Dn.st (fun _ kk => XS.lstore X115.here hx rfl (hb hby at_124) rfl (l' := #[vi p0, vi p1, vi p2, vi p3, vi p4, .val (.long p5), .second, vi 2, vi 0, vi v21, vi v27, vi v33, vi v43, vr bb53, vr b58, .val (.long v123), .second, .unset, .unset]) rfl (XS.iload X115.here hx rfl (hb hby at_126) rfl (XS.iconst X115.here hx rfl (hb hby at_128) (kk)))) ?_
      show Dn p e below s _ _ _ (T115.setTop (mkF m 129 #[vi p0, vi p1, vi p2, vi p3, vi p4, .val (.long p5), .second, vi 2, vi 0, vi v21, vi v27, vi v33, vi v43, vr bb53, vr b58, .val (.long v123), .second, .unset, .unset] [(.int 2), (.int 2)]))
      have hc129 : ¬ ((2 : Int32) < (2 : Int32)) := by decide
      refine Dn.st (fun _ kk => XS.icmpNo X115.here hx rfl (hb hby at_129) rfl (flt hc129).1 (XS.aload X115.here hx rfl (hb hby at_132) rfl rfl (XS.aload X115.here hx rfl (hb hby at_134) rfl rfl (XS.iload X115.here hx rfl (hb hby at_136) rfl (kk))))) ?_
      show Dn p e below s _ _ _ (T115.setTop (mkF m 138 #[vi p0, vi p1, vi p2, vi p3, vi p4, .val (.long p5), .second, vi 2, vi 0, vi v21, vi v27, vi v33, vi v43, vr bb53, vr b58, .val (.long v123), .second, .unset, .unset] [(.int v27), (.ref bb53), (.ref b58)]))
      have d138 := DS.i2d v27
      refine Dn.st (fun _ kk => XS.i2dS X115.here hx rfl (hb hby at_138) rfl rfl (kk)) ?_
      show Dn p e below s _ _ _ (T115.setTop (mkF m 139 #[vi p0, vi p1, vi p2, vi p3, vi p4, .val (.long p5), .second, vi 2, vi 0, vi v21, vi v27, vi v33, vi v43, vr bb53, vr b58, .val (.long v123), .second, .unset, .unset] [(.double (FP.i2d v27)), (.ref bb53), (.ref b58)]))
      generalize hv138 : ((FP.i2d v27) : UInt64) = v138 at d138 ⊢
      refine Dn.st (fun _ kk => X115.ldc2DoubleC hx hown (mvT hZ (tw hw 54 rfl)) (g := (mkF m 139 #[vi p0, vi p1, vi p2, vi p3, vi p4, .val (.long p5), .second, vi 2, vi 0, vi v21, vi v27, vi v33, vi v43, vr bb53, vr b58, .val (.long v123), .second, .unset, .unset] [(.double v138), (.ref bb53), (.ref b58)])) rfl (hb hby at_139) _ (kk)) ?_
      show Dn p e below s _ _ _ (T115.setTop (mkF m 142 #[vi p0, vi p1, vi p2, vi p3, vi p4, .val (.long p5), .second, vi 2, vi 0, vi v21, vi v27, vi v33, vi v43, vr bb53, vr b58, .val (.long v123), .second, .unset, .unset] [(.double (4616189618054758400 : UInt64)), (.double v138), (.ref bb53), (.ref b58)]))
      have d142 : DS 2 v27.toInt (FP.ddiv v138 (4616189618054758400 : UInt64)) := DS.divp (t := 2) d138 dc_4616189618054758400 (by first | omega | decide) (by decide)
      refine Dn.st (fun _ kk => XS.ddivS X115.here hx rfl (hb hby at_142) rfl d142.nn rfl (kk)) ?_
      show Dn p e below s _ _ _ (T115.setTop (mkF m 143 #[vi p0, vi p1, vi p2, vi p3, vi p4, .val (.long p5), .second, vi 2, vi 0, vi v21, vi v27, vi v33, vi v43, vr bb53, vr b58, .val (.long v123), .second, .unset, .unset] [(.double (FP.ddiv v138 (4616189618054758400 : UInt64))), (.ref bb53), (.ref b58)]))
      generalize hv142 : ((FP.ddiv v138 (4616189618054758400 : UInt64)) : UInt64) = v142 at d142 ⊢
      refine Dn.st (fun _ kk => XS.lload X115.here hx rfl (hb hby at_143) rfl (kk)) ?_
      show Dn p e below s _ _ _ (T115.setTop (mkF m 145 #[vi p0, vi p1, vi p2, vi p3, vi p4, .val (.long p5), .second, vi 2, vi 0, vi v21, vi v27, vi v33, vi v43, vr bb53, vr b58, .val (.long v123), .second, .unset, .unset] [(.long p5), (.double v142), (.ref bb53), (.ref b58)]))
      obtain ⟨w145, hw145⟩ : ∃ z, FP.dadd w115 v142 = z := ⟨_, rfl⟩
      have dw145 : DS 2 ((0 + v21.toInt) + v27.toInt) w145 := hw145 ▸ DS.add dw115 d142 (by omega) (by decide)
      obtain ⟨_, T145, Lc145, X145, hQ145, st145⟩ := own_cv X115 hx hZ hown (rmVt l Z a0 hw [] b58 bb53 v142 p5 hm (1 : Int64) (2 : Int64) w115 w145 T115.heap n0 Z115 gn_b58 V115 U115 nehm rfl hw145 (hw145 ▸ dw145.nn)) (tw hw 55 rfl) (tw hw 56 rfl) (tw hw 58 rfl) (tw hw 57 rfl) (tw hw 29 rfl) (tw hw 59 rfl) rfl V115.1 (g := (mkF m 145 #[vi p0, vi p1, vi p2, vi p3, vi p4, .val (.long p5), .second, vi 2, vi 0, vi v21, vi v27, vi v33, vi v43, vr bb53, vr b58, .val (.long v123), .second, .unset, .unset] [(.long p5), (.double v142), (.ref bb53), (.ref b58)])) (hb hby at_145) (W := 0) (argsL := [(.ref bb53), (.double v142), (.long p5)]) (rest := []) (lenOf pd10 rfl) rfl (by rw [hml]; rfl) rfl rfl (Nat.le_of_eq rfl) (by decide) (by decide) (by decide) (by decide) (by decide)
      obtain ⟨rfl, Nq145, K145, V145⟩ := hQ145
      have N145 := Fr.app N115 Nq145
      refine Dn.tr st145 ?_
      have Z145 : n0 ≤ T145.heap.size := Nat.le_trans Z115 K145.1
      have U145 : own_HM Z T145.heap hm := ⟨U115.1.keep K145, U115.2.1.keep K145 (ninS nehm nin0), U115.2.2.keep K145 (ninS nehm nin0)⟩
      refine Dn.st (fun _ kk => XS.lload X145.here hx rfl (hb hby at_148) rfl (XS.iload X145.here hx rfl (hb hby at_150) rfl (XS.i2l X145.here hx rfl (hb hby at_152) rfl (kk)))) ?_
      show Dn p e below s _ _ _ (T145.setTop (mkF m 153 #[vi p0, vi p1, vi p2, vi p3, vi p4, .val (.long p5), .second, vi 2, vi 0, vi v21, vi v27, vi v33, vi v43, vr bb53, vr b58, .val (.long v123), .second, .unset, .unset] [(.long (v27.toInt64)), (.long v123)]))
      generalize hv152 : ((v27.toInt64) : Int64) = v152
      have q152 : v152.toInt = v27.toInt := by have qq := c_i2l v27; rw [hv152] at qq; exact qq
      have r152 := rng64 v152
      refine Dn.st (fun _ kk => XS.ladd X145.here hx rfl (hb hby at_153) rfl (kk)) ?_
      show Dn p e below s _ _ _ (T145.setTop (mkF m 154 #[vi p0, vi p1, vi p2, vi p3, vi p4, .val (.long p5), .second, vi 2, vi 0, vi v21, vi v27, vi v33, vi v43, vr bb53, vr b58, .val (.long v123), .second, .unset, .unset] [(.long (v123 + v152))]))
      generalize hv153 : ((v123 + v152) : Int64) = v153
      have q153 : (v153.toInt - (v123.toInt + v152.toInt)) % 18446744073709551616 = 0 := by have qq := c_ladd v123 v152; rw [hv153] at qq; exact qq
      have r153 := rng64 v153
      refine Dn.st (fun _ kk => XS.lstore X145.here hx rfl (hb hby at_154) rfl (l' := #[vi p0, vi p1, vi p2, vi p3, vi p4, .val (.long p5), .second, vi 2, vi 0, vi v21, vi v27, vi v33, vi v43, vr bb53, vr b58, .val (.long v153), .second, .unset, .unset]) rfl (XS.iload X145.here hx rfl (hb hby at_156) rfl (XS.iconst X145.here hx rfl (hb hby at_158) (kk)))) ?_
      show Dn p e below s _ _ _ (T145.setTop (mkF m 159 #[vi p0, vi p1, vi p2, vi p3, vi p4, .val (.long p5), .second, vi 2, vi 0, vi v21, vi v27, vi v33, vi v43, vr bb53, vr b58, .val (.long v153), .second, .unset, .unset] [(.int 3), (.int 2)]))
      have hc159 : (2 : Int32) < (3 : Int32) := by decide
      refine Dn.st (fun _ kk => XS.icmpYes X145.here hx rfl (pc0 := 159) (pc' := 186) rfl (hb hby at_159) rfl (tlt hc159).1 (by decide) (by decide) (XS.iload X145.here hx rfl (hb hby at_186) rfl (kk))) ?_
      show Dn p e below s _ _ _ (T145.setTop (mkF m 188 #[vi p0, vi p1, vi p2, vi p3, vi p4, .val (.long p5), .second, vi 2, vi 0, vi v21, vi v27, vi v33, vi v43, vr bb53, vr b58, .val (.long v153), .second, .unset, .unset] [(.int 2)]))
      have hc188 : ¬ ((2 : Int32) = (0 : Int32)) := by decide
      refine Dn.st (fun _ kk => XS.ifYes X145.here hx rfl (pc0 := 188) (pc' := 195) rfl (hb hby at_188) rfl ((if0 _ _).trans (feq hc188).2) (by decide) (by decide) (XS.lload X145.here hx rfl (hb hby at_195) rfl (kk))) ?_
      show Dn p e below s _ _ _ (T145.setTop (mkF m 197 #[vi p0, vi p1, vi p2, vi p3, vi p4, .val (.long p5), .second, vi 2, vi 0, vi v21, vi v27, vi v33, vi v43, vr bb53, vr b58, .val (.long v153), .second, .unset, .unset] [(.long v153)]))
      have d197 := DS.l2d (v := v153) (by omega)
      refine Dn.st (fun _ kk => XS.l2dS X145.here hx rfl (hb hby at_197) rfl rfl (kk)) ?_
      show Dn p e below s _ _ _ (T145.setTop (mkF m 198 #[vi p0, vi p1, vi p2, vi p3, vi p4, .val (.long p5), .second, vi 2, vi 0, vi v21, vi v27, vi v33, vi v43, vr bb53, vr b58, .val (.long v153), .second, .unset, .unset] [(.double (FP.l2d v153))]))
      generalize hv197 : ((FP.l2d v153) : UInt64) = v197 at d197 ⊢
      refine Dn.st (fun _ kk => X145.ldc2DoubleC hx hown (mvT hZ (tw hw 54 rfl)) (g := (mkF m 198 #[vi p0, vi p1, vi p2, vi p3, vi p4, .val (.long p5), .second, vi 2, vi 0, vi v21, vi v27, vi v33, vi v43, vr bb53, vr b58, .val (.long v153), .second, .unset, .unset] [(.double v197)])) rfl (hb hby at_198) _ (kk)) ?_
      show Dn p e below s _ _ _ (T145.setTop (mkF m 201 #[vi p0, vi p1, vi p2, vi p3, vi p4, .val (.long p5), .second, vi 2, vi 0, vi v21, vi v27, vi v33, vi v43, vr bb53, vr b58, .val (.long v153), .second, .unset, .unset] [(.double (4616189618054758400 : UInt64)), (.double v197)]))
      have d201 : DS 2 v153.toInt (FP.ddiv v197 (4616189618054758400 : UInt64)) := DS.divp (t := 2) d197 dc_4616189618054758400 (by first | omega | decide) (by decide)
      refine Dn.st (fun _ kk => XS.ddivS X145.here hx rfl (hb hby at_201) rfl d201.nn rfl (kk)) ?_
      show Dn p e below s _ _ _ (T145.setTop (mkF m 202 #[vi p0, vi p1, vi p2, vi p3, vi p4, .val (.long p5), .second, vi 2, vi 0, vi v21, vi v27, vi v33, vi v43, vr bb53, vr b58, .val (.long v153), .second, .unset, .unset] [(.double (FP.ddiv v197 (4616189618054758400 : UInt64)))]))
      generalize hv201 : ((FP.ddiv v197 (4616189618054758400 : UInt64)) : UInt64) = v201 at d201 ⊢
      refine Dn.st (fun _ kk => XS.iload X145.here hx rfl (hb hby at_202) rfl (kk)) ?_
      show Dn p e below s _ _ _ (T145.setTop (mkF m 204 #[vi p0, vi p1, vi p2, vi p3, vi p4, .val (.long p5), .second, vi 2, vi 0, vi v21, vi v27, vi v33, vi v43, vr bb53, vr b58, .val (.long v153), .second, .unset, .unset] [(.int 2), (.double v201)]))
      have d204 := DS.i2d (2 : Int32)
      refine Dn.st (fun _ kk => XS.i2dS X145.here hx rfl (hb hby at_204) rfl rfl (kk)) ?_
      show Dn p e below s _ _ _ (T145.setTop (mkF m 205 #[vi p0, vi p1, vi p2, vi p3, vi p4, .val (.long p5), .second, vi 2, vi 0, vi v21, vi v27, vi v33, vi v43, vr bb53, vr b58, .val (.long v153), .second, .unset, .unset] [(.double (FP.i2d (2 : Int32))), (.double v201)]))
      generalize hv204 : ((FP.i2d (2 : Int32)) : UInt64) = v204 at d204 ⊢
      refine Dn.st (fun _ kk => XS.ddivS X145.here hx rfl (hb hby at_205) rfl (own_dq d201 (DS.cast d204 rfl (rfl : _ = (2 : Int))) (by decide) (by omega) (by omega)).nn rfl (kk)) ?_
      show Dn p e below s _ _ _ (T145.setTop (mkF m 206 #[vi p0, vi p1, vi p2, vi p3, vi p4, .val (.long p5), .second, vi 2, vi 0, vi v21, vi v27, vi v33, vi v43, vr bb53, vr b58, .val (.long v153), .second, .unset, .unset] [(.double (FP.ddiv v201 v204))]))
      generalize hv205 : ((FP.ddiv v201 v204) : UInt64) = v205
      refine Dn.st (fun _ kk => XS.dstore X145.here hx rfl (hb hby at_206) rfl (l' := #[vi p0, vi p1, vi p2, vi p3, vi p4, .val (.long p5), .second, vi 2, vi 0, vi v21, vi v27, vi v33, vi v43, vr bb53, vr b58, .val (.long v153), .second, .val (.double v205), .second]) rfl (XS.aload X145.here hx rfl (hb hby at_208) rfl rfl (kk))) ?_
      show Dn p e below s _ _ _ (T145.setTop (mkF m 210 #[vi p0, vi p1, vi p2, vi p3, vi p4, .val (.long p5), .second, vi 2, vi 0, vi v21, vi v27, vi v33, vi v43, vr bb53, vr b58, .val (.long v153), .second, .val (.double v205), .second] [(.ref b58)]))
      obtain ⟨_, T210, Lc210, X210, hQ210, st210⟩ := own_cv X145 hx hZ hown (rmG1 l Z a0 hw [] b58 hm (2 : Int64) w145 T145.heap n0 Z145 V145 (by decide) (own_dq dw145 (DS.cast (DS.l2d (v := (2 : Int64)) (by decide)) rfl (rfl : _ = (2 : Int))) (by decide) (by omega) (by omega)).nn) (tw hw 85 rfl) (tw hw 86 rfl) (tw hw 88 rfl) (tw hw 87 rfl) (tw hw 29 rfl) (tw hw 89 rfl) rfl V145.1 (g := (mkF m 210 #[vi p0, vi p1, vi p2, vi p3, vi p4, .val (.long p5), .second, vi 2, vi 0, vi v21, vi v27, vi v33, vi v43, vr bb53, vr b58, .val (.long v153), .second, .val (.double v205), .second] [(.ref b58)])) (hb hby at_210) (W := 0) (argsL := []) (rest := []) (lenOf pd8 rfl) rfl (by rw [hml]; rfl) rfl rfl (Nat.le_of_eq rfl) (by decide) (by decide) (by decide) (by decide) (by decide)
      obtain ⟨rfl, Nq210, hh210⟩ := hQ210
      have N210 := Fr.app N145 Nq210
      refine Dn.tr st210 ?_
      refine Dn.st (fun _ kk => XS.dload X210.here hx rfl (hb hby at_213) rfl (XS.dcmpS X210.here hx rfl (hb hby at_215) rfl (show cmpValue (FP.dcmp (FP.ddiv w145 (FP.l2d (2 : Int64))) v205) .l = (0 : Int32) from (by rw [← hv205]; exact own_eqdiv dw145 (DS.cast (DS.l2d (v := (2 : Int64)) (by decide)) rfl (rfl : _ = (2 : Int))) (DS.cast d201 rfl (by omega)) (DS.cast d204 rfl (rfl : _ = (2 : Int))) (by decide) (by omega) (by omega) _)) (kk))) ?_
      show Dn p e below s _ _ _ (T210.setTop (mkF m 216 #[vi p0, vi p1, vi p2, vi p3, vi p4, .val (.long p5), .second, vi 2, vi 0, vi v21, vi v27, vi v33, vi v43, vr bb53, vr b58, .val (.long v153), .second, .val (.double v205), .second] [(.int 0)]))
      have hc216 : (0 : Int32) = (0 : Int32) := by decide
      refine Dn.st (fun _ kk => XS.ifNo X210.here hx rfl (hb hby at_216) rfl ((if0 _ _).trans (teq hc216).2) (XS.aload X210.here hx rfl (hb hby at_219) rfl rfl (kk))) ?_
      show Dn p e below s _ _ _ (T210.setTop (mkF m 221 #[vi p0, vi p1, vi p2, vi p3, vi p4, .val (.long p5), .second, vi 2, vi 0, vi v21, vi v27, vi v33, vi v43, vr bb53, vr b58, .val (.long v153), .second, .val (.double v205), .second] [(.ref b58)]))
      obtain ⟨_, T221, Lc221, X221, hQ221, st221⟩ := own_cv X210 hx hZ hown (rmGv l Z a0 hw [] b58 hm (2 : Int64) w145 T145.heap n0 Z145 V145) (tw hw 90 rfl) (tw hw 91 rfl) (tw hw 93 rfl) (tw hw 92 rfl) (tw hw 29 rfl) (tw hw 94 rfl) hh210 V145.1 (g := (mkF m 221 #[vi p0, vi p1, vi p2, vi p3, vi p4, .val (.long p5), .second, vi 2, vi 0, vi v21, vi v27, vi v33, vi v43, vr bb53, vr b58, .val (.long v153), .second, .val (.double v205), .second] [(.ref b58)])) (hb hby at_221) (W := 0) (argsL := []) (rest := []) (lenOf pd9 rfl) rfl (by rw [hml]; rfl) rfl rfl (Nat.le_of_eq rfl) (by decide) (by decide) (by decide) (by decide) (by decide)
      obtain ⟨rfl, Nq221, hh221⟩ := hQ221
      have N221 := Fr.app N210 Nq221
      refine Dn.tr st221 ?_
      refine Dn.st (fun _ kk => XS.iload X221.here hx rfl (hb hby at_224) rfl (XS.i2l X221.here hx rfl (hb hby at_226) rfl (XS.lcmp X221.here hx rfl (hb hby at_227) rfl (kk)))) ?_
      show Dn p e below s _ _ _ (T221.setTop (mkF m 228 #[vi p0, vi p1, vi p2, vi p3, vi p4, .val (.long p5), .second, vi 2, vi 0, vi v21, vi v27, vi v33, vi v43, vr bb53, vr b58, .val (.long v153), .second, .val (.double v205), .second] [(.int 0)]))
      have hc228 : (0 : Int32) = (0 : Int32) := by decide
      refine Dn.st (fun _ kk => XS.ifNo X221.here hx rfl (hb hby at_228) rfl ((if0 _ _).trans (teq hc228).2) (XS.iconst X221.here hx rfl (hb hby at_231) (XS.goto X221.here hx rfl (pc0 := 232) (pc' := 236) rfl (hb hby at_232) (by decide) (by decide) (kk)))) ?_
      show Dn p e below s _ _ _ (T221.setTop (mkF m 236 #[vi p0, vi p1, vi p2, vi p3, vi p4, .val (.long p5), .second, vi 2, vi 0, vi v21, vi v27, vi v33, vi v43, vr bb53, vr b58, .val (.long v153), .second, .val (.double v205), .second] [(.int 1)]))
      exact Dn.ret X221 hlk hx hret rfl (Or.inl ⟨rfl, Or.inr (Or.inl rfl), _, rfl⟩) (hb hby at_236) (by rw [hh221]; exact ⟨rfl, N221⟩) (by decide) (by decide)
    · subst hk67
      refine Dn.st (fun _ kk => XS.iload X62.here hx rfl (hb hby at_67) rfl (kk)) ?_
      show Dn p e below s _ _ _ (T62.setTop (mkF m 69 #[vi p0, vi p1, vi p2, vi p3, vi p4, .val (.long p5), .second, vi 3, vi 0, vi v21, vi v27, vi v33, vi v43, vr bb53, vr b58, .unset, .unset, .unset, .unset] [(.int 0)]))
      have hc69 : (0 : Int32) = (0 : Int32) := by decide
      refine Dn.st (fun _ kk => XS.ifYes X62.here hx rfl (pc0 := 69) (pc' := 93) rfl (hb hby at_69) rfl ((if0 _ _).trans (teq hc69).1) (by decide) (by decide) (XS.lconst X62.here hx rfl (hb hby at_93) (XS.lstore X62.here hx rfl (hb hby at_94) rfl (l' := #[vi p0, vi p1, vi p2, vi p3, vi p4, .val (.long p5), .second, vi 3, vi 0, vi v21, vi v27, vi v33, vi v43, vr bb53, vr b58, .val (.long (0 : Int64)), .second, .unset, .unset]) rfl (XS.iload X62.here hx rfl (hb hby at_96) rfl (XS.iconst X62.here hx rfl (hb hby at_98) (kk)))))) ?_
      show Dn p e below s _ _ _ (T62.setTop (mkF m 99 #[vi p0, vi p1, vi p2, vi p3, vi p4, .val (.long p5), .second, vi 3, vi 0, vi v21, vi v27, vi v33, vi v43, vr bb53, vr b58, .val (.long (0 : Int64)), .second, .unset, .unset] [(.int 1), (.int 3)]))
      have hc99 : ¬ ((3 : Int32) < (1 : Int32)) := by decide
      refine Dn.st (fun _ kk => XS.icmpNo X62.here hx rfl (hb hby at_99) rfl (flt hc99).1 (XS.aload X62.here hx rfl (hb hby at_102) rfl rfl (XS.aload X62.here hx rfl (hb hby at_104) rfl rfl (XS.iload X62.here hx rfl (hb hby at_106) rfl (kk))))) ?_
      show Dn p e below s _ _ _ (T62.setTop (mkF m 108 #[vi p0, vi p1, vi p2, vi p3, vi p4, .val (.long p5), .second, vi 3, vi 0, vi v21, vi v27, vi v33, vi v43, vr bb53, vr b58, .val (.long (0 : Int64)), .second, .unset, .unset] [(.int v21), (.ref bb53), (.ref b58)]))
      have d108 := DS.i2d v21
      refine Dn.st (fun _ kk => XS.i2dS X62.here hx rfl (hb hby at_108) rfl rfl (kk)) ?_
      show Dn p e below s _ _ _ (T62.setTop (mkF m 109 #[vi p0, vi p1, vi p2, vi p3, vi p4, .val (.long p5), .second, vi 3, vi 0, vi v21, vi v27, vi v33, vi v43, vr bb53, vr b58, .val (.long (0 : Int64)), .second, .unset, .unset] [(.double (FP.i2d v21)), (.ref bb53), (.ref b58)]))
      generalize hv108 : ((FP.i2d v21) : UInt64) = v108 at d108 ⊢
      refine Dn.st (fun _ kk => X62.ldc2DoubleC hx hown (mvT hZ (tw hw 54 rfl)) (g := (mkF m 109 #[vi p0, vi p1, vi p2, vi p3, vi p4, .val (.long p5), .second, vi 3, vi 0, vi v21, vi v27, vi v33, vi v43, vr bb53, vr b58, .val (.long (0 : Int64)), .second, .unset, .unset] [(.double v108), (.ref bb53), (.ref b58)])) rfl (hb hby at_109) _ (kk)) ?_
      show Dn p e below s _ _ _ (T62.setTop (mkF m 112 #[vi p0, vi p1, vi p2, vi p3, vi p4, .val (.long p5), .second, vi 3, vi 0, vi v21, vi v27, vi v33, vi v43, vr bb53, vr b58, .val (.long (0 : Int64)), .second, .unset, .unset] [(.double (4616189618054758400 : UInt64)), (.double v108), (.ref bb53), (.ref b58)]))
      have d112 : DS 2 v21.toInt (FP.ddiv v108 (4616189618054758400 : UInt64)) := DS.divp (t := 2) d108 dc_4616189618054758400 (by first | omega | decide) (by decide)
      refine Dn.st (fun _ kk => XS.ddivS X62.here hx rfl (hb hby at_112) rfl d112.nn rfl (kk)) ?_
      show Dn p e below s _ _ _ (T62.setTop (mkF m 113 #[vi p0, vi p1, vi p2, vi p3, vi p4, .val (.long p5), .second, vi 3, vi 0, vi v21, vi v27, vi v33, vi v43, vr bb53, vr b58, .val (.long (0 : Int64)), .second, .unset, .unset] [(.double (FP.ddiv v108 (4616189618054758400 : UInt64))), (.ref bb53), (.ref b58)]))
      generalize hv112 : ((FP.ddiv v108 (4616189618054758400 : UInt64)) : UInt64) = v112 at d112 ⊢
      refine Dn.st (fun _ kk => XS.lload X62.here hx rfl (hb hby at_113) rfl (kk)) ?_
      show Dn p e below s _ _ _ (T62.setTop (mkF m 115 #[vi p0, vi p1, vi p2, vi p3, vi p4, .val (.long p5), .second, vi 3, vi 0, vi v21, vi v27, vi v33, vi v43, vr bb53, vr b58, .val (.long (0 : Int64)), .second, .unset, .unset] [(.long p5), (.double v112), (.ref bb53), (.ref b58)]))
      obtain ⟨w115, hw115⟩ : ∃ z, FP.dadd (0 : UInt64) v112 = z := ⟨_, rfl⟩
      have dw115 : DS 2 (0 + v21.toInt) w115 := hw115 ▸ DS.add (DS.zero 2) d112 (by omega) (by decide)
      obtain ⟨_, T115, Lc115, X115, hQ115, st115⟩ := own_cv X62 hx hZ hown (rmVt l Z a0 hw [] b58 bb53 v112 p5 hm (0 : Int64) (1 : Int64) (0 : UInt64) w115 T62.heap n0 Z62 gn_b58 V62 U62 nehm rfl hw115 (hw115 ▸ dw115.nn)) (tw hw 55 rfl) (tw hw 56 rfl) (tw hw 58 rfl) (tw hw 57 rfl) (tw hw 29 rfl) (tw hw 59 rfl) rfl V62.1 (g := (mkF m 115 #[vi p0, vi p1, vi p2, vi p3, vi p4, .val (.long p5), .second, vi 3, vi 0, vi v21, vi v27, vi v33, vi v43, vr bb53, vr b58, .val (.long (0 : Int64)), .second, .unset, .unset] [(.long p5), (.double v112), (.ref bb53), (.ref b58)])) (hb hby at_115) (W := 0) (argsL := [(.ref bb53), (.double v112), (.long p5)]) (rest := []) (lenOf pd10 rfl) rfl (by rw [hml]; rfl) rfl rfl (Nat.le_of_eq rfl) (by decide) (by decide) (by decide) (by decide) (by decide)
      obtain ⟨rfl, Nq115, K115, V115⟩ := hQ115
      have N115 := Fr.app N62 Nq115
      refine Dn.tr st115 ?_
      have Z115 : n0 ≤ T115.heap.size := Nat.le_trans Z62 K115.1
      have U115 : own_HM Z T115.heap hm := ⟨U62.1.keep K115, U62.2.1.keep K115 (ninS nehm nin0), U62.2.2.keep K115 (ninS nehm nin0)⟩
      refine Dn.st (fun _ kk => XS.lload X115.here hx rfl (hb hby at_118) rfl (XS.iload X115.here hx rfl (hb hby at_120) rfl (XS.i2l X115.here hx rfl (hb hby at_122) rfl (kk)))) ?_
      show Dn p e below s _ _ _ (T115.setTop (mkF m 123 #[vi p0, vi p1, vi p2, vi p3, vi p4, .val (.long p5), .second, vi 3, vi 0, vi v21, vi v27, vi v33, vi v43, vr bb53, vr b58, .val (.long (0 : Int64)), .second, .unset, .unset] [(.long (v21.toInt64)), (.long (0 : Int64))]))
      generalize hv122 : ((v21.toInt64) : Int64) = v122
      have q122 : v122.toInt = v21.toInt := by have qq := c_i2l v21; rw [hv122] at qq; exact qq
      have r122 := rng64 v122
      refine Dn.st (fun _ kk => XS.ladd X115.here hx rfl (hb hby at_123) rfl (kk)) ?_
      show Dn p e below s _ _ _ (T115.setTop (mkF m 124 #[vi p0, vi p1, vi p2, vi p3, vi p4, .val (.long p5), .second, vi 3, vi 0, vi v21, vi v27, vi v33, vi v43, vr bb53, vr b58, .val (.long (0 : Int64)), .second, .unset, .unset] [(.long ((0 : Int64) + v122))]))
      generalize hv123 : (((0 : Int64) + v122) : Int64) = v123
      have q123 : (v123.toInt - (0 + v122.toInt)) % 18446744073709551616 = 0 := by have qq := c_ladd (0 : Int64) v122; rw [hv123] at qq; exact qq
      have r123 := rng64 v123
      refine Dn.st (fun _ kk => XS.lstore X115.here hx rfl (hb hby at_124) rfl (l' := #[vi p0, vi p1, vi p2, vi p3, vi p4, .val (.long p5), .second, vi 3, vi 0, vi v21, vi v27, vi v33, vi v43, vr bb53, vr b58, .val (.long v123), .second, .unset, .unset]) rfl (XS.iload X115.here hx rfl (hb hby at_126) rfl (XS.iconst X115.here hx rfl (hb hby at_128) (kk)))) ?_
      show Dn p e below s _ _ _ (T115.setTop (mkF m 129 #[vi p0, vi p1, vi p2, vi p3, vi p4, .val (.long p5), .second, vi 3, vi 0, vi v21, vi v27, vi v33, vi v43, vr bb53, vr b58, .val (.long v123), .second, .unset, .unset] [(.int 2), (.int 3)]))
      have hc129 : ¬ ((3 : Int32) < (2 : Int32)) := by decide
      refine Dn.st (fun _ kk => XS.icmpNo X115.here hx rfl (hb hby at_129) rfl (flt hc129).1 (XS.aload X115.here hx rfl (hb hby at_132) rfl rfl (XS.aload X115.here hx rfl (hb hby at_134) rfl rfl (XS.iload X115.here hx rfl (hb hby at_136) rfl (kk))))) ?_
      show Dn p e below s _ _ _ (T115.setTop (mkF m 138 #[vi p0, vi p1, vi p2, vi p3, vi p4, .val (.long p5), .second, vi 3, vi 0, vi v21, vi v27, vi v33, vi v43, vr bb53, vr b58, .val (.long v123), .second, .unset, .unset] [(.int v27), (.ref bb53), (.ref b58)]))
      have d138 := DS.i2d v27
      refine Dn.st (fun _ kk => XS.i2dS X115.here hx rfl (hb hby at_138) rfl rfl (kk)) ?_
      show Dn p e below s _ _ _ (T115.setTop (mkF m 139 #[vi p0, vi p1, vi p2, vi p3, vi p4, .val (.long p5), .second, vi 3, vi 0, vi v21, vi v27, vi v33, vi v43, vr bb53, vr b58, .val (.long v123), .second, .unset, .unset] [(.double (FP.i2d v27)), (.ref bb53), (.ref b58)]))
      generalize hv138 : ((FP.i2d v27) : UInt64) = v138 at d138 ⊢
      refine Dn.st (fun _ kk => X115.ldc2DoubleC hx hown (mvT hZ (tw hw 54 rfl)) (g := (mkF m 139 #[vi p0, vi p1, vi p2, vi p3, vi p4, .val (.long p5), .second, vi 3, vi 0, vi v21, vi v27, vi v33, vi v43, vr bb53, vr b58, .val (.long v123), .second, .unset, .unset] [(.double v138), (.ref bb53), (.ref b58)])) rfl (hb hby at_139) _ (kk)) ?_
      show Dn p e below s _ _ _ (T115.setTop (mkF m 142 #[vi p0, vi p1, vi p2, vi p3, vi p4, .val (.long p5), .second, vi 3, vi 0, vi v21, vi v27, vi v33, vi v43, vr bb53, vr b58, .val (.long v123), .second, .unset, .unset] [(.double (4616189618054758400 : UInt64)), (.double v138), (.ref bb53), (.ref b58)]))
      have d142 : DS 2 v27.toInt (FP.ddiv v138 (4616189618054758400 : UInt64)) := DS.divp (t := 2) d138 dc_4616189618054758400 (by first | omega | decide) (by decide)
      refine Dn.st (fun _ kk => XS.ddivS X115.here hx rfl (hb hby at_142) rfl d142.nn rfl (kk)) ?_
      show Dn p e below s _ _ _ (T115.setTop (mkF m 143 #[vi p0, vi p1, vi p2, vi p3, vi p4, .val (.long p5), .second, vi 3, vi 0, vi v21, vi v27, vi v33, vi v43, vr bb53, vr b58, .val (.long v123), .second, .unset, .unset] [(.double (FP.ddiv v138 (4616189618054758400 : UInt64))), (.ref bb53), (.ref b58)]))
      generalize hv142 : ((FP.ddiv v138 (4616189618054758400 : UInt64)) : UInt64) = v142 at d142 ⊢
      refine Dn.st (fun _ kk => XS.lload X115.here hx rfl (hb hby at_143) rfl (kk)) ?_
      show Dn p e below s _ _ _ (T115.setTop (mkF m 145 #[vi p0, vi p1, vi p2, vi p3, vi p4, .val (.long p5), .second, vi 3, vi 0, vi v21, vi v27, vi v33, vi v43, vr bb53, vr b58, .val (.long v123), .second, .unset, .unset] [(.long p5), (.double v142), (.ref bb53), (.ref b58)]))
      obtain ⟨w145, hw145⟩ : ∃ z, FP.dadd w115 v142 = z := ⟨_, rfl⟩
      have dw145 : DS 2 ((0 + v21.toInt) + v27.toInt) w145 := hw145 ▸ DS.add dw115 d142 (by omega) (by decide)
      obtain ⟨_, T145, Lc145, X145, hQ145, st145⟩ := own_cv X115 hx hZ hown (rmVt l Z a0 hw [] b58 bb53 v142 p5 hm (1 : Int64) (2 : Int64) w115 w145 T115.heap n0 Z115 gn_b58 V115 U115 nehm rfl hw145 (hw145 ▸ dw145.nn)) (tw hw 55 rfl) (tw hw 56 rfl) (tw hw 58 rfl) (tw hw 57 rfl) (tw hw 29 rfl) (tw hw 59 rfl) rfl V115.1 (g := (mkF m 145 #[vi p0, vi p1, vi p2, vi p3, vi p4, .val (.long p5), .second, vi 3, vi 0, vi v21, vi v27, vi v33, vi v43, vr bb53, vr b58, .val (.long v123), .second, .unset, .unset] [(.long p5), (.double v142), (.ref bb53), (.ref b58)])) (hb hby at_145) (W := 0) (argsL := [(.ref bb53), (.double v142), (.long p5)]) (rest := []) (lenOf pd10 rfl) rfl (by rw [hml]; rfl) rfl rfl (Nat.le_of_eq rfl) (by decide) (by decide) (by decide) (by decide) (by decide)
      obtain ⟨rfl, Nq145, K145, V145⟩ := hQ145
      have N145 := Fr.app N115 Nq145
      refine Dn.tr st145 ?_
      have Z145 : n0 ≤ T145.heap.size := Nat.le_trans Z115 K145.1
      have U145 : own_HM Z T145.heap hm := ⟨U115.1.keep K145, U115.2.1.keep K145 (ninS nehm nin0), U115.2.2.keep K145 (ninS nehm nin0)⟩
      refine Dn.st (fun _ kk => XS.lload X145.here hx rfl (hb hby at_148) rfl (XS.iload X145.here hx rfl (hb hby at_150) rfl (XS.i2l X145.here hx rfl (hb hby at_152) rfl (kk)))) ?_
      show Dn p e below s _ _ _ (T145.setTop (mkF m 153 #[vi p0, vi p1, vi p2, vi p3, vi p4, .val (.long p5), .second, vi 3, vi 0, vi v21, vi v27, vi v33, vi v43, vr bb53, vr b58, .val (.long v123), .second, .unset, .unset] [(.long (v27.toInt64)), (.long v123)]))
      generalize hv152 : ((v27.toInt64) : Int64) = v152
      have q152 : v152.toInt = v27.toInt := by have qq := c_i2l v27; rw [hv152] at qq; exact qq
      have r152 := rng64 v152
      refine Dn.st (fun _ kk => XS.ladd X145.here hx rfl (hb hby at_153) rfl (kk)) ?_
      show Dn p e below s _ _ _ (T145.setTop (mkF m 154 #[vi p0, vi p1, vi p2, vi p3, vi p4, .val (.long p5), .second, vi 3, vi 0, vi v21, vi v27, vi v33, vi v43, vr bb53, vr b58, .val (.long v123), .second, .unset, .unset] [(.long (v123 + v152))]))
      generalize hv153 : ((v123 + v152) : Int64) = v153
      have q153 : (v153.toInt - (v123.toInt + v152.toInt)) % 18446744073709551616 = 0 := by have qq := c_ladd v123 v152; rw [hv153] at qq; exact qq
      have r153 := rng64 v153
      refine Dn.st (fun _ kk => XS.lstore X145.here hx rfl (hb hby at_154) rfl (l' := #[vi p0, vi p1, vi p2, vi p3, vi p4, .val (.long p5), .second, vi 3, vi 0, vi v21, vi v27, vi v33, vi v43, vr bb53, vr b58, .val (.long v153), .second, .unset, .unset]) rfl (XS.iload X145.here hx rfl (hb hby at_156) rfl (XS.iconst X145.here hx rfl (hb hby at_158) (kk)))) ?_
      show Dn p e below s _ _ _ (T145.setTop (mkF m 159 #[vi p0, vi p1, vi p2, vi p3, vi p4, .val (.long p5), .second, vi 3, vi 0, vi v21, vi v27, vi v33, vi v43, vr bb53, vr b58, .val (.long v153), .second, .unset, .unset] [(.int 3), (.int 3)]))
      have hc159 : ¬ ((3 : Int32) < (3 : Int32)) := by decide
      refine Dn.st (fun _ kk => XS.icmpNo X145.here hx rfl (hb hby at_159) rfl (flt hc159).1 (XS.aload X145.here hx rfl (hb hby at_162) rfl rfl (XS.aload X145.here hx rfl (hb hby at_164) rfl rfl (XS.iload X145.here hx rfl (hb hby at_166) rfl (kk))))) ?_
      show Dn p e below s _ _ _ (T145.setTop (mkF m 168 #[vi p0, vi p1, vi p2, vi p3, vi p4, .val (.long p5), .second, vi 3, vi 0, vi v21, vi v27, vi v33, vi v43, vr bb53, vr b58, .val (.long v153), .second, .unset, .unset] [(.int v33), (.ref bb53), (.ref b58)]))
      have d168 := DS.i2d v33
      refine Dn.st (fun _ kk => XS.i2dS X145.here hx rfl (hb hby at_168) rfl rfl (kk)) ?_
      show Dn p e below s _ _ _ (T145.setTop (mkF m 169 #[vi p0, vi p1, vi p2, vi p3, vi p4, .val (.long p5), .second, vi 3, vi 0, vi v21, vi v27, vi v33, vi v43, vr bb53, vr b58, .val (.long v153), .second, .unset, .unset] [(.double (FP.i2d v33)), (.ref bb53), (.ref b58)]))
      generalize hv168 : ((FP.i2d v33) : UInt64) = v168 at d168 ⊢
      refine Dn.st (fun _ kk => X145.ldc2DoubleC hx hown (mvT hZ (tw hw 54 rfl)) (g := (mkF m 169 #[vi p0, vi p1, vi p2, vi p3, vi p4, .val (.long p5), .second, vi 3, vi 0, vi v21, vi v27, vi v33, vi v43, vr bb53, vr b58, .val (.long v153), .second, .unset, .unset] [(.double v168), (.ref bb53), (.ref b58)])) rfl (hb hby at_169) _ (kk)) ?_
      show Dn p e below s _ _ _ (T145.setTop (mkF m 172 #[vi p0, vi p1, vi p2, vi p3, vi p4, .val (.long p5), .second, vi 3, vi 0, vi v21, vi v27, vi v33, vi v43, vr bb53, vr b58, .val (.long v153), .second, .unset, .unset] [(.double (4616189618054758400 : UInt64)), (.double v168), (.ref bb53), (.ref b58)]))
      have d172 : DS 2 v33.toInt (FP.ddiv v168 (4616189618054758400 : UInt64)) := DS.divp (t := 2) d168 dc_4616189618054758400 (by first | omega | decide) (by decide)
      refine Dn.st (fun _ kk => XS.ddivS X145.here hx rfl (hb hby at_172) rfl d172.nn rfl (kk)) ?_
      show Dn p e below s _ _ _ (T145.setTop (mkF m 173 #[vi p0, vi p1, vi p2, vi p3, vi p4, .val (.long p5), .second, vi 3, vi 0, vi v21, vi v27, vi v33, vi v43, vr bb53, vr b58, .val (.long v153), .second, .unset, .unset] [(.double (FP.ddiv v168 (4616189618054758400 : UInt64))), (.ref bb53), (.ref b58)]))
      generalize hv172 : ((FP.ddiv v168 (4616189618054758400 : UInt64)) : UInt64) = v172 at d172 ⊢
      refine Dn.st (fun _ kk => XS.lload X145.here hx rfl (hb hby at_173) rfl (kk)) ?_
      show Dn p e below s _ _ _ (T145.setTop (mkF m 175 #[vi p0, vi p1, vi p2, vi p3, vi p4, .val (.long p5), .second, vi 3, vi 0, vi v21, vi v27, vi v33, vi v43, vr bb53, vr b58, .val (.long v153), .second, .unset, .unset] [(.long p5), (.double v172), (.ref bb53), (.ref b58)]))
      obtain ⟨w175, hw175⟩ : ∃ z, FP.dadd w145 v172 = z := ⟨_, rfl⟩
      have dw175 : DS 2 (((0 + v21.toInt) + v27.toInt) + v33.toInt) w175 := hw175 ▸ DS.add dw145 d172 (by omega) (by decide)
      obtain ⟨_, T175, Lc175, X175, hQ175, st175⟩ := own_cv X145 hx hZ hown (rmVt l Z a0 hw [] b58 bb53 v172 p5 hm (2 : Int64) (3 : Int64) w145 w175 T145.heap n0 Z145 gn_b58 V145 U145 nehm rfl hw175 (hw175 ▸ dw175.nn)) (tw hw 55 rfl) (tw hw 56 rfl) (tw hw 58 rfl) (tw hw 57 rfl) (tw hw 29 rfl) (tw hw 59 rfl) rfl V145.1 (g := (mkF m 175 #[vi p0, vi p1, vi p2, vi p3, vi p4, .val (.long p5), .second, vi 3, vi 0, vi v21, vi v27, vi v33, vi v43, vr bb53, vr b58, .val (.long v153), .second, .unset, .unset] [(.long p5), (.double v172), (.ref bb53), (.ref b58)])) (hb hby at_175) (W := 0) (argsL := [(.ref bb53), (.double v172), (.long p5)]) (rest := []) (lenOf pd10 rfl) rfl (by rw [hml]; rfl) rfl rfl (Nat.le_of_eq rfl) (by decide) (by decide) (by decide) (by decide) (by decide)
      obtain ⟨rfl, Nq175, K175, V175⟩ := hQ175
      have N175 := Fr.app N145 Nq175
      refine Dn.tr st175 ?_
      have Z175 : n0 ≤ T175.heap.size := Nat.le_trans Z145 K175.1
      have U175 : own_HM Z T175.heap hm := ⟨U145.1.keep K175, U145.2.1.keep K175 (ninS nehm nin0), U145.2.2.keep K175 (ninS nehm nin0)⟩
      refine Dn.st (fun _ kk => XS.lload X175.here hx rfl (hb hby at_178) rfl (XS.iload X175.here hx rfl (hb hby at_180) rfl (XS.i2l X175.here hx rfl (hb hby at_182) rfl (kk)))) ?_
      show Dn p e below s _ _ _ (T175.setTop (mkF m 183 #[vi p0, vi p1, vi p2, vi p3, vi p4, .val (.long p5), .second, vi 3, vi 0, vi v21, vi v27, vi v33, vi v43, vr bb53, vr b58, .val (.long v153), .second, .unset, .unset] [(.long (v33.toInt64)), (.long v153)]))
      generalize hv182 : ((v33.toInt64) : Int64) = v182
      have q182 : v182.toInt = v33.toInt := by have qq := c_i2l v33; rw [hv182] at qq; exact qq
      have r182 := rng64 v182
      refine Dn.st (fun _ kk => XS.ladd X175.here hx rfl (hb hby at_183) rfl (kk)) ?_
      show Dn p e below s _ _ _ (T175.setTop (mkF m 184 #[vi p0, vi p1, vi p2, vi p3, vi p4, .val (.long p5), .second, vi 3, vi 0, vi v21, vi v27, vi v33, vi v43, vr bb53, vr b58, .val (.long v153), .second, .unset, .unset] [(.long (v153 + v182))]))
      generalize hv183 : ((v153 + v182) : Int64) = v183
      have q183 : (v183.toInt - (v153.toInt + v182.toInt)) % 18446744073709551616 = 0 := by have qq := c_ladd v153 v182; rw [hv183] at qq; exact qq
      have r183 := rng64 v183
      refine Dn.st (fun _ kk => XS.lstore X175.here hx rfl (hb hby at_184) rfl (l' := #[vi p0, vi p1, vi p2, vi p3, vi p4, .val (.long p5), .second, vi 3, vi 0, vi v21, vi v27, vi v33, vi v43, vr bb53, vr b58, .val (.long v183), .second, .unset, .unset]) rfl (XS.iload X175.here hx rfl (hb hby at_186) rfl (kk))) ?_
      show Dn p e below s _ _ _ (T175.setTop (mkF m 188 #[vi p0, vi p1, vi p2, vi p3, vi p4, .val (.long p5), .second, vi 3, vi 0, vi v21, vi v27, vi v33, vi v43, vr bb53, vr b58, .val (.long v183), .second, .unset, .unset] [(.int 3)]))
      have hc188 : ¬ ((3 : Int32) = (0 : Int32)) := by decide
      refine Dn.st (fun _ kk => XS.ifYes X175.here hx rfl (pc0 := 188) (pc' := 195) rfl (hb hby at_188) rfl ((if0 _ _).trans (feq hc188).2) (by decide) (by decide) (XS.lload X175.here hx rfl (hb hby at_195) rfl (kk))) ?_
      show Dn p e below s _ _ _ (T175.setTop (mkF m 197 #[vi p0, vi p1, vi p2, vi p3, vi p4, .val (.long p5), .second, vi 3, vi 0, vi v21, vi v27, vi v33, vi v43, vr bb53, vr b58, .val (.long v183), .second, .unset, .unset] [(.long v183)]))
      have d197 := DS.l2d (v := v183) (by omega)
      refine Dn.st (fun _ kk => XS.l2dS X175.here hx rfl (hb hby at_197) rfl rfl (kk)) ?_
      show Dn p e below s _ _ _ (T175.setTop (mkF m 198 #[vi p0, vi p1, vi p2, vi p3, vi p4, .val (.long p5), .second, vi 3, vi 0, vi v21, vi v27, vi v33, vi v43, vr bb53, vr b58, .val (.long v183), .second, .unset, .unset] [(.double (FP.l2d v183))]))
      generalize hv197 : ((FP.l2d v183) : UInt64) = v197 at d197 ⊢
      refine Dn.st (fun _ kk => X175.ldc2DoubleC hx hown (mvT hZ (tw hw 54 rfl)) (g := (mkF m 198 #[vi p0, vi p1, vi p2, vi p3, vi p4, .val (.long p5), .second, vi 3, vi 0, vi v21, vi v27, vi v33, vi v43, vr bb53, vr b58, .val (.long v183), .second, .unset, .unset] [(.double v197)])) rfl (hb hby at_198) _ (kk)) ?_
      show Dn p e below s _ _ _ (T175.setTop (mkF m 201 #[vi p0, vi p1, vi p2, vi p3, vi p4, .val (.long p5), .second, vi 3, vi 0, vi v21, vi v27, vi v33, vi v43, vr bb53, vr b58, .val (.long v183), .second, .unset, .unset] [(.double (4616189618054758400 : UInt64)), (.double v197)]))
      have d201 : DS 2 v183.toInt (FP.ddiv v197 (4616189618054758400 : UInt64)) := DS.divp (t := 2) d197 dc_4616189618054758400 (by first | omega | decide) (by decide)
      refine Dn.st (fun _ kk => XS.ddivS X175.here hx rfl (hb hby at_201) rfl d201.nn rfl (kk)) ?_
      show Dn p e below s _ _ _ (T175.setTop (mkF m 202 #[vi p0, vi p1, vi p2, vi p3, vi p4, .val (.long p5), .second, vi 3, vi 0, vi v21, vi v27, vi v33, vi v43, vr bb53, vr b58, .val (.long v183), .second, .unset, .unset] [(.double (FP.ddiv v197 (4616189618054758400 : UInt64)))]))
      generalize hv201 : ((FP.ddiv v197 (4616189618054758400 : UInt64)) : UInt64) = v201 at d201 ⊢
      refine Dn.st (fun _ kk => XS.iload X175.here hx rfl (hb hby at_202) rfl (kk)) ?_
      show Dn p e below s _ _ _ (T175.setTop (mkF m 204 #[vi p0, vi p1, vi p2, vi p3, vi p4, .val (.long p5), .second, vi 3, vi 0, vi v21, vi v27, vi v33, vi v43, vr bb53, vr b58, .val (.long v183), .second, .unset, .unset] [(.int 3), (.double v201)]))
      have d204 := DS.i2d (3 : Int32)
      refine Dn.st (fun _ kk => XS.i2dS X175.here hx rfl (hb hby at_204) rfl rfl (kk)) ?_
      show Dn p e below s _ _ _ (T175.setTop (mkF m 205 #[vi p0, vi p1, vi p2, vi p3, vi p4, .val (.long p5), .second, vi 3, vi 0, vi v21, vi v27, vi v33, vi v43, vr bb53, vr b58, .val (.long v183), .second, .unset, .unset] [(.double (FP.i2d (3 : Int32))), (.double v201)]))
      generalize hv204 : ((FP.i2d (3 : Int32)) : UInt64) = v204 at d204 ⊢
      refine Dn.st (fun _ kk => XS.ddivS X175.here hx rfl (hb hby at_205) rfl (own_dq d201 (DS.cast d204 rfl (rfl : _ = (3 : Int))) (by decide) (by omega) (by omega)).nn rfl (kk)) ?_
      show Dn p e below s _ _ _ (T175.setTop (mkF m 206 #[vi p0, vi p1, vi p2, vi p3, vi p4, .val (.long p5), .second, vi 3, vi 0, vi v21, vi v27, vi v33, vi v43, vr bb53, vr b58, .val (.long v183), .second, .unset, .unset] [(.double (FP.ddiv v201 v204))]))
      generalize hv205 : ((FP.ddiv v201 v204) : UInt64) = v205
      refine Dn.st (fun _ kk => XS.dstore X175.here hx rfl (hb hby at_206) rfl (l' := #[vi p0, vi p1, vi p2, vi p3, vi p4, .val (.long p5), .second, vi 3, vi 0, vi v21, vi v27, vi v33, vi v43, vr bb53, vr b58, .val (.long v183), .second, .val (.double v205), .second]) rfl (XS.aload X175.here hx rfl (hb hby at_208) rfl rfl (kk))) ?_
      show Dn p e below s _ _ _ (T175.setTop (mkF m 210 #[vi p0, vi p1, vi p2, vi p3, vi p4, .val (.long p5), .second, vi 3, vi 0, vi v21, vi v27, vi v33, vi v43, vr bb53, vr b58, .val (.long v183), .second, .val (.double v205), .second] [(.ref b58)]))
      obtain ⟨_, T210, Lc210, X210, hQ210, st210⟩ := own_cv X175 hx hZ hown (rmG1 l Z a0 hw [] b58 hm (3 : Int64) w175 T175.heap n0 Z175 V175 (by decide) (own_dq dw175 (DS.cast (DS.l2d (v := (3 : Int64)) (by decide)) rfl (rfl : _ = (3 : Int))) (by decide) (by omega) (by omega)).nn) (tw hw 85 rfl) (tw hw 86 rfl) (tw hw 88 rfl) (tw hw 87 rfl) (tw hw 29 rfl) (tw hw 89 rfl) rfl V175.1 (g := (mkF m 210 #[vi p0, vi p1, vi p2, vi p3, vi p4, .val (.long p5), .second, vi 3, vi 0, vi v21, vi v27, vi v33, vi v43, vr bb53, vr b58, .val (.long v183), .second, .val (.double v205), .second] [(.ref b58)])) (hb hby at_210) (W := 0) (argsL := []) (rest := []) (lenOf pd8 rfl) rfl (by rw [hml]; rfl) rfl rfl (Nat.le_of_eq rfl) (by decide) (by decide) (by decide) (by decide) (by decide)
      obtain ⟨rfl, Nq210, hh210⟩ := hQ210
      have N210 := Fr.app N175 Nq210
      refine Dn.tr st210 ?_
      refine Dn.st (fun _ kk => XS.dload X210.here hx rfl (hb hby at_213) rfl (XS.dcmpS X210.here hx rfl (hb hby at_215) rfl (show cmpValue (FP.dcmp (FP.ddiv w175 (FP.l2d (3 : Int64))) v205) .l = (0 : Int32) from (by rw [← hv205]; exact own_eqdiv dw175 (DS.cast (DS.l2d (v := (3 : Int64)) (by decide)) rfl (rfl : _ = (3 : Int))) (DS.cast d201 rfl (by omega)) (DS.cast d204 rfl (rfl : _ = (3 : Int))) (by decide) (by omega) (by omega) _)) (kk))) ?_
      show Dn p e below s _ _ _ (T210.setTop (mkF m 216 #[vi p0, vi p1, vi p2, vi p3, vi p4, .val (.long p5), .second, vi 3, vi 0, vi v21, vi v27, vi v33, vi v43, vr bb53, vr b58, .val (.long v183), .second, .val (.double v205), .second] [(.int 0)]))
      have hc216 : (0 : Int32) = (0 : Int32) := by decide
      refine Dn.st (fun _ kk => XS.ifNo X210.here hx rfl (hb hby at_216) rfl ((if0 _ _).trans (teq hc216).2) (XS.aload X210.here hx rfl (hb hby at_219) rfl rfl (kk))) ?_
      show Dn p e below s _ _ _ (T210.setTop (mkF m 221 #[vi p0, vi p1, vi p2, vi p3, vi p4, .val (.long p5), .second, vi 3, vi 0, vi v21, vi v27, vi v33, vi v43, vr bb53, vr b58, .val (.long v183), .second, .val (.double v205), .second] [(.ref b58)]))
      obtain ⟨_, T221, Lc221, X221, hQ221, st221⟩ := own_cv X210 hx hZ hown (rmGv l Z a0 hw [] b58 hm (3 : Int64) w175 T175.heap n0 Z175 V175) (tw hw 90 rfl) (tw hw 91 rfl) (tw hw 93 rfl) (tw hw 92 rfl) (tw hw 29 rfl) (tw hw 94 rfl) hh210 V175.1 (g := (mkF m 221 #[vi p0, vi p1, vi p2, vi p3, vi p4, .val (.long p5), .second, vi 3, vi 0, vi v21, vi v27, vi v33, vi v43, vr bb53, vr b58, .val (.long v183), .second, .val (.double v205), .second] [(.ref b58)])) (hb hby at_221) (W := 0) (argsL := []) (rest := []) (lenOf pd9 rfl) rfl (by rw [hml]; rfl) rfl rfl (Nat.le_of_eq rfl) (by decide) (by decide) (by decide) (by decide) (by decide)
      obtain ⟨rfl, Nq221, hh221⟩ := hQ221
      have N221 := Fr.app N210 Nq221
      refine Dn.tr st221 ?_
      refine Dn.st (fun _ kk => XS.iload X221.here hx rfl (hb hby at_224) rfl (XS.i2l X221.here hx rfl (hb hby at_226) rfl (XS.lcmp X221.here hx rfl (hb hby at_227) rfl (kk)))) ?_
      show Dn p e below s _ _ _ (T221.setTop (mkF m 228 #[vi p0, vi p1, vi p2, vi p3, vi p4, .val (.long p5), .second, vi 3, vi 0, vi v21, vi v27, vi v33, vi v43, vr bb53, vr b58, .val (.long v183), .second, .val (.double v205), .second] [(.int 0)]))
      have hc228 : (0 : Int32) = (0 : Int32) := by decide
      refine Dn.st (fun _ kk => XS.ifNo X221.here hx rfl (hb hby at_228) rfl ((if0 _ _).trans (teq hc228).2) (XS.iconst X221.here hx rfl (hb hby at_231) (XS.goto X221.here hx rfl (pc0 := 232) (pc' := 236) rfl (hb hby at_232) (by decide) (by decide) (kk)))) ?_
      show Dn p e below s _ _ _ (T221.setTop (mkF m 236 #[vi p0, vi p1, vi p2, vi p3, vi p4, .val (.long p5), .second, vi 3, vi 0, vi v21, vi v27, vi v33, vi v43, vr bb53, vr b58, .val (.long v183), .second, .val (.double v205), .second] [(.int 1)]))
      exact Dn.ret X221 hlk hx hret rfl (Or.inl ⟨rfl, Or.inr (Or.inl rfl), _, rfl⟩) (hb hby at_236) (by rw [hh221]; exact ⟨rfl, N221⟩) (by decide) (by decide)
  · have hi8 : ¬ v7.toInt = 0 := fun qq => hc8 (Int32.toInt_inj.mp qq)
    refine Dn.st (fun _ kk => XS.ifNo X0.here hx rfl (hb hby at_8) rfl ((if0 _ _).trans (feq hc8).1) (XS.iconst X0.here hx rfl (hb hby at_11) (XS.goto X0.here hx rfl (pc0 := 12) (pc' := 16) rfl (hb hby at_12) (by decide) (by decide) (XS.istore X0.here hx rfl (hb hby at_16) rfl (l' := #[vi p0, vi p1, vi p2, vi p3, vi p4, .val (.long p5), .second, vi v2, vi 1, .unset, .unset, .unset, .unset, .unset, .unset, .unset, .unset, .unset, .unset]) rfl (XS.iloadN X0.here hx rfl (hb hby at_18) rfl (X0.ldcInt hx hown (mvT hZ (tw hw 0 rfl)) (g := (mkF m 19 #[vi p0, vi p1, vi p2, vi p3, vi p4, .val (.long p5), .second, vi v2, vi 1, .unset, .unset, .unset, .unset, .unset, .unset, .unset, .unset, .unset, .unset] [(.int p0)])) rfl (hb hby at_19) _ (iremM X0 hx rfl (hb hby at_21) rfl (by decide) (kk)))))))) ?_
    show Dn p e below s _ _ _ (s₁.setTop (mkF m 22 #[vi p0, vi p1, vi p2, vi p3, vi p4, .val (.long p5), .second, vi v2, vi 1, .unset, .unset, .unset, .unset, .unset, .unset, .unset, .unset, .unset, .unset] [(.int (p0 % (100000 : Int32)))]))
    generalize hv21 : ((p0 % (100000 : Int32)) : Int32) = v21
    have q21 : (0 ≤ p0.toInt → v21.toInt = p0.toInt % 100000) ∧ (p0.toInt < 0 → v21.toInt = -((-p0.toInt) % 100000)) := by have qq := c_irem p0 (100000 : Int32) 100000 rfl; rw [hv21] at qq; exact qq
    have r21 := rng32 v21
    refine Dn.st (fun _ kk => XS.istore X0.here hx rfl (hb hby at_22) rfl (l' := #[vi p0, vi p1, vi p2, vi p3, vi p4, .val (.long p5), .second, vi v2, vi 1, vi v21, .unset, .unset, .unset, .unset, .unset, .unset, .unset, .unset, .unset]) rfl (XS.iloadN X0.here hx rfl (hb hby at_24) rfl (X0.ldcInt hx hown (mvT hZ (tw hw 0 rfl)) (g := (mkF m 25 #[vi p0, vi p1, vi p2, vi p3, vi p4, .val (.long p5), .second, vi v2, vi 1, vi v21, .unset, .unset, .unset, .unset, .unset, .unset, .unset, .unset, .unset] [(.int p1)])) rfl (hb hby at_25) _ (iremM X0 hx rfl (hb hby at_27) rfl (by decide) (kk))))) ?_
    show Dn p e below s _ _ _ (s₁.setTop (mkF m 28 #[vi p0, vi p1, vi p2, vi p3, vi p4, .val (.long p5), .second, vi v2, vi 1, vi v21, .unset, .unset, .unset, .unset, .unset, .unset, .unset, .unset, .unset] [(.int (p1 % (100000 : Int32)))]))
    generalize hv27 : ((p1 % (100000 : Int32)) : Int32) = v27
    have q27 : (0 ≤ p1.toInt → v27.toInt = p1.toInt % 100000) ∧ (p1.toInt < 0 → v27.toInt = -((-p1.toInt) % 100000)) := by have qq := c_irem p1 (100000 : Int32) 100000 rfl; rw [hv27] at qq; exact qq
    have r27 := rng32 v27
    refine Dn.st (fun _ kk => XS.istore X0.here hx rfl (hb hby at_28) rfl (l' := #[vi p0, vi p1, vi p2, vi p3, vi p4, .val (.long p5), .second, vi v2, vi 1, vi v21, vi v27, .unset, .unset, .unset, .unset, .unset, .unset, .unset, .unset]) rfl (XS.iloadN X0.here hx rfl (hb hby at_30) rfl (X0.ldcInt hx hown (mvT hZ (tw hw 0 rfl)) (g := (mkF m 31 #[vi p0, vi p1, vi p2, vi p3, vi p4, .val (.long p5), .second, vi v2, vi 1, vi v21, vi v27, .unset, .unset, .unset, .unset, .unset, .unset, .unset, .unset] [(.int p2)])) rfl (hb hby at_31) _ (iremM X0 hx rfl (hb hby at_33) rfl (by decide) (kk))))) ?_
    show Dn p e below s _ _ _ (s₁.setTop (mkF m 34 #[vi p0, vi p1, vi p2, vi p3, vi p4, .val (.long p5), .second, vi v2, vi 1, vi v21, vi v27, .unset, .unset, .unset, .unset, .unset, .unset, .unset, .unset] [(.int (p2 % (100000 : Int32)))]))
    generalize hv33 : ((p2 % (100000 : Int32)) : Int32) = v33
    have q33 : (0 ≤ p2.toInt → v33.toInt = p2.toInt % 100000) ∧ (p2.toInt < 0 → v33.toInt = -((-p2.toInt) % 100000)) := by have qq := c_irem p2 (100000 : Int32) 100000 rfl; rw [hv33] at qq; exact qq
    have r33 := rng32 v33
    refine Dn.st (fun _ kk => XS.istore X0.here hx rfl (hb hby at_34) rfl (l' := #[vi p0, vi p1, vi p2, vi p3, vi p4, .val (.long p5), .second, vi v2, vi 1, vi v21, vi v27, vi v33, .unset, .unset, .unset, .unset, .unset, .unset, .unset]) rfl (XS.iload X0.here hx rfl (hb hby at_36) rfl (XS.bipush X0.here hx rfl (hb hby at_38) (XS.ishr X0.here hx rfl (hb hby at_40) rfl (kk))))) ?_
    show Dn p e below s _ _ _ (s₁.setTop (mkF m 41 #[vi p0, vi p1, vi p2, vi p3, vi p4, .val (.long p5), .second, vi v2, vi 1, vi v21, vi v27, vi v33, .unset, .unset, .unset, .unset, .unset, .unset, .unset] [(.int (p4 >>> ((8 : Int32) &&& 31)))]))
    generalize hv40 : ((p4 >>> ((8 : Int32) &&& 31)) : Int32) = v40
    have q40 : v40.toInt = p4.toInt / 256 := by have qq := c_ishr p4 (8 : Int32) 8 (by decide); rw [hv40] at qq; exact qq
    have r40 := rng32 v40
    refine Dn.st (fun _ kk => X0.ldcInt hx hown (mvT hZ (tw hw 0 rfl)) (g := (mkF m 41 #[vi p0, vi p1, vi p2, vi p3, vi p4, .val (.long p5), .second, vi v2, vi 1, vi v21, vi v27, vi v33, .unset, .unset, .unset, .unset, .unset, .unset, .unset] [(.int v40)])) rfl (hb hby at_41) _ (iremM X0 hx rfl (hb hby at_43) rfl (by decide) (kk))) ?_
    show Dn p e below s _ _ _ (s₁.setTop (mkF m 44 #[vi p0, vi p1, vi p2, vi p3, vi p4, .val (.long p5), .second, vi v2, vi 1, vi v21, vi v27, vi v33, .unset, .unset, .unset, .unset, .unset, .unset, .unset] [(.int (v40 % (100000 : Int32)))]))
    generalize hv43 : ((v40 % (100000 : Int32)) : Int32) = v43
    have q43 : (0 ≤ v40.toInt → v43.toInt = v40.toInt % 100000) ∧ (v40.toInt < 0 → v43.toInt = -((-v40.toInt) % 100000)) := by have qq := c_irem v40 (100000 : Int32) 100000 rfl; rw [hv43] at qq; exact qq
    have r43 := rng32 v43
    refine Dn.st (fun _ kk => XS.istore X0.here hx rfl (hb hby at_44) rfl (l' := #[vi p0, vi p1, vi p2, vi p3, vi p4, .val (.long p5), .second, vi v2, vi 1, vi v21, vi v27, vi v33, vi v43, .unset, .unset, .unset, .unset, .unset, .unset]) rfl (XS.iload X0.here hx rfl (hb hby at_46) rfl (XS.sipush X0.here hx rfl (hb hby at_48) (XS.iand X0.here hx rfl (hb hby at_51) rfl (kk))))) ?_
    show Dn p e below s _ _ _ (s₁.setTop (mkF m 52 #[vi p0, vi p1, vi p2, vi p3, vi p4, .val (.long p5), .second, vi v2, vi 1, vi v21, vi v27, vi v33, vi v43, .unset, .unset, .unset, .unset, .unset, .unset] [(.int (p4 &&& (255 : Int32)))]))
    generalize hv51 : ((p4 &&& (255 : Int32)) : Int32) = v51
    have q51 : v51.toInt = p4.toInt % 256 := by have qq := c_mask p4 (255 : Int32) 8 (by decide) (by decide); rw [hv51] at qq; exact qq
    have r51 := rng32 v51
    refine Dn.st (fun _ kk => XS.i2c X0.here hx rfl (hb hby at_52) rfl (kk)) ?_
    show Dn p e below s _ _ _ (s₁.setTop (mkF m 53 #[vi p0, vi p1, vi p2, vi p3, vi p4, .val (.long p5), .second, vi v2, vi 1, vi v21, vi v27, vi v33, vi v43, .unset, .unset, .unset, .unset, .unset, .unset] [(.int (v51.toUInt32.toUInt16.toUInt32.toInt32))]))
    generalize hv52 : ((v51.toUInt32.toUInt16.toUInt32.toInt32) : Int32) = v52
    have q52 : (v52.toInt - v51.toInt) % 65536 = 0 ∧ 0 ≤ v52.toInt ∧ v52.toInt < 65536 := by have qq := c_i2c v51; rw [hv52] at qq; exact qq
    have r52 := rng32 v52
    obtain ⟨_, T53, Lc53, X53, hQ53, st53⟩ := own_cs X0 hx hZ hown (rmVc l Z a0 hw [] v52 cs h0 n0 Z0 (by intro q; have q' := Int32.lt_iff_toInt_lt.mp q; have e255 : (255 : Int32).toInt = 255 := rfl; omega) hS hcs) (tw hw 1 rfl) (tw hw 2 rfl) (tw hw 3 rfl) (tw hw 4 rfl) e0 (g := (mkF m 53 #[vi p0, vi p1, vi p2, vi p3, vi p4, .val (.long p5), .second, vi v2, vi 1, vi v21, vi v27, vi v33, vi v43, .unset, .unset, .unset, .unset, .unset, .unset] [(.int v52)])) (hb hby at_53) (W := 0) (argsL := [(.int v52)]) (rest := []) (lenOf pd7 rfl) rfl (by rw [hml]; rfl) rfl rfl (Nat.le_of_eq rfl) (by decide) (by decide) (by decide) (by decide) (by decide)
    obtain ⟨bb53, rfl, gz53, Nq53, K53⟩ := hQ53
    have N53 := Fr.app N0 Nq53
    refine Dn.st st53 ?_
    have Z53 : n0 ≤ T53.heap.size := Nat.le_trans Z0 K53.1
    refine Dn.st (fun _ kk => XS.astore X53.here hx rfl (hb hby at_56) rfl rfl (l' := #[vi p0, vi p1, vi p2, vi p3, vi p4, .val (.long p5), .second, vi v2, vi 1, vi v21, vi v27, vi v33, vi v43, vr bb53, .unset, .unset, .unset, .unset, .unset]) rfl (kk)) ?_
    show Dn p e below s _ _ _ (T53.setTop (mkF m 58 #[vi p0, vi p1, vi p2, vi p3, vi p4, .val (.long p5), .second, vi v2, vi 1, vi v21, vi v27, vi v33, vi v43, vr bb53, .unset, .unset, .unset, .unset, .unset] []))
    obtain ⟨T58, h58, X58, e58, E58, A58, D58, -, st58⟩ := newO X53 hx hZ hown (tw hw 27 rfl) (tw hw 28 rfl) (tw hw 29 rfl) rfl (g := (mkF m 58 #[vi p0, vi p1, vi p2, vi p3, vi p4, .val (.long p5), .second, vi v2, vi 1, vi v21, vi v27, vi v33, vi v43, vr bb53, .unset, .unset, .unset, .unset, .unset] [])) rfl (hb hby at_58) (by decide) (by decide)
    obtain ⟨b58, g58⟩ : ∃ z, z = T53.heap.size := ⟨_, rfl⟩
    rw [← g58] at A58 D58 st58
    have gn_b58 : n0 ≤ b58 := Nat.le_trans Z53 (Nat.le_of_eq g58.symm)
    have Z58 : n0 ≤ h58.size := Nat.le_trans Z53 E58.1
    have F_b58_departuresMs : Fld Z h58 b58 "com/example/nudo/nudo/core/metrics/VehicleStatistics" "departuresMs" "Ljava/util/Map;" .null := D58 (Or.inr (tw hw 51 rfl)) (ty := (.object "java/util/Map")) (by decide)
    have F_b58_waitingMs : Fld Z h58 b58 "com/example/nudo/nudo/core/metrics/VehicleStatistics" "waitingMs" "Ljava/util/Map;" .null := D58 (Or.inr (tw hw 53 rfl)) (ty := (.object "java/util/Map")) (by decide)
    have F_b58_vehicleSteps : Fld Z h58 b58 "com/example/nudo/nudo/core/metrics/VehicleStatistics" "vehicleSteps" "J" (.long (0 : Int64)) := D58 (Or.inl (tw hw 61 rfl)) (ty := .long) (by decide)
    have F_b58_speedSum : Fld Z h58 b58 "com/example/nudo/nudo/core/metrics/VehicleStatistics" "speedSum" "D" (.double (0 : UInt64)) := D58 (Or.inl (tw hw 63 rfl)) (ty := .double) (by decide)
    have F_b58_departed : Fld Z h58 b58 "com/example/nudo/nudo/core/metrics/VehicleStatistics" "departed" "J" (.long (0 : Int64)) := D58 (Or.inl (tw hw 101 rfl)) (ty := .long) (by decide)
    have F_b58_arrived : Fld Z h58 b58 "com/example/nudo/nudo/core/metrics/VehicleStatistics" "arrived" "J" (.long (0 : Int64)) := D58 (Or.inl (tw hw 103 rfl)) (ty := .long) (by decide)
    have F_b58_trips : Fld Z h58 b58 "com/example/nudo/nudo/core/metrics/VehicleStatistics" "trips" "J" (.long (0 : Int64)) := D58 (Or.inl (tw hw 105 rfl)) (ty := .long) (by decide)
    have F_b58_tripDurationsMs : Fld Z h58 b58 "com/example/nudo/nudo/core/metrics/VehicleStatistics" "tripDurationsMs" "J" (.long (0 : Int64)) := D58 (Or.inl (tw hw 107 rfl)) (ty := .long) (by decide)
    refine Dn.st st58 ?_
    refine Dn.st (fun _ kk => XS.dup X58.here hx rfl (hb hby at_61) rfl rfl (kk)) ?_
    show Dn p e below s _ _ _ (T58.setTop (mkF m 62 #[vi p0, vi p1, vi p2, vi p3, vi p4, .val (.long p5), .second, vi v2, vi 1, vi v21, vi v27, vi v33, vi v43, vr bb53, .unset, .unset, .unset, .unset, .unset] [(.ref b58), (.ref b58)]))
    obtain ⟨_, T62, Lc62, X62, hQ62, st62⟩ := own_ci X58 hx hZ hown (rmVi l Z a0 hw [] b58  h58 n0 Z58 gn_b58 A58 F_b58_departuresMs F_b58_waitingMs F_b58_vehicleSteps F_b58_speedSum F_b58_departed F_b58_arrived F_b58_trips F_b58_tripDurationsMs) (tw hw 30 rfl) (tw hw 31 rfl) (tw hw 29 rfl) (tw hw 32 rfl) e58 (g := (mkF m 62 #[vi p0, vi p1, vi p2, vi p3, vi p4, .val (.long p5), .second, vi v2, vi 1, vi v21, vi v27, vi v33, vi v43, vr bb53, .unset, .unset, .unset, .unset, .unset] [(.ref b58), (.ref b58)])) (hb hby at_62) (W := 1) (argsL := []) (rest := [(.ref b58)]) (lenOf pd3 rfl) rfl (by rw [hml]; rfl) rfl rfl (Nat.le_of_eq rfl) rfl (by decide) (by decide) (by decide) (by decide) (by decide)
    obtain ⟨hm, rfl, Nq62, K62, gh62, V62, U62⟩ := hQ62
    have N62 := Fr.app N53 Nq62
    refine Dn.tr st62 ?_
    have Z62 : n0 ≤ T62.heap.size := Nat.le_trans Z58 K62.1
    have nehm : hm ≠ b58 := U62.1.ne V62.1 (by decide)
    refine Dn.st (fun _ kk => XS.astore X62.here hx rfl (hb hby at_65) rfl rfl (l' := #[vi p0, vi p1, vi p2, vi p3, vi p4, .val (.long p5), .second, vi v2, vi 1, vi v21, vi v27, vi v33, vi v43, vr bb53, vr b58, .unset, .unset, .unset, .unset]) rfl (kk)) ?_
    show Dn p e below s _ _ _ (T62.setTop (mkF m 67 #[vi p0, vi p1, vi p2, vi p3, vi p4, .val (.long p5), .second, vi v2, vi 1, vi v21, vi v27, vi v33, vi v43, vr bb53, vr b58, .unset, .unset, .unset, .unset] []))
    rcases own_c4 (v := v2) (by omega) (by omega) with hk67 | hk67 | hk67 | hk67
    · subst hk67
      refine Dn.st (fun _ kk => XS.iload X62.here hx rfl (hb hby at_67) rfl (kk)) ?_
      show Dn p e below s _ _ _ (T62.setTop (mkF m 69 #[vi p0, vi p1, vi p2, vi p3, vi p4, .val (.long p5), .second, vi 0, vi 1, vi v21, vi v27, vi v33, vi v43, vr bb53, vr b58, .unset, .unset, .unset, .unset] [(.int 1)]))
      have hc69 : ¬ ((1 : Int32) = (0 : Int32)) := by decide
      refine Dn.st (fun _ kk => XS.ifNo X62.here hx rfl (hb hby at_69) rfl ((if0 _ _).trans (feq hc69).1) (XS.aload X62.here hx rfl (hb hby at_72) rfl rfl (XS.aload X62.here hx rfl (hb hby at_74) rfl rfl (XS.iload X62.here hx rfl (hb hby at_76) rfl (kk))))) ?_
      show Dn p e below s _ _ _ (T62.setTop (mkF m 78 #[vi p0, vi p1, vi p2, vi p3, vi p4, .val (.long p5), .second, vi 0, vi 1, vi v21, vi v27, vi v33, vi v43, vr bb53, vr b58, .unset, .unset, .unset, .unset] [(.int v43), (.ref bb53), (.ref b58)]))
      have d78 := DS.i2d v43
      refine Dn.st (fun _ kk => XS.i2dS X62.here hx rfl (hb hby at_78) rfl rfl (kk)) ?_
      show Dn p e below s _ _ _ (T62.setTop (mkF m 79 #[vi p0, vi p1, vi p2, vi p3, vi p4, .val (.long p5), .second, vi 0, vi 1, vi v21, vi v27, vi v33, vi v43, vr bb53, vr b58, .unset, .unset, .unset, .unset] [(.double (FP.i2d v43)), (.ref bb53), (.ref b58)]))
      generalize hv78 : ((FP.i2d v43) : UInt64) = v78 at d78 ⊢
      refine Dn.st (fun _ kk => X62.ldc2DoubleC hx hown (mvT hZ (tw hw 54 rfl)) (g := (mkF m 79 #[vi p0, vi p1, vi p2, vi p3, vi p4, .val (.long p5), .second, vi 0, vi 1, vi v21, vi v27, vi v33, vi v43, vr bb53, vr b58, .unset, .unset, .unset, .unset] [(.double v78), (.ref bb53), (.ref b58)])) rfl (hb hby at_79) _ (kk)) ?_
      show Dn p e below s _ _ _ (T62.setTop (mkF m 82 #[vi p0, vi p1, vi p2, vi p3, vi p4, .val (.long p5), .second, vi 0, vi 1, vi v21, vi v27, vi v33, vi v43, vr bb53, vr b58, .unset, .unset, .unset, .unset] [(.double (4616189618054758400 : UInt64)), (.double v78), (.ref bb53), (.ref b58)]))
      have d82 : DS 2 v43.toInt (FP.ddiv v78 (4616189618054758400 : UInt64)) := DS.divp (t := 2) d78 dc_4616189618054758400 (by first | omega | decide) (by decide)
      refine Dn.st (fun _ kk => XS.ddivS X62.here hx rfl (hb hby at_82) rfl d82.nn rfl (kk)) ?_
      show Dn p e below s _ _ _ (T62.setTop (mkF m 83 #[vi p0, vi p1, vi p2, vi p3, vi p4, .val (.long p5), .second, vi 0, vi 1, vi v21, vi v27, vi v33, vi v43, vr bb53, vr b58, .unset, .unset, .unset, .unset] [(.double (FP.ddiv v78 (4616189618054758400 : UInt64))), (.ref bb53), (.ref b58)]))
      generalize hv82 : ((FP.ddiv v78 (4616189618054758400 : UInt64)) : UInt64) = v82 at d82 ⊢
      refine Dn.st (fun _ kk => XS.lload X62.here hx rfl (hb hby at_83) rfl (kk)) ?_
      show Dn p e below s _ _ _ (T62.setTop (mkF m 85 #[vi p0, vi p1, vi p2, vi p3, vi p4, .val (.long p5), .second, vi 0, vi 1, vi v21, vi v27, vi v33, vi v43, vr bb53, vr b58, .unset, .unset, .unset, .unset] [(.long p5), (.double v82), (.ref bb53), (.ref b58)]))
      obtain ⟨w85, hw85⟩ : ∃ z, FP.dadd (0 : UInt64) v82 = z := ⟨_, rfl⟩
      have dw85 : DS 2 (0 + v43.toInt) w85 := hw85 ▸ DS.add (DS.zero 2) d82 (by omega) (by decide)
      obtain ⟨_, T85, Lc85, X85, hQ85, st85⟩ := own_cv X62 hx hZ hown (rmVt l Z a0 hw [] b58 bb53 v82 p5 hm (0 : Int64) (1 : Int64) (0 : UInt64) w85 T62.heap n0 Z62 gn_b58 V62 U62 nehm rfl hw85 (hw85 ▸ dw85.nn)) (tw hw 55 rfl) (tw hw 56 rfl) (tw hw 58 rfl) (tw hw 57 rfl) (tw hw 29 rfl) (tw hw 59 rfl) rfl V62.1 (g := (mkF m 85 #[vi p0, vi p1, vi p2, vi p3, vi p4, .val (.long p5), .second, vi 0, vi 1, vi v21, vi v27, vi v33, vi v43, vr bb53, vr b58, .unset, .unset, .unset, .unset] [(.long p5), (.double v82), (.ref bb53), (.ref b58)])) (hb hby at_85) (W := 0) (argsL := [(.ref bb53), (.double v82), (.long p5)]) (rest := []) (lenOf pd10 rfl) rfl (by rw [hml]; rfl) rfl rfl (Nat.le_of_eq rfl) (by decide) (by decide) (by decide) (by decide) (by decide)
      obtain ⟨rfl, Nq85, K85, V85⟩ := hQ85
      have N85 := Fr.app N62 Nq85
      refine Dn.tr st85 ?_
      have Z85 : n0 ≤ T85.heap.size := Nat.le_trans Z62 K85.1
      have U85 : own_HM Z T85.heap hm := ⟨U62.1.keep K85, U62.2.1.keep K85 (ninS nehm nin0), U62.2.2.keep K85 (ninS nehm nin0)⟩
      refine Dn.st (fun _ kk => XS.aload X85.here hx rfl (hb hby at_88) rfl rfl (kk)) ?_
      show Dn p e below s _ _ _ (T85.setTop (mkF m 90 #[vi p0, vi p1, vi p2, vi p3, vi p4, .val (.long p5), .second, vi 0, vi 1, vi v21, vi v27, vi v33, vi v43, vr bb53, vr b58, .unset, .unset, .unset, .unset] [(.ref b58)]))
      obtain ⟨_, T90, Lc90, X90, hQ90, st90⟩ := own_cv X85 hx hZ hown (rmRs l Z a0 hw [] b58 hm (1 : Int64) w85 T85.heap n0 Z85 gn_b58 V85 U85 nehm) (tw hw 95 rfl) (tw hw 96 rfl) (tw hw 98 rfl) (tw hw 97 rfl) (tw hw 29 rfl) (tw hw 99 rfl) rfl V85.1 (g := (mkF m 90 #[vi p0, vi p1, vi p2, vi p3, vi p4, .val (.long p5), .second, vi 0, vi 1, vi v21, vi v27, vi v33, vi v43, vr bb53, vr b58, .unset, .unset, .unset, .unset] [(.ref b58)])) (hb hby at_90) (W := 0) (argsL := []) (rest := []) (lenOf pd3 rfl) rfl (by rw [hml]; rfl) rfl rfl (Nat.le_of_eq rfl) (by decide) (by decide) (by decide) (by decide) (by decide)
      obtain ⟨rfl, Nq90, K90, V90⟩ := hQ90
      have N90 := Fr.app N85 Nq90
      refine Dn.tr st90 ?_
      have Z90 : n0 ≤ T90.heap.size := Nat.le_trans Z85 K90.1
      have U90 : own_HM Z T90.heap hm := ⟨U85.1.keep K90, U85.2.1.keep K90 (ninS nehm nin0), U85.2.2.keep K90 (ninS nehm nin0)⟩
      refine Dn.st (fun _ kk => XS.lconst X90.here hx rfl (hb hby at_93) (XS.lstore X90.here hx rfl (hb hby at_94) rfl (l' := #[vi p0, vi p1, vi p2, vi p3, vi p4, .val (.long p5), .second, vi 0, vi 1, vi v21, vi v27, vi v33, vi v43, vr bb53, vr b58, .val (.long (0 : Int64)), .second, .unset, .unset]) rfl (XS.iload X90.here hx rfl (hb hby at_96) rfl (XS.iconst X90.here hx rfl (hb hby at_98) (kk))))) ?_
      show Dn p e below s _ _ _ (T90.setTop (mkF m 99 #[vi p0, vi p1, vi p2, vi p3, vi p4, .val (.long p5), .second, vi 0, vi 1, vi v21, vi v27, vi v33, vi v43, vr bb53, vr b58, .val (.long (0 : Int64)), .second, .unset, .unset] [(.int 1), (.int 0)]))
      have hc99 : (0 : Int32) < (1 : Int32) := by decide
      refine Dn.st (fun _ kk => XS.icmpYes X90.here hx rfl (pc0 := 99) (pc' := 126) rfl (hb hby at_99) rfl (tlt hc99).1 (by decide) (by decide) (XS.iload X90.here hx rfl (hb hby at_126) rfl (XS.iconst X90.here hx rfl (hb hby at_128) (kk)))) ?_
      show Dn p e below s _ _ _ (T90.setTop (mkF m 129 #[vi p0, vi p1, vi p2, vi p3, vi p4, .val (.long p5), .second, vi 0, vi 1, vi v21, vi v27, vi v33, vi v43, vr bb53, vr b58, .val (.long (0 : Int64)), .second, .unset, .unset] [(.int 2), (.int 0)]))
      have hc129 : (0 : Int32) < (2 : Int32) := by decide
      refine Dn.st (fun _ kk => XS.icmpYes X90.here hx rfl (pc0 := 129) (pc' := 156) rfl (hb hby at_129) rfl (tlt hc129).1 (by decide) (by decide) (XS.iload X90.here hx rfl (hb hby at_156) rfl (XS.iconst X90.here hx rfl (hb hby at_158) (kk)))) ?_
      show Dn p e below s _ _ _ (T90.setTop (mkF m 159 #[vi p0, vi p1, vi p2, vi p3, vi p4, .val (.long p5), .second, vi 0, vi 1, vi v21, vi v27, vi v33, vi v43, vr bb53, vr b58, .val (.long (0 : Int64)), .second, .unset, .unset] [(.int 3), (.int 0)]))
      have hc159 : (0 : Int32) < (3 : Int32) := by decide
      refine Dn.st (fun _ kk => XS.icmpYes X90.here hx rfl (pc0 := 159) (pc' := 186) rfl (hb hby at_159) rfl (tlt hc159).1 (by decide) (by decide) (XS.iload X90.here hx rfl (hb hby at_186) rfl (kk))) ?_
      show Dn p e below s _ _ _ (T90.setTop (mkF m 188 #[vi p0, vi p1, vi p2, vi p3, vi p4, .val (.long p5), .second, vi 0, vi 1, vi v21, vi v27, vi v33, vi v43, vr bb53, vr b58, .val (.long (0 : Int64)), .second, .unset, .unset] [(.int 0)]))
      have hc188 : (0 : Int32) = (0 : Int32) := by decide
      refine Dn.st (fun _ kk => XS.ifNo X90.here hx rfl (hb hby at_188) rfl ((if0 _ _).trans (teq hc188).2) (XS.dconst0 X90.here hx rfl (hb hby at_191) rfl (XS.goto X90.here hx rfl (pc0 := 192) (pc' := 206) rfl (hb hby at_192) (by decide) (by decide) (XS.dstore X90.here hx rfl (hb hby at_206) rfl (l' := #[vi p0, vi p1, vi p2, vi p3, vi p4, .val (.long p5), .second, vi 0, vi 1, vi v21, vi v27, vi v33, vi v43, vr bb53, vr b58, .val (.long (0 : Int64)), .second, .val (.double FP.dconst0), .second]) rfl (XS.aload X90.here hx rfl (hb hby at_208) rfl rfl (kk)))))) ?_
      show Dn p e below s _ _ _ (T90.setTop (mkF m 210 #[vi p0, vi p1, vi p2, vi p3, vi p4, .val (.long p5), .second, vi 0, vi 1, vi v21, vi v27, vi v33, vi v43, vr bb53, vr b58, .val (.long (0 : Int64)), .second, .val (.double FP.dconst0), .second] [(.ref b58)]))
      obtain ⟨_, T210, Lc210, X210, hQ210, st210⟩ := own_cv X90 hx hZ hown (rmG0 l Z a0 hw [] b58 hm FP.dconst0 T90.heap n0 Z90 V90) (tw hw 85 rfl) (tw hw 86 rfl) (tw hw 88 rfl) (tw hw 87 rfl) (tw hw 29 rfl) (tw hw 89 rfl) rfl V90.1 (g := (mkF m 210 #[vi p0, vi p1, vi p2, vi p3, vi p4, .val (.long p5), .second, vi 0, vi 1, vi v21, vi v27, vi v33, vi v43, vr bb53, vr b58, .val (.long (0 : Int64)), .second, .val (.double FP.dconst0), .second] [(.ref b58)])) (hb hby at_210) (W := 0) (argsL := []) (rest := []) (lenOf pd8 rfl) rfl (by rw [hml]; rfl) rfl rfl (Nat.le_of_eq rfl) (by decide) (by decide) (by decide) (by decide) (by decide)
      obtain ⟨rfl, Nq210, hh210⟩ := hQ210
      have N210 := Fr.app N90 Nq210
      refine Dn.tr st210 ?_
      refine Dn.st (fun _ kk => XS.dload X210.here hx rfl (hb hby at_213) rfl (XS.dcmpS X210.here hx rfl (hb hby at_215) rfl (DS.cmpV dc_0 dc_0 _) (kk))) ?_
      show Dn p e below s _ _ _ (T210.setTop (mkF m 216 #[vi p0, vi p1, vi p2, vi p3, vi p4, .val (.long p5), .second, vi 0, vi 1, vi v21, vi v27, vi v33, vi v43, vr bb53, vr b58, .val (.long (0 : Int64)), .second, .val (.double FP.dconst0), .second] [(.int (c3 0 0))]))
      have hc216 : (c3 0 0) = (0 : Int32) := (c3_eq _ _).mpr rfl
      refine Dn.st (fun _ kk => XS.ifNo X210.here hx rfl (hb hby at_216) rfl ((if0 _ _).trans (teq hc216).2) (XS.aload X210.here hx rfl (hb hby at_219) rfl rfl (kk))) ?_
      show Dn p e below s _ _ _ (T210.setTop (mkF m 221 #[vi p0, vi p1, vi p2, vi p3, vi p4, .val (.long p5), .second, vi 0, vi 1, vi v21, vi v27, vi v33, vi v43, vr bb53, vr b58, .val (.long (0 : Int64)), .second, .val (.double FP.dconst0), .second] [(.ref b58)]))
      obtain ⟨_, T221, Lc221, X221, hQ221, st221⟩ := own_cv X210 hx hZ hown (rmGv l Z a0 hw [] b58 hm (0 : Int64) FP.dconst0 T90.heap n0 Z90 V90) (tw hw 90 rfl) (tw hw 91 rfl) (tw hw 93 rfl) (tw hw 92 rfl) (tw hw 29 rfl) (tw hw 94 rfl) hh210 V90.1 (g := (mkF m 221 #[vi p0, vi p1, vi p2, vi p3, vi p4, .val (.long p5), .second, vi 0, vi 1, vi v21, vi v27, vi v33, vi v43, vr bb53, vr b58, .val (.long (0 : Int64)), .second, .val (.double FP.dconst0), .second] [(.ref b58)])) (hb hby at_221) (W := 0) (argsL := []) (rest := []) (lenOf pd9 rfl) rfl (by rw [hml]; rfl) rfl rfl (Nat.le_of_eq rfl) (by decide) (by decide) (by decide) (by decide) (by decide)
      obtain ⟨rfl, Nq221, hh221⟩ := hQ221
      have N221 := Fr.app N210 Nq221
      refine Dn.tr st221 ?_
      refine Dn.st (fun _ kk => XS.iload X221.here hx rfl (hb hby at_224) rfl (XS.i2l X221.here hx rfl (hb hby at_226) rfl (XS.lcmp X221.here hx rfl (hb hby at_227) rfl (kk)))) ?_
      show Dn p e below s _ _ _ (T221.setTop (mkF m 228 #[vi p0, vi p1, vi p2, vi p3, vi p4, .val (.long p5), .second, vi 0, vi 1, vi v21, vi v27, vi v33, vi v43, vr bb53, vr b58, .val (.long (0 : Int64)), .second, .val (.double FP.dconst0), .second] [(.int 0)]))
      have hc228 : (0 : Int32) = (0 : Int32) := by decide
      refine Dn.st (fun _ kk => XS.ifNo X221.here hx rfl (hb hby at_228) rfl ((if0 _ _).trans (teq hc228).2) (XS.iconst X221.here hx rfl (hb hby at_231) (XS.goto X221.here hx rfl (pc0 := 232) (pc' := 236) rfl (hb hby at_232) (by decide) (by decide) (kk)))) ?_
      show Dn p e below s _ _ _ (T221.setTop (mkF m 236 #[vi p0, vi p1, vi p2, vi p3, vi p4, .val (.long p5), .second, vi 0, vi 1, vi v21, vi v27, vi v33, vi v43, vr bb53, vr b58, .val (.long (0 : Int64)), .second, .val (.double FP.dconst0), .second] [(.int 1)]))
      exact Dn.ret X221 hlk hx hret rfl (Or.inl ⟨rfl, Or.inr (Or.inl rfl), _, rfl⟩) (hb hby at_236) (by rw [hh221]; exact ⟨rfl, N221⟩) (by decide) (by decide)
    · subst hk67
      refine Dn.st (fun _ kk => XS.iload X62.here hx rfl (hb hby at_67) rfl (kk)) ?_
      show Dn p e below s _ _ _ (T62.setTop (mkF m 69 #[vi p0, vi p1, vi p2, vi p3, vi p4, .val (.long p5), .second, vi 1, vi 1, vi v21, vi v27, vi v33, vi v43, vr bb53, vr b58, .unset, .unset, .unset, .unset] [(.int 1)]))
      have hc69 : ¬ ((1 : Int32) = (0 : Int32)) := by decide
      refine Dn.st (fun _ kk => XS.ifNo X62.here hx rfl (hb hby at_69) rfl ((if0 _ _).trans (feq hc69).1) (XS.aload X62.here hx rfl (hb hby at_72) rfl rfl (XS.aload X62.here hx rfl (hb hby at_74) rfl rfl (XS.iload X62.here hx rfl (hb hby at_76) rfl (kk))))) ?_
      show Dn p e below s _ _ _ (T62.setTop (mkF m 78 #[vi p0, vi p1, vi p2, vi p3, vi p4, .val (.long p5), .second, vi 1, vi 1, vi v21, vi v27, vi v33, vi v43, vr bb53, vr b58, .unset, .unset, .unset, .unset] [(.int v43), (.ref bb53), (.ref b58)]))
      have d78 := DS.i2d v43
      refine Dn.st (fun _ kk => XS.i2dS X62.here hx rfl (hb hby at_78) rfl rfl (kk)) ?_
      show Dn p e below s _ _ _ (T62.setTop (mkF m 79 #[vi p0, vi p1, vi p2, vi p3, vi p4, .val (.long p5), .second, vi 1, vi 1, vi v21, vi v27, vi v33, vi v43, vr bb53, vr b58, .unset, .unset, .unset, .unset] [(.double (FP.i2d v43)), (.ref bb53), (.ref b58)]))
      generalize hv78 : ((FP.i2d v43) : UInt64) = v78 at d78 ⊢
      refine Dn.st (fun _ kk => X62.ldc2DoubleC hx hown (mvT hZ (tw hw 54 rfl)) (g := (mkF m 79 #[vi p0, vi p1, vi p2, vi p3, vi p4, .val (.long p5), .second, vi 1, vi 1, vi v21, vi v27, vi v33, vi v43, vr bb53, vr b58, .unset, .unset, .unset, .unset] [(.double v78), (.ref bb53), (.ref b58)])) rfl (hb hby at_79) _ (kk)) ?_
      show Dn p e below s _ _ _ (T62.setTop (mkF m 82 #[vi p0, vi p1, vi p2, vi p3, vi p4, .val (.long p5), .second, vi 1, vi 1, vi v21, vi v27, vi v33, vi v43, vr bb53, vr b58, .unset, .unset, .unset, .unset] [(.double (4616189618054758400 : UInt64)), (.double v78), (.ref bb53), (.ref b58)]))
      have d82 : DS 2 v43.toInt (FP.ddiv v78 (4616189618054758400 : UInt64)) := DS.divp (t := 2) d78 dc_4616189618054758400 (by first | omega | decide) (by decide)
      refine Dn.st (fun _ kk => XS.ddivS X62.here hx rfl (hb hby at_82) rfl d82.nn rfl (kk)) ?_
      show Dn p e below s _ _ _ (T62.setTop (mkF m 83 #[vi p0, vi p1, vi p2, vi p3, vi p4, .val (.long p5), .second, vi 1, vi 1, vi v21, vi v27, vi v33, vi v43, vr bb53, vr b58, .unset, .unset, .unset, .unset] [(.double (FP.ddiv v78 (4616189618054758400 : UInt64))), (.ref bb53), (.ref b58)]))
      generalize hv82 : ((FP.ddiv v78 (4616189618054758400 : UInt64)) : UInt64) = v82 at d82 ⊢
      refine Dn.st (fun _ kk => XS.lload X62.here hx rfl (hb hby at_83) rfl (kk)) ?_
      show Dn p e below s _ _ _ (T62.setTop (mkF m 85 #[vi p0, vi p1, vi p2, vi p3, vi p4, .val (.long p5), .second, vi 1, vi 1, vi v21, vi v27, vi v33, vi v43, vr bb53, vr b58, .unset, .unset, .unset, .unset] [(.long p5), (.double v82), (.ref bb53), (.ref b58)]))
      obtain ⟨w85, hw85⟩ : ∃ z, FP.dadd (0 : UInt64) v82 = z := ⟨_, rfl⟩
      have dw85 : DS 2 (0 + v43.toInt) w85 := hw85 ▸ DS.add (DS.zero 2) d82 (by omega) (by decide)
      obtain ⟨_, T85, Lc85, X85, hQ85, st85⟩ := own_cv X62 hx hZ hown (rmVt l Z a0 hw [] b58 bb53 v82 p5 hm (0 : Int64) (1 : Int64) (0 : UInt64) w85 T62.heap n0 Z62 gn_b58 V62 U62 nehm rfl hw85 (hw85 ▸ dw85.nn)) (tw hw 55 rfl) (tw hw 56 rfl) (tw hw 58 rfl) (tw hw 57 rfl) (tw hw 29 rfl) (tw hw 59 rfl) rfl V62.1 (g := (mkF m 85 #[vi p0, vi p1, vi p2, vi p3, vi p4, .val (.long p5), .second, vi 1, vi 1, vi v21, vi v27, vi v33, vi v43, vr bb53, vr b58, .unset, .unset, .unset, .unset] [(.long p5), (.double v82), (.ref bb53), (.ref b58)])) (hb hby at_85) (W := 0) (argsL := [(.ref bb53), (.double v82), (.long p5)]) (rest := []) (lenOf pd10 rfl) rfl (by rw [hml]; rfl) rfl rfl (Nat.le_of_eq rfl) (by decide) (by decide) (by decide) (by decide) (by decide)
      obtain ⟨rfl, Nq85, K85, V85⟩ := hQ85
      have N85 := Fr.app N62 Nq85
      refine Dn.tr st85 ?_
      have Z85 : n0 ≤ T85.heap.size := Nat.le_trans Z62 K85.1
      have U85 : own_HM Z T85.heap hm := ⟨U62.1.keep K85, U62.2.1.keep K85 (ninS nehm nin0), U62.2.2.keep K85 (ninS nehm nin0)⟩
      refine Dn.st (fun _ kk => XS.aload X85.here hx rfl (hb hby at_88) rfl rfl (kk)) ?_
      show Dn p e below s _ _ _ (T85.setTop (mkF m 90 #[vi p0, vi p1, vi p2, vi p3, vi p4, .val (.long p5), .second, vi 1, vi 1, vi v21, vi v27, vi v33, vi v43, vr bb53, vr b58, .unset, .unset, .unset, .unset] [(.ref b58)]))
      obtain ⟨_, T90, Lc90, X90, hQ90, st90⟩ := own_cv X85 hx hZ hown (rmRs l Z a0 hw [] b58 hm (1 : Int64) w85 T85.heap n0 Z85 gn_b58 V85 U85 nehm) (tw hw 95 rfl) (tw hw 96 rfl) (tw hw 98 rfl) (tw hw 97 rfl) (tw hw 29 rfl) (tw hw 99 rfl) rfl V85.1 (g := (mkF m 90 #[vi p0, vi p1, vi p2, vi p3, vi p4, .val (.long p5), .second, vi 1, vi 1, vi v21, vi v27, vi v33, vi v43, vr bb53, vr b58, .unset, .unset, .unset, .unset] [(.ref b58)])) (hb hby at_90) (W := 0) (argsL := []) (rest := []) (lenOf pd3 rfl) rfl (by rw [hml]; rfl) rfl rfl (Nat.le_of_eq rfl) (by decide) (by decide) (by decide) (by decide) (by decide)
      obtain ⟨rfl, Nq90, K90, V90⟩ := hQ90
      have N90 := Fr.app N85 Nq90
      refine Dn.tr st90 ?_
      have Z90 : n0 ≤ T90.heap.size := Nat.le_trans Z85 K90.1
      have U90 : own_HM Z T90.heap hm := ⟨U85.1.keep K90, U85.2.1.keep K90 (ninS nehm nin0), U85.2.2.keep K90 (ninS nehm nin0)⟩
      refine Dn.st (fun _ kk => XS.lconst X90.here hx rfl (hb hby at_93) (XS.lstore X90.here hx rfl (hb hby at_94) rfl (l' := #[vi p0, vi p1, vi p2, vi p3, vi p4, .val (.long p5), .second, vi 1, vi 1, vi v21, vi v27, vi v33, vi v43, vr bb53, vr b58, .val (.long (0 : Int64)), .second, .unset, .unset]) rfl (XS.iload X90.here hx rfl (hb hby at_96) rfl (XS.iconst X90.here hx rfl (hb hby at_98) (kk))))) ?_
      show Dn p e below s _ _ _ (T90.setTop (mkF m 99 #[vi p0, vi p1, vi p2, vi p3, vi p4, .val (.long p5), .second, vi 1, vi 1, vi v21, vi v27, vi v33, vi v43, vr bb53, vr b58, .val (.long (0 : Int64)), .second, .unset, .unset] [(.int 1), (.int 1)]))
      have hc99 : ¬ ((1 : Int32) < (1 : Int32)) := by decide
      refine Dn.st (fun _ kk => XS.icmpNo X90.here hx rfl (hb hby at_99) rfl (flt hc99).1 (XS.aload X90.here hx rfl (hb hby at_102) rfl rfl (XS.aload X90.here hx rfl (hb hby at_104) rfl rfl (XS.iload X90.here hx rfl (hb hby at_106) rfl (kk))))) ?_
      show Dn p e below s _ _ _ (T90.setTop (mkF m 108 #[vi p0, vi p1, vi p2, vi p3, vi p4, .val (.long p5), .second, vi 1, vi 1, vi v21, vi v27, vi v33, vi v43, vr bb53, vr b58, .val (.long (0 : Int64)), .second, .unset, .unset] [(.int v21), (.ref bb53), (.ref b58)]))
      have d108 := DS.i2d v21
      refine Dn.st (fun _ kk => XS.i2dS X90.here hx rfl (hb hby at_108) rfl rfl (kk)) ?_
      show Dn p e below s _ _ _ (T90.setTop (mkF m 109 #[vi p0, vi p1, vi p2, vi p3, vi p4, .val (.long p5), .second, vi 1, vi 1, vi v21, vi v27, vi v33, vi v43, vr bb53, vr b58, .val (.long (0 : Int64)), .second, .unset, .unset] [(.double (FP.i2d v21)), (.ref bb53), (.ref b58)]))
      generalize hv108 : ((FP.i2d v21) : UInt64) = v108 at d108 ⊢
      refine Dn.st (fun _ kk => X90.ldc2DoubleC hx hown (mvT hZ (tw hw 54 rfl)) (g := (mkF m 109 #[vi p0, vi p1, vi p2, vi p3, vi p4, .val (.long p5), .second, vi 1, vi 1, vi v21, vi v27, vi v33, vi v43, vr bb53, vr b58, .val (.long (0 : Int64)), .second, .unset, .unset] [(.double v108), (.ref bb53), (.ref b58)])) rfl (hb hby at_109) _ (kk)) ?_
      show Dn p e below s _ _ _ (T90.setTop (mkF m 112 #[vi p0, vi p1, vi p2, vi p3, vi p4, .val (.long p5), .second, vi 1, vi 1, vi v21, vi v27, vi v33, vi v43, vr bb53, vr b58, .val (.long (0 : Int64)), .second, .unset, .unset] [(.double (4616189618054758400 : UInt64)), (.double v108), (.ref bb53), (.ref b58)]))
      have d112 : DS 2 v21.toInt (FP.ddiv v108 (4616189618054758400 : UInt64)) := DS.divp (t := 2) d108 dc_4616189618054758400 (by first | omega | decide) (by decide)
      refine Dn.st (fun _ kk => XS.ddivS X90.here hx rfl (hb hby at_112) rfl d112.nn rfl (kk)) ?_
      show Dn p e below s _ _ _ (T90.setTop (mkF m 113 #[vi p0, vi p1, vi p2, vi p3, vi p4, .val (.long p5), .second, vi 1, vi 1, vi v21, vi v27, vi v33, vi v43, vr bb53, vr b58, .val (.long (0 : Int64)), .second, .unset, .unset] [(.double (FP.ddiv v108 (4616189618054758400 : UInt64))), (.ref bb53), (.ref b58)]))
      generalize hv112 : ((FP.ddiv v108 (4616189618054758400 : UInt64)) : UInt64) = v112 at d112 ⊢
      refine Dn.st (fun _ kk => XS.lload X90.here hx rfl (hb hby at_113) rfl (kk)) ?_
      show Dn p e below s _ _ _ (T90.setTop (mkF m 115 #[vi p0, vi p1, vi p2, vi p3, vi p4, .val (.long p5), .second, vi 1, vi 1, vi v21, vi v27, vi v33, vi v43, vr bb53, vr b58, .val (.long (0 : Int64)), .second, .unset, .unset] [(.long p5), (.double v112), (.ref bb53), (.ref b58)]))
      obtain ⟨w115, hw115⟩ : ∃ z, FP.dadd FP.dconst0 v112 = z := ⟨_, rfl⟩
      have dw115 : DS 2 (0 + v21.toInt) w115 := hw115 ▸ DS.add (DS.zero 2) d112 (by omega) (by decide)
      obtain ⟨_, T115, Lc115, X115, hQ115, st115⟩ := own_cv X90 hx hZ hown (rmVt l Z a0 hw [] b58 bb53 v112 p5 hm (0 : Int64) (1 : Int64) FP.dconst0 w115 T90.heap n0 Z90 gn_b58 V90 U90 nehm rfl hw115 (hw115 ▸ dw115.nn)) (tw hw 55 rfl) (tw hw 56 rfl) (tw hw 58 rfl) (tw hw 57 rfl) (tw hw 29 rfl) (tw hw 59 rfl) rfl V90.1 (g := (mkF m 115 #[vi p0, vi p1, vi p2, vi p3, vi p4, .val (.long p5), .second, vi 1, vi 1, vi v21, vi v27, vi v33, vi v43, vr bb53, vr b58, .val (.long (0 : Int64)), .second, .unset, .unset] [(.long p5), (.double v112), (.ref bb53), (.ref b58)])) (hb hby at_115) (W := 0) (argsL := [(.ref bb53), (.double v112), (.long p5)]) (rest := []) (lenOf pd10 rfl) rfl (by rw [hml]; rfl) rfl rfl (Nat.le_of_eq rfl) (by decide) (by decide) (by decide) (by decide) (by decide)
      obtain ⟨rfl, Nq115, K115, V115⟩ := hQ115
      have N115 := Fr.app N90 Nq115
      refine Dn.tr st115 ?_
      have Z115 : n0 ≤ T115.heap.size := Nat.le_trans Z90 K115.1
      have U115 : own_HM Z T115.heap hm := ⟨U90.1.keep K115, U90.2.1.keep K115 (ninS nehm nin0), U90.2.2.keep K115 (ninS nehm nin0)⟩
      refine Dn.st (fun _ kk => XS.lload X115.here hx rfl (hb hby at_118) rfl (XS.iload X115.here hx rfl (hb hby at_120) rfl (XS.i2l X115.here hx rfl (hb hby at_122) rfl (kk)))) ?_
      show Dn p e below s _ _ _ (T115.setTop (mkF m 123 #[vi p0, vi p1, vi p2, vi p3, vi p4, .val (.long p5), .second, vi 1, vi 1, vi v21, vi v27, vi v33, vi v43, vr bb53, vr b58, .val (.long (0 : Int64)), .second, .unset, .unset] [(.long (v21.toInt64)), (.long (0 : Int64))]))
      generalize hv122 : ((v21.toInt64) : Int64) = v122
      have q122 : v122.toInt = v21.toInt := by have qq := c_i2l v21; rw [hv122] at qq; exact qq
      have r122 := rng64 v122
      refine Dn.st (fun _ kk => XS.ladd X115.here hx rfl (hb hby at_123) rfl (kk)) ?_
      show Dn p e below s _ _ _ (T115.setTop (mkF m 124 #[vi p0, vi p1, vi p2, vi p3, vi p4, .val (.long p5), .second, vi 1, vi 1, vi v21, vi v27, vi v33, vi v43, vr bb53, vr b58, .val (.long (0 : Int64)), .second, .unset, .unset] [(.long ((0 : Int64) + v122))]))
      generalize hv123 : (((0 : Int64) + v122) : Int64) = v123
      have q123 : (v123.toInt - (0 + v122.toInt)) % 18446744073709551616 = 0 := by have qq := c_ladd (0 : Int64) v122; rw [hv123] at qq; exact qq
      have r123 := rng64 v123
      refine Dn.st (fun _ kk => XS.lstore X115.here hx rfl (hb hby at_124) rfl (l' := #[vi p0, vi p1, vi p2, vi p3, vi p4, .val (.long p5), .second, vi 1, vi 1, vi v21, vi v27, vi v33, vi v43, vr bb53, vr b58, .val (.long v123), .second, .unset, .unset]) rfl (XS.iload X115.here hx rfl (hb hby at_126) rfl (XS.iconst X115.here hx rfl (hb hby at_128) (kk)))) ?_
      show Dn p e below s _ _ _ (T115.setTop (mkF m 129 #[vi p0, vi p1, vi p2, vi p3, vi p4, .val (.long p5), .second, vi 1, vi 1, vi v21, vi v27, vi v33, vi v43, vr bb53, vr b58, .val (.long v123), .second, .unset, .unset] [(.int 2), (.int 1)]))
      have hc129 : (1 : Int32) < (2 : Int32) := by decide
      refine Dn.st (fun _ kk => XS.icmpYes X115.here hx rfl (pc0 := 129) (pc' := 156) rfl (hb hby at_129) rfl (tlt hc129).1 (by decide) (by decide) (XS.iload X115.here hx rfl (hb hby at_156) rfl (XS.iconst X115.here hx rfl (hb hby at_158) (kk)))) ?_
      show Dn p e below s _ _ _ (T115.setTop (mkF m 159 #[vi p0, vi p1, vi p2, vi p3, vi p4, .val (.long p5), .second, vi 1, vi 1, vi v21, vi v27, vi v33, vi v43, vr bb53, vr b58, .val (.long v123), .second, .unset, .unset] [(.int 3), (.int 1)]))
      have hc159 : (1 : Int32) < (3 : Int32) := by decide
      refine Dn.st (fun _ kk => XS.icmpYes X115.here hx rfl (pc0 := 159) (pc' := 186) rfl (hb hby at_159) rfl (tlt hc159).1 (by decide) (by decide) (XS.iload X115.here hx rfl (hb hby at_186) rfl (kk))) ?_
      show Dn p e below s _ _ _ (T115.setTop (mkF m 188 #[vi p0, vi p1, vi p2, vi p3, vi p4, .val (.long p5), .second, vi 1, vi 1, vi v21, vi v27, vi v33, vi v43, vr bb53, vr b58, .val (.long v123), .second, .unset, .unset] [(.int 1)]))
      have hc188 : ¬ ((1 : Int32) = (0 : Int32)) := by decide
      refine Dn.st (fun _ kk => XS.ifYes X115.here hx rfl (pc0 := 188) (pc' := 195) rfl (hb hby at_188) rfl ((if0 _ _).trans (feq hc188).2) (by decide) (by decide) (XS.lload X115.here hx rfl (hb hby at_195) rfl (kk))) ?_
      show Dn p e below s _ _ _ (T115.setTop (mkF m 197 #[vi p0, vi p1, vi p2, vi p3, vi p4, .val (.long p5), .second, vi 1, vi 1, vi v21, vi v27, vi v33, vi v43, vr bb53, vr b58, .val (.long v123), .second, .unset, .unset] [(.long v123)]))
      have d197 := DS.l2d (v := v123) (by omega)
      refine Dn.st (fun _ kk => XS.l2dS X115.here hx rfl (hb hby at_197) rfl rfl (kk)) ?_
      show Dn p e below s _ _ _ (T115.setTop (mkF m 198 #[vi p0, vi p1, vi p2, vi p3, vi p4, .val (.long p5), .second, vi 1, vi 1, vi v21, vi v27, vi v33, vi v43, vr bb53, vr b58, .val (.long v123), .second, .unset, .unset] [(.double (FP.l2d v123))]))
      generalize hv197 : ((FP.l2d v123) : UInt64) = v197 at d197 ⊢
      refine Dn.st (fun _ kk => X115.ldc2DoubleC hx hown (mvT hZ (tw hw 54 rfl)) (g := (mkF m 198 #[vi p0, vi p1, vi p2, vi p3, vi p4, .val (.long p5), .second, vi 1, vi 1, vi v21, vi v27, vi v33, vi v43, vr bb53, vr b58, .val (.long v123), .second, .unset, .unset] [(.double v197)])) rfl (hb hby at_198) _ (kk)) ?_
      show Dn p e below s _ _ _ (T115.setTop (mkF m 201 #[vi p0, vi p1, vi p2, vi p3, vi p4, .val (.long p5), .second, vi 1, vi 1, vi v21, vi v27, vi v33, vi v43, vr bb53, vr b58, .val (.long v123), .second, .unset, .unset] [(.double (4616189618054758400 : UInt64)), (.double v197)]))
      have d201 : DS 2 v123.toInt (FP.ddiv v197 (4616189618054758400 : UInt64)) := DS.divp (t := 2) d197 dc_4616189618054758400 (by first | omega | decide) (by decide)
      refine Dn.st (fun _ kk => XS.ddivS X115.here hx rfl (hb hby at_201) rfl d201.nn rfl (kk)) ?_
      show Dn p e below s _ _ _ (T115.setTop (mkF m 202 #[vi p0, vi p1, vi p2, vi p3, vi p4, .val (.long p5), .second, vi 1, vi 1, vi v21, vi v27, vi v33, vi v43, vr bb53, vr b58, .val (.long v123), .second, .unset, .unset] [(.double (FP.ddiv v197 (4616189618054758400 : UInt64)))]))
      generalize hv201 : ((FP.ddiv v197 (4616189618054758400 : UInt64)) : UInt64) = v201 at d201 ⊢
      refine Dn.st (fun _ kk => XS.iload X115.here hx rfl (hb hby at_202) rfl (kk)) ?_
      show Dn p e below s _ _ _ (T115.setTop (mkF m 204 #[vi p0, vi p1, vi p2, vi p3, vi p4, .val (.long p5), .second, vi 1, vi 1, vi v21, vi v27, vi v33, vi v43, vr bb53, vr b58, .val (.long v123), .second, .unset, .unset] [(.int 1), (.double v201)]))
      have d204 := DS.i2d (1 : Int32)
      refine Dn.st (fun _ kk => XS.i2dS X115.here hx rfl (hb hby at_204) rfl rfl (kk)) ?_
      show Dn p e below s _ _ _ (T115.setTop (mkF m 205 #[vi p0, vi p1, vi p2, vi p3, vi p4, .val (.long p5), .second, vi 1, vi 1, vi v21, vi v27, vi v33, vi v43, vr bb53, vr b58, .val (.long v123), .second, .unset, .unset] [(.double (FP.i2d (1 : Int32))), (.double v201)]))
      generalize hv204 : ((FP.i2d (1 : Int32)) : UInt64) = v204 at d204 ⊢
      refine Dn.st (fun _ kk => XS.ddivS X115.here hx rfl (hb hby at_205) rfl (own_dq d201 (DS.cast d204 rfl (rfl : _ = (1 : Int))) (by decide) (by omega) (by omega)).nn rfl (kk)) ?_
      show Dn p e below s _ _ _ (T115.setTop (mkF m 206 #[vi p0, vi p1, vi p2, vi p3, vi p4, .val (.long p5), .second, vi 1, vi 1, vi v21, vi v27, vi v33, vi v43, vr bb53, vr b58, .val (.long v123), .second, .unset, .unset] [(.double (FP.ddiv v201 v204))]))
      generalize hv205 : ((FP.ddiv v201 v204) : UInt64) = v205
      refine Dn.st (fun _ kk => XS.dstore X115.here hx rfl (hb hby at_206) rfl (l' := #[vi p0, vi p1, vi p2, vi p3, vi p4, .val (.long p5), .second, vi 1, vi 1, vi v21, vi v27, vi v33, vi v43, vr bb53, vr b58, .val (.long v123), .second, .val (.double v205), .second]) rfl (XS.aload X115.here hx rfl (hb hby at_208) rfl rfl (kk))) ?_
      show Dn p e below s _ _ _ (T115.setTop (mkF m 210 #[vi p0, vi p1, vi p2, vi p3, vi p4, .val (.long p5), .second, vi 1, vi 1, vi v21, vi v27, vi v33, vi v43, vr bb53, vr b58, .val (.long v123), .second, .val (.double v205), .second] [(.ref b58)]))
      obtain ⟨_, T210, Lc210, X210, hQ210, st210⟩ := own_cv X115 hx hZ hown (rmG1 l Z a0 hw [] b58 hm (1 : Int64) w115 T115.heap n0 Z115 V115 (by decide) (own_dq dw115 (DS.cast (DS.l2d (v := (1 : Int64)) (by decide)) rfl (rfl : _ = (1 : Int))) (by decide) (by omega) (by omega)).nn) (tw hw 85 rfl) (tw hw 86 rfl) (tw hw 88 rfl) (tw hw 87 rfl) (tw hw 29 rfl) (tw hw 89 rfl) rfl V115.1 (g := (mkF m 210 #[vi p0, vi p1, vi p2, vi p3, vi p4, .val (.long p5), .second, vi 1, vi 1, vi v21, vi v27, vi v33, vi v43, vr bb53, vr b58, .val (.long v123), .second, .val (.double v205), .second] [(.ref b58)])) (hb hby at_210) (W := 0) (argsL := []) (rest := []) (lenOf pd8 rfl) rfl (by rw [hml]; rfl) rfl rfl (Nat.le_of_eq rfl) (by decide) (by decide) (by decide) (by decide) (by decide)
      obtain ⟨rfl, Nq210, hh210⟩ := hQ210
      have N210 := Fr.app N115 Nq210
      refine Dn.tr st210 ?_
      refine Dn.st (fun _ kk => XS.dload X210.here hx rfl (hb hby at_213) rfl (XS.dcmpS X210.here hx rfl (hb hby at_215) rfl (show cmpValue (FP.dcmp (FP.ddiv w115 (FP.l2d (1 : Int64))) v205) .l = (0 : Int32) from (by rw [← hv205]; exact own_eqdiv dw115 (DS.cast (DS.l2d (v := (1 : Int64)) (by decide)) rfl (rfl : _ = (1 : Int))) (DS.cast d201 rfl (by omega)) (DS.cast d204 rfl (rfl : _ = (1 : Int))) (by decide) (by omega) (by omega) _)) (kk))) ?_
      show Dn p e below s _ _ _ (T210.setTop (mkF m 216 #[vi p0, vi p1, vi p2, vi p3, vi p4, .val (.long p5), .second, vi 1, vi 1, vi v21, vi v27, vi v33, vi v43, vr bb53, vr b58, .val (.long v123), .second, .val (.double v205), .second] [(.int 0)]))
      have hc216 : (0 : Int32) = (0 : Int32) := by decide
      refine Dn.st (fun _ kk => XS.ifNo X210.here hx rfl (hb hby at_216) rfl ((if0 _ _).trans (teq hc216).2) (XS.aload X210.here hx rfl (hb hby at_219) rfl rfl (kk))) ?_
      show Dn p e below s _ _ _ (T210.setTop (mkF m 221 #[vi p0, vi p1, vi p2, vi p3, vi p4, .val (.long p5), .second, vi 1, vi 1, vi v21, vi v27, vi v33, vi v43, vr bb53, vr b58, .val (.long v123), .second, .val (.double v205), .second] [(.ref b58)]))
      obtain ⟨_, T221, Lc221, X221, hQ221, st221⟩ := own_cv X210 hx hZ hown (rmGv l Z a0 hw [] b58 hm (1 : Int64) w115 T115.heap n0 Z115 V115) (tw hw 90 rfl) (tw hw 91 rfl) (tw hw 93 rfl) (tw hw 92 rfl) (tw hw 29 rfl) (tw hw 94 rfl) hh210 V115.1 (g := (mkF m 221 #[vi p0, vi p1, vi p2, vi p3, vi p4, .val (.long p5), .second, vi 1, vi 1, vi v21, vi v27, vi v33, vi v43, vr bb53, vr b58, .val (.long v123), .second, .val (.double v205), .second] [(.ref b58)])) (hb hby at_221) (W := 0) (argsL := []) (rest := []) (lenOf pd9 rfl) rfl (by rw [hml]; rfl) rfl rfl (Nat.le_of_eq rfl) (by decide) (by decide) (by decide) (by decide) (by decide)
      obtain ⟨rfl, Nq221, hh221⟩ := hQ221
      have N221 := Fr.app N210 Nq221
      refine Dn.tr st221 ?_
      refine Dn.st (fun _ kk => XS.iload X221.here hx rfl (hb hby at_224) rfl (XS.i2l X221.here hx rfl (hb hby at_226) rfl (XS.lcmp X221.here hx rfl (hb hby at_227) rfl (kk)))) ?_
      show Dn p e below s _ _ _ (T221.setTop (mkF m 228 #[vi p0, vi p1, vi p2, vi p3, vi p4, .val (.long p5), .second, vi 1, vi 1, vi v21, vi v27, vi v33, vi v43, vr bb53, vr b58, .val (.long v123), .second, .val (.double v205), .second] [(.int 0)]))
      have hc228 : (0 : Int32) = (0 : Int32) := by decide
      refine Dn.st (fun _ kk => XS.ifNo X221.here hx rfl (hb hby at_228) rfl ((if0 _ _).trans (teq hc228).2) (XS.iconst X221.here hx rfl (hb hby at_231) (XS.goto X221.here hx rfl (pc0 := 232) (pc' := 236) rfl (hb hby at_232) (by decide) (by decide) (kk)))) ?_
      show Dn p e below s _ _ _ (T221.setTop (mkF m 236 #[vi p0, vi p1, vi p2, vi p3, vi p4, .val (.long p5), .second, vi 1, vi 1, vi v21, vi v27, vi v33, vi v43, vr bb53, vr b58, .val (.long v123), .second, .val (.double v205), .second] [(.int 1)]))
      exact Dn.ret X221 hlk hx hret rfl (Or.inl ⟨rfl, Or.inr (Or.inl rfl), _, rfl⟩) (hb hby at_236) (by rw [hh221]; exact ⟨rfl, N221⟩) (by decide) (by decide)
    · subst hk67
      refine Dn.st (fun _ kk => XS.iload X62.here hx rfl (hb hby at_67) rfl (kk)) ?_
      show Dn p e below s _ _ _ (T62.setTop (mkF m 69 #[vi p0, vi p1, vi p2, vi p3, vi p4, .val (.long p5), .second, vi 2, vi 1, vi v21, vi v27, vi v33, vi v43, vr bb53, vr b58, .unset, .unset, .unset, .unset] [(.int 1)]))
      have hc69 : ¬ ((1 : Int32) = (0 : Int32)) := by decide
      refine Dn.st (fun _ kk => XS.ifNo X62.here hx rfl (hb hby at_69) rfl ((if0 _ _).trans (feq hc69).1) (XS.aload X62.here hx rfl (hb hby at_72) rfl rfl (XS.aload X62.here hx rfl (hb hby at_74) rfl rfl (XS.iload X62.here hx rfl (hb hby at_76) rfl (kk))))) ?_
      show Dn p e below s _ _ _ (T62.setTop (mkF m 78 #[vi p0, vi p1, vi p2, vi p3, vi p4, .val (.long p5), .second, vi 2, vi 1, vi v21, vi v27, vi v33, vi v43, vr bb53, vr b58, .unset, .unset, .unset, .unset] [(.int v43), (.ref bb53), (.ref b58)]))
      have d78 := DS.i2d v43
      refine Dn.st (fun _ kk => XS.i2dS X62.here hx rfl (hb hby at_78) rfl rfl (kk)) ?_
      show Dn p e below s _ _ _ (T62.setTop (mkF m 79 #[vi p0, vi p1, vi p2, vi p3, vi p4, .val (.long p5), .second, vi 2, vi 1, vi v21, vi v27, vi v33, vi v43, vr bb53, vr b58, .unset, .unset, .unset, .unset] [(.double (FP.i2d v43)), (.ref bb53), (.ref b58)]))
      generalize hv78 : ((FP.i2d v43) : UInt64) = v78 at d78 ⊢
      refine Dn.st (fun _ kk => X62.ldc2DoubleC hx hown (mvT hZ (tw hw 54 rfl)) (g := (mkF m 79 #[vi p0, vi p1, vi p2, vi p3, vi p4, .val (.long p5), .second, vi 2, vi 1, vi v21, vi v27, vi v33, vi v43, vr bb53, vr b58, .unset, .unset, .unset, .unset] [(.double v78), (.ref bb53), (.ref b58)])) rfl (hb hby at_79) _ (kk)) ?_
      show Dn p e below s _ _ _ (T62.setTop (mkF m 82 #[vi p0, vi p1, vi p2, vi p3, vi p4, .val (.long p5), .second, vi 2, vi 1, vi v21, vi v27, vi v33, vi v43, vr bb53, vr b58, .unset, .unset, .unset, .unset] [(.double (4616189618054758400 : UInt64)), (.double v78), (.ref bb53), (.ref b58)]))
      have d82 : DS 2 v43.toInt (FP.ddiv v78 (4616189618054758400 : UInt64)) := DS.divp (t := 2) d78 dc_4616189618054758400 (by first | omega | decide) (by decide)
      refine Dn.st (fun _ kk => XS.ddivS X62.here hx rfl (hb hby at_82) rfl d82.nn rfl (kk)) ?_
      show Dn p e below s _ _ _ (T62.setTop (mkF m 83 #[vi p0, vi p1, vi p2, vi p3, vi p4, .val (.long p5), .second, vi 2, vi 1, vi v21, vi v27, vi v33, vi v43, vr bb53, vr b58, .unset, .unset, .unset, .unset] [(.double (FP.ddiv v78 (4616189618054758400 : UInt64))), (.ref bb53), (.ref b58)]))
      generalize hv82 : ((FP.ddiv v78 (4616189618054758400 : UInt64)) : UInt64) = v82 at d82 ⊢
      refine Dn.st (fun _ kk => XS.lload X62.here hx rfl (hb hby at_83) rfl (kk)) ?_
      show Dn p e below s _ _ _ (T62.setTop (mkF m 85 #[vi p0, vi p1, vi p2, vi p3, vi p4, .val (.long p5), .second, vi 2, vi 1, vi v21, vi v27, vi v33, vi v43, vr bb53, vr b58, .unset, .unset, .unset, .unset] [(.long p5), (.double v82), (.ref bb53), (.ref b58)]))
      obtain ⟨w85, hw85⟩ : ∃ z, FP.dadd (0 : UInt64) v82 = z := ⟨_, rfl⟩
      have dw85 : DS 2 (0 + v43.toInt) w85 := hw85 ▸ DS.add (DS.zero 2) d82 (by omega) (by decide)
      obtain ⟨_, T85, Lc85, X85, hQ85, st85⟩ := own_cv X62 hx hZ hown (rmVt l Z a0 hw [] b58 bb53 v82 p5 hm (0 : Int64) (1 : Int64) (0 : UInt64) w85 T62.heap n0 Z62 gn_b58 V62 U62 nehm rfl hw85 (hw85 ▸ dw85.nn)) (tw hw 55 rfl) (tw hw 56 rfl) (tw hw 58 rfl) (tw hw 57 rfl) (tw hw 29 rfl) (tw hw 59 rfl) rfl V62.1 (g := (mkF m 85 #[vi p0, vi p1, vi p2, vi p3, vi p4, .val (.long p5), .second, vi 2, vi 1, vi v21, vi v27, vi v33, vi v43, vr bb53, vr b58, .unset, .unset, .unset, .unset] [(.long p5), (.double v82), (.ref bb53), (.ref b58)])) (hb hby at_85) (W := 0) (argsL := [(.ref bb53), (.double v82), (.long p5)]) (rest := []) (lenOf pd10 rfl) rfl (by rw [hml]; rfl) rfl rfl (Nat.le_of_eq rfl) (by decide) (by decide) (by decide) (by decide) (by decide)
      obtain ⟨rfl, Nq85, K85, V85⟩ := hQ85
      have N85 := Fr.app N62 Nq85
      refine Dn.tr st85 ?_
      have Z85 : n0 ≤ T85.heap.size := Nat.le_trans Z62 K85.1
      have U85 : own_HM Z T85.heap hm := ⟨U62.1.keep K85, U62.2.1.keep K85 (ninS nehm nin0), U62.2.2.keep K85 (ninS nehm nin0)⟩
      refine Dn.st (fun _ kk => XS.aload X85.here hx rfl (hb hby at_88) rfl rfl (kk)) ?_
      show Dn p e below s _ _ _ (T85.setTop (mkF m 90 #[vi p0, vi p1, vi p2, vi p3, vi p4, .val (.long p5), .second, vi 2, vi 1, vi v21, vi v27, vi v33, vi v43, vr bb53, vr b58, .unset, .unset, .unset, .unset] [(.ref b58)]))
      obtain ⟨_, T90, Lc90, X90, hQ90, st90⟩ := own_cv X85 hx hZ hown (rmRs l Z a0 hw [] b58 hm (1 : Int64) w85 T85.heap n0 Z85 gn_b58 V85 U85 nehm) (tw hw 95 rfl) (tw hw 96 rfl) (tw hw 98 rfl) (tw hw 97 rfl) (tw hw 29 rfl) (tw hw 99 rfl) rfl V85.1 (g := (mkF m 90 #[vi p0, vi p1, vi p2, vi p3, vi p4, .val (.long p5), .second, vi 2, vi 1, vi v21, vi v27, vi v33, vi v43, vr bb53, vr b58, .unset, .unset, .unset, .unset] [(.ref b58)])) (hb hby at_90) (W := 0) (argsL := []) (rest := []) (lenOf pd3 rfl) rfl (by rw [hml]; rfl) rfl rfl (Nat.le_of_eq rfl) (by decide) (by decide) (by decide) (by decide) (by decide)
      obtain ⟨rfl, Nq90, K90, V90⟩ := hQ90
      have N90 := Fr.app N85 Nq90
      refine Dn.tr st90 ?_
      have Z90 : n0 ≤ T90.heap.size := Nat.le_trans Z85 K90.1
      have U90 : own_HM Z T90.heap hm := ⟨U85.1.keep K90, U85.2.1.keep K90 (ninS nehm nin0), U85.2.2.keep K90 (ninS nehm nin0)⟩
      refine Dn.st (fun _ kk => XS.lconst X90.here hx rfl (hb hby at_93) (XS.lstore X90.here hx rfl (hb hby at_94) rfl (l' := #[vi p0, vi p1, vi p2, vi p3, vi p4, .val (.long p5), .second, vi 2, vi 1, vi v21, vi v27, vi v33, vi v43, vr bb53, vr b58, .val (.long (0 : Int64)), .second, .unset, .unset]) rfl (XS.iload X90.here hx rfl (hb hby at_96) rfl (XS.iconst X90.here hx rfl (hb hby at_98) (kk))))) ?_
      show Dn p e below s _ _ _ (T90.setTop (mkF m 99 #[vi p0, vi p1, vi p2, vi p3, vi p4, .val (.long p5), .second, vi 2, vi 1, vi v21, vi v27, vi v33, vi v43, vr bb53, vr b58, .val (.long (0 : Int64)), .second, .unset, .unset] [(.int 1), (.int 2)]))
      have hc99 : ¬ ((2 : Int32) < (1 : Int32)) := by decide
      refine Dn.st (fun _ kk => XS.icmpNo X90.here hx rfl (hb hby at_99) rfl (flt hc99).1 (XS.aload X90.here hx rfl (hb hby at_102) rfl rfl (XS.aload X90.here hx rfl (hb hby at_104) rfl rfl (XS.iload X90.here hx rfl (hb hby at_106) rfl (kk))))) ?_
      show Dn p e below s _ _ _ (T90.setTop (mkF m 108 #[vi p0, vi p1, vi p2, vi p3, vi p4, .val (.long p5), .second, vi 2, vi 1, vi v21, vi v27, vi v33, vi v43, vr bb53, vr b58, .val (.long (0 : Int64)), .second, .unset, .unset] [(.int v21), (.ref bb53), (.ref b58)]))
      have d108 := DS.i2d v21
      refine Dn.st (fun _ kk => XS.i2dS X90.here hx rfl (hb hby at_108) rfl rfl (kk)) ?_
      show Dn p e below s _ _ _ (T90.setTop (mkF m 109 #[vi p0, vi p1, vi p2, vi p3, vi p4, .val (.long p5), .second, vi 2, vi 1, vi v21, vi v27, vi v33, vi v43, vr bb53, vr b58, .val (.long (0 : Int64)), .second, .unset, .unset] [(.double (FP.i2d v21)), (.ref bb53), (.ref b58)]))
      generalize hv108 : ((FP.i2d v21) : UInt64) = v108 at d108 ⊢
      refine Dn.st (fun _ kk => X90.ldc2DoubleC hx hown (mvT hZ (tw hw 54 rfl)) (g := (mkF m 109 #[vi p0, vi p1, vi p2, vi p3, vi p4, .val (.long p5), .second, vi 2, vi 1, vi v21, vi v27, vi v33, vi v43, vr bb53, vr b58, .val (.long (0 : Int64)), .second, .unset, .unset] [(.double v108), (.ref bb53), (.ref b58)])) rfl (hb hby at_109) _ (kk)) ?_
      show Dn p e below s _ _ _ (T90.setTop (mkF m 112 #[vi p0, vi p1, vi p2, vi p3, vi p4, .val (.long p5), .second, vi 2, vi 1, vi v21, vi v27, vi v33, vi v43, vr bb53, vr b58, .val (.long (0 : Int64)), .second, .unset, .unset] [(.double (4616189618054758400 : UInt64)), (.double v108), (.ref bb53), (.ref b58)]))
      have d112 : DS 2 v21.toInt (FP.ddiv v108 (4616189618054758400 : UInt64)) := DS.divp (t := 2) d108 dc_4616189618054758400 (by first | omega | decide) (by decide)
      refine Dn.st (fun _ kk => XS.ddivS X90.here hx rfl (hb hby at_112) rfl d112.nn rfl (kk)) ?_
      show Dn p e below s _ _ _ (T90.setTop (mkF m 113 #[vi p0, vi p1, vi p2, vi p3, vi p4, .val (.long p5), .second, vi 2, vi 1, vi v21, vi v27, vi v33, vi v43, vr bb53, vr b58, .val (.long (0 : Int64)), .second, .unset, .unset] [(.double (FP.ddiv v108 (4616189618054758400 : UInt64))), (.ref bb53), (.ref b58)]))
      generalize hv112 : ((FP.ddiv v108 (4616189618054758400 : UInt64)) : UInt64) = v112 at d112 ⊢
      refine Dn.st (fun _ kk => XS.lload X90.here hx rfl (hb hby at_113) rfl (kk)) ?_
      show Dn p e below s _ _ _ (T90.setTop (mkF m 115 #[vi p0, vi p1, vi p2, vi p3, vi p4, .val (.long p5), .second, vi 2, vi 1, vi v21, vi v27, vi v33, vi v43, vr bb53, vr b58, .val (.long (0 : Int64)), .second, .unset, .unset] [(.long p5), (.double v112), (.ref bb53), (.ref b58)]))
      obtain ⟨w115, hw115⟩ : ∃ z, FP.dadd FP.dconst0 v112 = z := ⟨_, rfl⟩
      have dw115 : DS 2 (0 + v21.toInt) w115 := hw115 ▸ DS.add (DS.zero 2) d112 (by omega) (by decide)
      obtain ⟨_, T115, Lc115, X115, hQ115, st115⟩ := own_cv X90 hx hZ hown (rmVt l Z a0 hw [] b58 bb53 v112 p5 hm (0 : Int64) (1 : Int64) FP.dconst0 w115 T90.heap n0 Z90 gn_b58 V90 U90 nehm rfl hw115 (hw115 ▸ dw115.nn)) (tw hw 55 rfl) (tw hw 56 rfl) (tw hw 58 rfl) (tw hw 57 rfl) (tw hw 29 rfl) (tw hw 59 rfl) rfl V90.1 (g := (mkF m 115 #[vi p0, vi p1, vi p2, vi p3, vi p4, .val (.long p5), .second, vi 2, vi 1, vi v21, vi v27, vi v33, vi v43, vr bb53, vr b58, .val (.long (0 : Int64)), .second, .unset, .unset] [(.long p5), (.double v112), (.ref bb53), (.ref b58)])) (hb hby at_115) (W := 0) (argsL := [(.ref bb53), (.double v112), (.long p5)]) (rest := []) (lenOf pd10 rfl) rfl (by rw [hml]; rfl) rfl rfl (Nat.le_of_eq rfl) (by decide) (by decide) (by decide) (by decide) (by decide)
      obtain ⟨rfl, Nq115, K115, V115⟩ := hQ115
      have N115 := Fr.app N90 Nq115
      refine Dn.tr st115 ?_
      have Z115 : n0 ≤ T115.heap.size := Nat.le_trans Z90 K115.1
      have U115 : own_HM Z T115.heap hm := ⟨U90.1.keep K115, U90.2.1.keep K115 (ninS nehm nin0), U90.2.2.keep K115 (ninS nehm nin0)⟩
      refine Dn.st (fun _ kk => XS.lload X115.here hx rfl (hb hby at_118) rfl (XS.iload X115.here hx rfl (hb hby at_120) rfl (XS.i2l X115.here hx rfl (hb hby at_122) rfl (kk)))) ?_
      show Dn p e below s _ _ _ (T115.setTop (mkF m 123 #[vi p0, vi p1, vi p2, vi p3, vi p4, .val (.long p5), .second, vi 2, vi 1, vi v21, vi v27, vi v33, vi v43, vr bb53, vr b58, .val (.long (0 : Int64)), .second, .unset, .unset] [(.long (v21.toInt64)), (.long (0 : Int64))]))
      generalize hv122 : ((v21.toInt64) : Int64) = v122
      have q122 : v122.toInt = v21.toInt := by have qq := c_i2l v21; rw [hv122] at qq; exact qq
      have r122 := rng64 v122
      refine Dn.st (fun _ kk => XS.ladd X115.here hx rfl (hb hby at_123) rfl (kk)) ?_
      show Dn p e below s _ _ _ (T115.setTop (mkF m 124 #[vi p0, vi p1, vi p2, vi p3, vi p4, .val (.long p5), .second, vi 2, vi 1, vi v21, vi v27, vi v33, vi v43, vr bb53, vr b58, .val (.long (0 : Int64)), .second, .unset, .unset] [(.long ((0 : Int64) + v122))]))
      generalize hv123 : (((0 : Int64) + v122) : Int64) = v123
      have q123 : (v123.toInt - (0 + v122.toInt)) % 18446744073709551616 = 0 := by have qq := c_ladd (0 : Int64) v122; rw [hv123] at qq; exact qq
      have r123 := rng64 v123
      refine Dn.st (fun _ kk => XS.lstore X115.here hx rfl (hb hby at_124) rfl (l' := #[vi p0, vi p1, vi p2, vi p3, vi p4, .val (.long p5), .second, vi 2, vi 1, vi v21, vi v27, vi v33, vi v43, vr bb53, vr b58, .val (.long v123), .second, .unset, .unset]) rfl (XS.iload X115.here hx rfl (hb hby at_126) rfl (XS.iconst X115.here hx rfl (hb hby at_128) (kk)))) ?_
      show Dn p e below s _ _ _ (T115.setTop (mkF m 129 #[vi p0, vi p1, vi p2, vi p3, vi p4, .val (.long p5), .second, vi 2, vi 1, vi v21, vi v27, vi v33, vi v43, vr bb53, vr b58, .val (.long v123), .second, .unset, .unset] [(.int 2), (.int 2)]))
      have hc129 : ¬ ((2 : Int32) < (2 : Int32)) := by decide
      refine Dn.st (fun _ kk => XS.icmpNo X115.here hx rfl (hb hby at_129) rfl (flt hc129).1 (XS.aload X115.here hx rfl (hb hby at_132) rfl rfl (XS.aload X115.here hx rfl (hb hby at_134) rfl rfl (XS.iload X115.here hx rfl (hb hby at_136) rfl (kk))))) ?_
      show Dn p e below s _ _ _ (T115.setTop (mkF m 138 #[vi p0, vi p1, vi p2, vi p3, vi p4, .val (.long p5), .second, vi 2, vi 1, vi v21, vi v27, vi v33, vi v43, vr bb53, vr b58, .val (.long v123), .second, .unset, .unset] [(.int v27), (.ref bb53), (.ref b58)]))
      have d138 := DS.i2d v27
      refine Dn.st (fun _ kk => XS.i2dS X115.here hx rfl (hb hby at_138) rfl rfl (kk)) ?_
      show Dn p e below s _ _ _ (T115.setTop (mkF m 139 #[vi p0, vi p1, vi p2, vi p3, vi p4, .val (.long p5), .second, vi 2, vi 1, vi v21, vi v27, vi v33, vi v43, vr bb53, vr b58, .val (.long v123), .second, .unset, .unset] [(.double (FP.i2d v27)), (.ref bb53), (.ref b58)]))
      generalize hv138 : ((FP.i2d v27) : UInt64) = v138 at d138 ⊢
      refine Dn.st (fun _ kk => X115.ldc2DoubleC hx hown (mvT hZ (tw hw 54 rfl)) (g := (mkF m 139 #[vi p0, vi p1, vi p2, vi p3, vi p4, .val (.long p5), .second, vi 2, vi 1, vi v21, vi v27, vi v33, vi v43, vr bb53, vr b58, .val (.long v123), .second, .unset, .unset] [(.double v138), (.ref bb53), (.ref b58)])) rfl (hb hby at_139) _ (kk)) ?_
      show Dn p e below s _ _ _ (T115.setTop (mkF m 142 #[vi p0, vi p1, vi p2, vi p3, vi p4, .val (.long p5), .second, vi 2, vi 1, vi v21, vi v27, vi v33, vi v43, vr bb53, vr b58, .val (.long v123), .second, .unset, .unset] [(.double (4616189618054758400 : UInt64)), (.double v138), (.ref bb53), (.ref b58)]))
      have d142 : DS 2 v27.toInt (FP.ddiv v138 (4616189618054758400 : UInt64)) := DS.divp (t := 2) d138 dc_4616189618054758400 (by first | omega | decide) (by decide)
      refine Dn.st (fun _ kk => XS.ddivS X115.here hx rfl (hb hby at_142) rfl d142.nn rfl (kk)) ?_
      show Dn p e below s _ _ _ (T115.setTop (mkF m 143 #[vi p0, vi p1, vi p2, vi p3, vi p4, .val (.long p5), .second, vi 2, vi 1, vi v21, vi v27, vi v33, vi v43, vr bb53, vr b58, .val (.long v123), .second, .unset, .unset] [(.double (FP.ddiv v138 (4616189618054758400 : UInt64))), (.ref bb53), (.ref b58)]))
      generalize hv142 : ((FP.ddiv v138 (4616189618054758400 : UInt64)) : UInt64) = v142 at d142 ⊢
      refine Dn.st (fun _ kk => XS.lload X115.here hx rfl (hb hby at_143) rfl (kk)) ?_
      show Dn p e below s _ _ _ (T115.setTop (mkF m 145 #[vi p0, vi p1, vi p2, vi p3, vi p4, .val (.long p5), .second, vi 2, vi 1, vi v21, vi v27, vi v33, vi v43, vr bb53, vr b58, .val (.long v123), .second, .unset, .unset] [(.long p5), (.double v142), (.ref bb53), (.ref b58)]))
      obtain ⟨w145, hw145⟩ : ∃ z, FP.dadd w115 v142 = z := ⟨_, rfl⟩
      have dw145 : DS 2 ((0 + v21.toInt) + v27.toInt) w145 := hw145 ▸ DS.add dw115 d142 (by omega) (by decide)
      obtain ⟨_, T145, Lc145, X145, hQ145, st145⟩ := own_cv X115 hx hZ hown (rmVt l Z a0 hw [] b58 bb53 v142 p5 hm (1 : Int64) (2 : Int64) w115 w145 T115.heap n0 Z115 gn_b58 V115 U115 nehm rfl hw145 (hw145 ▸ dw145.nn)) (tw hw 55 rfl) (tw hw 56 rfl) (tw hw 58 rfl) (tw hw 57 rfl) (tw hw 29 rfl) (tw hw 59 rfl) rfl V115.1 (g := (mkF m 145 #[vi p0, vi p1, vi p2, vi p3, vi p4, .val (.long p5), .second, vi 2, vi 1, vi v21, vi v27, vi v33, vi v43, vr bb53, vr b58, .val (.long v123), .second, .unset, .unset] [(.long p5), (.double v142), (.ref bb53), (.ref b58)])) (hb hby at_145) (W := 0) (argsL := [(.ref bb53), (.double v142), (.long p5)]) (rest := []) (lenOf pd10 rfl) rfl (by rw [hml]; rfl) rfl rfl (Nat.le_of_eq rfl) (by decide) (by decide) (by decide) (by decide) (by decide)
      obtain ⟨rfl, Nq145, K145, V145⟩ := hQ145
      have N145 := Fr.app N115 Nq145
      refine Dn.tr st145 ?_
      have Z145 : n0 ≤ T145.heap.size := Nat.le_trans Z115 K145.1
      have U145 : own_HM Z T145.heap hm := ⟨U115.1.keep K145, U115.2.1.keep K145 (ninS nehm nin0), U115.2.2.keep K145 (ninS nehm nin0)⟩
      refine Dn.st (fun _ kk => XS.lload X145.here hx rfl (hb hby at_148) rfl (XS.iload X145.here hx rfl (hb hby at_150) rfl (XS.i2l X145.here hx rfl (hb hby at_152) rfl (kk)))) ?_
      show Dn p e below s _ _ _ (T145.setTop (mkF m 153 #[vi p0, vi p1, vi p2, vi p3, vi p4, .val (.long p5), .second, vi 2, vi 1, vi v21, vi v27, vi v33, vi v43, vr bb53, vr b58, .val (.long v123), .second, .unset, .unset] [(.long (v27.toInt64)), (.long v123)]))
      generalize hv152 : ((v27.toInt64) : Int64) = v152
      have q152 : v152.toInt = v27.toInt := by have qq := c_i2l v27; rw [hv152] at qq; exact qq
      have r152 := rng64 v152
      refine Dn.st (fun _ kk => XS.ladd X145.here hx rfl (hb hby at_153) rfl (kk)) ?_
      show Dn p e below s _ _ _ (T145.setTop (mkF m 154 #[vi p0, vi p1, vi p2, vi p3, vi p4, .val (.long p5), .second, vi 2, vi 1, vi v21, vi v27, vi v33, vi v43, vr bb53, vr b58, .val (.long v123), .second, .unset, .unset] [(.long (v123 + v152))]))
      generalize hv153 : ((v123 + v152) : Int64) = v153
      have q153 : (v153.toInt - (v123.toInt + v152.toInt)) % 18446744073709551616 = 0 := by have qq := c_ladd v123 v152; rw [hv153] at qq; exact qq
      have r153 := rng64 v153
      refine Dn.st (fun _ kk => XS.lstore X145.here hx rfl (hb hby at_154) rfl (l' := #[vi p0, vi p1, vi p2, vi p3, vi p4, .val (.long p5), .second, vi 2, vi 1, vi v21, vi v27, vi v33, vi v43, vr bb53, vr b58, .val (.long v153), .second, .unset, .unset]) rfl (XS.iload X145.here hx rfl (hb hby at_156) rfl (XS.iconst X145.here hx rfl (hb hby at_158) (kk)))) ?_
      show Dn p e below s _ _ _ (T145.setTop (mkF m 159 #[vi p0, vi p1, vi p2, vi p3, vi p4, .val (.long p5), .second, vi 2, vi 1, vi v21, vi v27, vi v33, vi v43, vr bb53, vr b58, .val (.long v153), .second, .unset, .unset] [(.int 3), (.int 2)]))
      have hc159 : (2 : Int32) < (3 : Int32) := by decide
      refine Dn.st (fun _ kk => XS.icmpYes X145.here hx rfl (pc0 := 159) (pc' := 186) rfl (hb hby at_159) rfl (tlt hc159).1 (by decide) (by decide) (XS.iload X145.here hx rfl (hb hby at_186) rfl (kk))) ?_
      show Dn p e below s _ _ _ (T145.setTop (mkF m 188 #[vi p0, vi p1, vi p2, vi p3, vi p4, .val (.long p5), .second, vi 2, vi 1, vi v21, vi v27, vi v33, vi v43, vr bb53, vr b58, .val (.long v153), .second, .unset, .unset] [(.int 2)]))
      have hc188 : ¬ ((2 : Int32) = (0 : Int32)) := by decide
      refine Dn.st (fun _ kk => XS.ifYes X145.here hx rfl (pc0 := 188) (pc' := 195) rfl (hb hby at_188) rfl ((if0 _ _).trans (feq hc188).2) (by decide) (by decide) (XS.lload X145.here hx rfl (hb hby at_195) rfl (kk))) ?_
      show Dn p e below s _ _ _ (T145.setTop (mkF m 197 #[vi p0, vi p1, vi p2, vi p3, vi p4, .val (.long p5), .second, vi 2, vi 1, vi v21, vi v27, vi v33, vi v43, vr bb53, vr b58, .val (.long v153), .second, .unset, .unset] [(.long v153)]))
      have d197 := DS.l2d (v := v153) (by omega)
      refine Dn.st (fun _ kk => XS.l2dS X145.here hx rfl (hb hby at_197) rfl rfl (kk)) ?_
      show Dn p e below s _ _ _ (T145.setTop (mkF m 198 #[vi p0, vi p1, vi p2, vi p3, vi p4, .val (.long p5), .second, vi 2, vi 1, vi v21, vi v27, vi v33, vi v43, vr bb53, vr b58, .val (.long v153), .second, .unset, .unset] [(.double (FP.l2d v153))]))
      generalize hv197 : ((FP.l2d v153) : UInt64) = v197 at d197 ⊢
      refine Dn.st (fun _ kk => X145.ldc2DoubleC hx hown (mvT hZ (tw hw 54 rfl)) (g := (mkF m 198 #[vi p0, vi p1, vi p2, vi p3, vi p4, .val (.long p5), .second, vi 2, vi 1, vi v21, vi v27, vi v33, vi v43, vr bb53, vr b58, .val (.long v153), .second, .unset, .unset] [(.double v197)])) rfl (hb hby at_198) _ (kk)) ?_
      show Dn p e below s _ _ _ (T145.setTop (mkF m 201 #[vi p0, vi p1, vi p2, vi p3, vi p4, .val (.long p5), .second, vi 2, vi 1, vi v21, vi v27, vi v33, vi v43, vr bb53, vr b58, .val (.long v153), .second, .unset, .unset] [(.double (4616189618054758400 : UInt64)), (.double v197)]))
      have d201 : DS 2 v153.toInt (FP.ddiv v197 (4616189618054758400 : UInt64)) := DS.divp (t := 2) d197 dc_4616189618054758400 (by first | omega | decide) (by decide)
      refine Dn.st (fun _ kk => XS.ddivS X145.here hx rfl (hb hby at_201) rfl d201.nn rfl (kk)) ?_
      show Dn p e below s _ _ _ (T145.setTop (mkF m 202 #[vi p0, vi p1, vi p2, vi p3, vi p4, .val (.long p5), .second, vi 2, vi 1, vi v21, vi v27, vi v33, vi v43, vr bb53, vr b58, .val (.long v153), .second, .unset, .unset] [(.double (FP.ddiv v197 (4616189618054758400 : UInt64)))]))
      generalize hv201 : ((FP.ddiv v197 (4616189618054758400 : UInt64)) : UInt64) = v201 at d201 ⊢
      refine Dn.st (fun _ kk => XS.iload X145.here hx rfl (hb hby at_202) rfl (kk)) ?_
      show Dn p e below s _ _ _ (T145.setTop (mkF m 204 #[vi p0, vi p1, vi p2, vi p3, vi p4, .val (.long p5), .second, vi 2, vi 1, vi v21, vi v27, vi v33, vi v43, vr bb53, vr b58, .val (.long v153), .second, .unset, .unset] [(.int 2), (.double v201)]))
      have d204 := DS.i2d (2 : Int32)
      refine Dn.st (fun _ kk => XS.i2dS X145.here hx rfl (hb hby at_204) rfl rfl (kk)) ?_
      show Dn p e below s _ _ _ (T145.setTop (mkF m 205 #[vi p0, vi p1, vi p2, vi p3, vi p4, .val (.long p5), .second, vi 2, vi 1, vi v21, vi v27, vi v33, vi v43, vr bb53, vr b58, .val (.long v153), .second, .unset, .unset] [(.double (FP.i2d (2 : Int32))), (.double v201)]))
      generalize hv204 : ((FP.i2d (2 : Int32)) : UInt64) = v204 at d204 ⊢
      refine Dn.st (fun _ kk => XS.ddivS X145.here hx rfl (hb hby at_205) rfl (own_dq d201 (DS.cast d204 rfl (rfl : _ = (2 : Int))) (by decide) (by omega) (by omega)).nn rfl (kk)) ?_
      show Dn p e below s _ _ _ (T145.setTop (mkF m 206 #[vi p0, vi p1, vi p2, vi p3, vi p4, .val (.long p5), .second, vi 2, vi 1, vi v21, vi v27, vi v33, vi v43, vr bb53, vr b58, .val (.long v153), .second, .unset, .unset] [(.double (FP.ddiv v201 v204))]))
      generalize hv205 : ((FP.ddiv v201 v204) : UInt64) = v205
      refine Dn.st (fun _ kk => XS.dstore X145.here hx rfl (hb hby at_206) rfl (l' := #[vi p0, vi p1, vi p2, vi p3, vi p4, .val (.long p5), .second, vi 2, vi 1, vi v21, vi v27, vi v33, vi v43, vr bb53, vr b58, .val (.long v153), .second, .val (.double v205), .second]) rfl (XS.aload X145.here hx rfl (hb hby at_208) rfl rfl (kk))) ?_
      show Dn p e below s _ _ _ (T145.setTop (mkF m 210 #[vi p0, vi p1, vi p2, vi p3, vi p4, .val (.long p5), .second, vi 2, vi 1, vi v21, vi v27, vi v33, vi v43, vr bb53, vr b58, .val (.long v153), .second, .val (.double v205), .second] [(.ref b58)]))
      obtain ⟨_, T210, Lc210, X210, hQ210, st210⟩ := own_cv X145 hx hZ hown (rmG1 l Z a0 hw [] b58 hm (2 : Int64) w145 T145.heap n0 Z145 V145 (by decide) (own_dq dw145 (DS.cast (DS.l2d (v := (2 : Int64)) (by decide)) rfl (rfl : _ = (2 : Int))) (by decide) (by omega) (by omega)).nn) (tw hw 85 rfl) (tw hw 86 rfl) (tw hw 88 rfl) (tw hw 87 rfl) (tw hw 29 rfl) (tw hw 89 rfl) rfl V145.1 (g := (mkF m 210 #[vi p0, vi p1, vi p2, vi p3, vi p4, .val (.long p5), .second, vi 2, vi 1, vi v21, vi v27, vi v33, vi v43, vr bb53, vr b58, .val (.long v153), .second, .val (.double v205), .second] [(.ref b58)])) (hb hby at_210) (W := 0) (argsL := []) (rest := []) (lenOf pd8 rfl) rfl (by rw [hml]; rfl) rfl rfl (Nat.le_of_eq rfl) (by decide) (by decide) (by decide) (by decide) (by decide)
      obtain ⟨rfl, Nq210, hh210⟩ := hQ210
      have N210 := Fr.app N145 Nq210
      refine Dn.tr st210 ?_
      refine Dn.st (fun _ kk => XS.dload X210.here hx rfl (hb hby at_213) rfl (XS.dcmpS X210.here hx rfl (hb hby at_215) rfl (show cmpValue (FP.dcmp (FP.ddiv w145 (FP.l2d (2 : Int64))) v205) .l = (0 : Int32) from (by rw [← hv205]; exact own_eqdiv dw145 (DS.cast (DS.l2d (v := (2 : Int64)) (by decide)) rfl (rfl : _ = (2 : Int))) (DS.cast d201 rfl (by omega)) (DS.cast d204 rfl (rfl : _ = (2 : Int))) (by decide) (by omega) (by omega) _)) (kk))) ?_
      show Dn p e below s _ _ _ (T210.setTop (mkF m 216 #[vi p0, vi p1, vi p2, vi p3, vi p4, .val (.long p5), .second, vi 2, vi 1, vi v21, vi v27, vi v33, vi v43, vr bb53, vr b58, .val (.long v153), .second, .val (.double v205), .second] [(.int 0)]))
      have hc216 : (0 : Int32) = (0 : Int32) := by decide
      refine Dn.st (fun _ kk => XS.ifNo X210.here hx rfl (hb hby at_216) rfl ((if0 _ _).trans (teq hc216).2) (XS.aload X210.here hx rfl (hb hby at_219) rfl rfl (kk))) ?_
      show Dn p e below s _ _ _ (T210.setTop (mkF m 221 #[vi p0, vi p1, vi p2, vi p3, vi p4, .val (.long p5), .second, vi 2, vi 1, vi v21, vi v27, vi v33, vi v43, vr bb53, vr b58, .val (.long v153), .second, .val (.double v205), .second] [(.ref b58)]))
      obtain ⟨_, T221, Lc221, X221, hQ221, st221⟩ := own_cv X210 hx hZ hown (rmGv l Z a0 hw [] b58 hm (2 : Int64) w145 T145.heap n0 Z145 V145) (tw hw 90 rfl) (tw hw 91 rfl) (tw hw 93 rfl) (tw hw 92 rfl) (tw hw 29 rfl) (tw hw 94 rfl) hh210 V145.1 (g := (mkF m 221 #[vi p0, vi p1, vi p2, vi p3, vi p4, .val (.long p5), .second, vi 2, vi 1, vi v21, vi v27, vi v33, vi v43, vr bb53, vr b58, .val (.long v153), .second, .val (.double v205), .second] [(.ref b58)])) (hb hby at_221) (W := 0) (argsL := []) (rest := []) (lenOf pd9 rfl) rfl (by rw [hml]; rfl) rfl rfl (Nat.le_of_eq rfl) (by decide) (by decide) (by decide) (by decide) (by decide)
      obtain ⟨rfl, Nq221, hh221⟩ := hQ221
      have N221 := Fr.app N210 Nq221
      refine Dn.tr st221 ?_
      refine Dn.st (fun _ kk => XS.iload X221.here hx rfl (hb hby at_224) rfl (XS.i2l X221.here hx rfl (hb hby at_226) rfl (XS.lcmp X221.here hx rfl (hb hby at_227) rfl (kk)))) ?_
      show Dn p e below s _ _ _ (T221.setTop (mkF m 228 #[vi p0, vi p1, vi p2, vi p3, vi p4, .val (.long p5), .second, vi 2, vi 1, vi v21, vi v27, vi v33, vi v43, vr bb53, vr b58, .val (.long v153), .second, .val (.double v205), .second] [(.int 0)]))
      have hc228 : (0 : Int32) = (0 : Int32) := by decide
      refine Dn.st (fun _ kk => XS.ifNo X221.here hx rfl (hb hby at_228) rfl ((if0 _ _).trans (teq hc228).2) (XS.iconst X221.here hx rfl (hb hby at_231) (XS.goto X221.here hx rfl (pc0 := 232) (pc' := 236) rfl (hb hby at_232) (by decide) (by decide) (kk)))) ?_
      show Dn p e below s _ _ _ (T221.setTop (mkF m 236 #[vi p0, vi p1, vi p2, vi p3, vi p4, .val (.long p5), .second, vi 2, vi 1, vi v21, vi v27, vi v33, vi v43, vr bb53, vr b58, .val (.long v153), .second, .val (.double v205), .second] [(.int 1)]))
      exact Dn.ret X221 hlk hx hret rfl (Or.inl ⟨rfl, Or.inr (Or.inl rfl), _, rfl⟩) (hb hby at_236) (by rw [hh221]; exact ⟨rfl, N221⟩) (by decide) (by decide)
    · subst hk67
      refine Dn.st (fun _ kk => XS.iload X62.here hx rfl (hb hby at_67) rfl (kk)) ?_
      show Dn p e below s _ _ _ (T62.setTop (mkF m 69 #[vi p0, vi p1, vi p2, vi p3, vi p4, .val (.long p5), .second, vi 3, vi 1, vi v21, vi v27, vi v33, vi v43, vr bb53, vr b58, .unset, .unset, .unset, .unset] [(.int 1)]))
      have hc69 : ¬ ((1 : Int32) = (0 : Int32)) := by decide
      refine Dn.st (fun _ kk => XS.ifNo X62.here hx rfl (hb hby at_69) rfl ((if0 _ _).trans (feq hc69).1) (XS.aload X62.here hx rfl (hb hby at_72) rfl rfl (XS.aload X62.here hx rfl (hb hby at_74) rfl rfl (XS.iload X62.here hx rfl (hb hby at_76) rfl (kk))))) ?_
      show Dn p e below s _ _ _ (T62.setTop (mkF m 78 #[vi p0, vi p1, vi p2, vi p3, vi p4, .val (.long p5), .second, vi 3, vi 1, vi v21, vi v27, vi v33, vi v43, vr bb53, vr b58, .unset, .unset, .unset, .unset] [(.int v43), (.ref bb53), (.ref b58)]))
      have d78 := DS.i2d v43
      refine Dn.st (fun _ kk => XS.i2dS X62.here hx rfl (hb hby at_78) rfl rfl (kk)) ?_
      show Dn p e below s _ _ _ (T62.setTop (mkF m 79 #[vi p0, vi p1, vi p2, vi p3, vi p4, .val (.long p5), .second, vi 3, vi 1, vi v21, vi v27, vi v33, vi v43, vr bb53, vr b58, .unset, .unset, .unset, .unset] [(.double (FP.i2d v43)), (.ref bb53), (.ref b58)]))
      generalize hv78 : ((FP.i2d v43) : UInt64) = v78 at d78 ⊢
      refine Dn.st (fun _ kk => X62.ldc2DoubleC hx hown (mvT hZ (tw hw 54 rfl)) (g := (mkF m 79 #[vi p0, vi p1, vi p2, vi p3, vi p4, .val (.long p5), .second, vi 3, vi 1, vi v21, vi v27, vi v33, vi v43, vr bb53, vr b58, .unset, .unset, .unset, .unset] [(.double v78), (.ref bb53), (.ref b58)])) rfl (hb hby at_79) _ (kk)) ?_
      show Dn p e below s _ _ _ (T62.setTop (mkF m 82 #[vi p0, vi p1, vi p2, vi p3, vi p4, .val (.long p5), .second, vi 3, vi 1, vi v21, vi v27, vi v33, vi v43, vr bb53, vr b58, .unset, .unset, .unset, .unset] [(.double (4616189618054758400 : UInt64)), (.double v78), (.ref bb53), (.ref b58)]))
      have d82 : DS 2 v43.toInt (FP.ddiv v78 (4616189618054758400 : UInt64)) := DS.divp (t := 2) d78 dc_4616189618054758400 (by first | omega | decide) (by decide)
      refine Dn.st (fun _ kk => XS.ddivS X62.here hx rfl (hb hby at_82) rfl d82.nn rfl (kk)) ?_
      show Dn p e below s _ _ _ (T62.setTop (mkF m 83 #[vi p0, vi p1, vi p2, vi p3, vi p4, .val (.long p5), .second, vi 3, vi 1, vi v21, vi v27, vi v33, vi v43, vr bb53, vr b58, .unset, .unset, .unset, .unset] [(.double (FP.ddiv v78 (4616189618054758400 : UInt64))), (.ref bb53), (.ref b58)]))
      generalize hv82 : ((FP.ddiv v78 (4616189618054758400 : UInt64)) : UInt64) = v82 at d82 ⊢
      refine Dn.st (fun _ kk => XS.lload X62.here hx rfl (hb hby at_83) rfl (kk)) ?_
      show Dn p e below s _ _ _ (T62.setTop (mkF m 85 #[vi p0, vi p1, vi p2, vi p3, vi p4, .val (.long p5), .second, vi 3, vi 1, vi v21, vi v27, vi v33, vi v43, vr bb53, vr b58, .unset, .unset, .unset, .unset] [(.long p5), (.double v82), (.ref bb53), (.ref b58)]))
      obtain ⟨w85, hw85⟩ : ∃ z, FP.dadd (0 : UInt64) v82 = z := ⟨_, rfl⟩
      have dw85 : DS 2 (0 + v43.toInt) w85 := hw85 ▸ DS.add (DS.zero 2) d82 (by omega) (by decide)
      obtain ⟨_, T85, Lc85, X85, hQ85, st85⟩ := own_cv X62 hx hZ hown (rmVt l Z a0 hw [] b58 bb53 v82 p5 hm (0 : Int64) (1 : Int64) (0 : UInt64) w85 T62.heap n0 Z62 gn_b58 V62 U62 nehm rfl hw85 (hw85 ▸ dw85.nn)) (tw hw 55 rfl) (tw hw 56 rfl) (tw hw 58 rfl) (tw hw 57 rfl) (tw hw 29 rfl) (tw hw 59 rfl) rfl V62.1 (g := (mkF m 85 #[vi p0, vi p1, vi p2, vi p3, vi p4, .val (.long p5), .second, vi 3, vi 1, vi v21, vi v27, vi v33, vi v43, vr bb53, vr b58, .unset, .unset, .unset, .unset] [(.long p5), (.double v82), (.ref bb53), (.ref b58)])) (hb hby at_85) (W := 0) (argsL := [(.ref bb53), (.double v82), (.long p5)]) (rest := []) (lenOf pd10 rfl) rfl (by rw [hml]; rfl) rfl rfl (Nat.le_of_eq rfl) (by decide) (by decide) (by decide) (by decide) (by decide)
      obtain ⟨rfl, Nq85, K85, V85⟩ := hQ85
      have N85 := Fr.app N62 Nq85
      refine Dn.tr st85 ?_
      have Z85 : n0 ≤ T85.heap.size := Nat.le_trans Z62 K85.1
      have U85 : own_HM Z T85.heap hm := ⟨U62.1.keep K85, U62.2.1.keep K85 (ninS nehm nin0), U62.2.2.keep K85 (ninS nehm nin0)⟩
      refine Dn.st (fun _ kk => XS.aload X85.here hx rfl (hb hby at_88) rfl rfl (kk)) ?_
      show Dn p e below s _ _ _ (T85.setTop (mkF m 90 #[vi p0, vi p1, vi p2, vi p3, vi p4, .val (.long p5), .second, vi 3, vi 1, vi v21, vi v27, vi v33, vi v43, vr bb53, vr b58, .unset, .unset, .unset, .unset] [(.ref b58)]))
      obtain ⟨_, T90, Lc90, X90, hQ90, st90⟩ := own_cv X85 hx hZ hown (rmRs l Z a0 hw [] b58 hm (1 : Int64) w85 T85.heap n0 Z85 gn_b58 V85 U85 nehm) (tw hw 95 rfl) (tw hw 96 rfl) (tw hw 98 rfl) (tw hw 97 rfl) (tw hw 29 rfl) (tw hw 99 rfl) rfl V85.1 (g := (mkF m 90 #[vi p0, vi p1, vi p2, vi p3, vi p4, .val (.long p5), .second, vi 3, vi 1, vi v21, vi v27, vi v33, vi v43, vr bb53, vr b58, .unset, .unset, .unset, .unset] [(.ref b58)])) (hb hby at_90) (W := 0) (argsL := []) (rest := []) (lenOf pd3 rfl) rfl (by rw [hml]; rfl) rfl rfl (Nat.le_of_eq rfl) (by decide) (by decide) (by decide) (by decide) (by decide)
      obtain ⟨rfl, Nq90, K90, V90⟩ := hQ90
      have N90 := Fr.app N85 Nq90
      refine Dn.tr st90 ?_
      have Z90 : n0 ≤ T90.heap.size := Nat.le_trans Z85 K90.1
      have U90 : own_HM Z T90.heap hm := ⟨U85.1.keep K90, U85.2.1.keep K90 (ninS nehm nin0), U85.2.2.keep K90 (ninS nehm nin0)⟩
      refine Dn.st (fun _ kk => XS.lconst X90.here hx rfl (hb hby at_93) (XS.lstore X90.here hx rfl (hb hby at_94) rfl (l' := #[vi p0, vi p1, vi p2, vi p3, vi p4, .val (.long p5), .second, vi 3, vi 1, vi v21, vi v27, vi v33, vi v43, vr bb53, vr b58, .val (.long (0 : Int64)), .second, .unset, .unset]) rfl (XS.iload X90.here hx rfl (hb hby at_96) rfl (XS.iconst X90.here hx rfl (hb hby at_98) (kk))))) ?_
      show Dn p e below s _ _ _ (T90.setTop (mkF m 99 #[vi p0, vi p1, vi p2, vi p3, vi p4, .val (.long p5), .second, vi 3, vi 1, vi v21, vi v27, vi v33, vi v43, vr bb53, vr b58, .val (.long (0 : Int64)), .second, .unset, .unset] [(.int 1), (.int 3)]))
      have hc99 : ¬ ((3 : Int32) < (1 : Int32)) := by decide
      refine Dn.st (fun _ kk => XS.icmpNo X90.here hx rfl (hb hby at_99) rfl (flt hc99).1 (XS.aload X90.here hx rfl (hb hby at_102) rfl rfl (XS.aload X90.here hx rfl (hb hby at_104) rfl rfl (XS.iload X90.here hx rfl (hb hby at_106) rfl (kk))))) ?_
      show Dn p e below s _ _ _ (T90.setTop (mkF m 108 #[vi p0, vi p1, vi p2, vi p3, vi p4, .val (.long p5), .second, vi 3, vi 1, vi v21, vi v27, vi v33, vi v43, vr bb53, vr b58, .val (.long (0 : Int64)), .second, .unset, .unset] [(.int v21), (.ref bb53), (.ref b58)]))
      have d108 := DS.i2d v21
      refine Dn.st (fun _ kk => XS.i2dS X90.here hx rfl (hb hby at_108) rfl rfl (kk)) ?_
      show Dn p e below s _ _ _ (T90.setTop (mkF m 109 #[vi p0, vi p1, vi p2, vi p3, vi p4, .val (.long p5), .second, vi 3, vi 1, vi v21, vi v27, vi v33, vi v43, vr bb53, vr b58, .val (.long (0 : Int64)), .second, .unset, .unset] [(.double (FP.i2d v21)), (.ref bb53), (.ref b58)]))
      generalize hv108 : ((FP.i2d v21) : UInt64) = v108 at d108 ⊢
      refine Dn.st (fun _ kk => X90.ldc2DoubleC hx hown (mvT hZ (tw hw 54 rfl)) (g := (mkF m 109 #[vi p0, vi p1, vi p2, vi p3, vi p4, .val (.long p5), .second, vi 3, vi 1, vi v21, vi v27, vi v33, vi v43, vr bb53, vr b58, .val (.long (0 : Int64)), .second, .unset, .unset] [(.double v108), (.ref bb53), (.ref b58)])) rfl (hb hby at_109) _ (kk)) ?_
      show Dn p e below s _ _ _ (T90.setTop (mkF m 112 #[vi p0, vi p1, vi p2, vi p3, vi p4, .val (.long p5), .second, vi 3, vi 1, vi v21, vi v27, vi v33, vi v43, vr bb53, vr b58, .val (.long (0 : Int64)), .second, .unset, .unset] [(.double (4616189618054758400 : UInt64)), (.double v108), (.ref bb53), (.ref b58)]))
      have d112 : DS 2 v21.toInt (FP.ddiv v108 (4616189618054758400 : UInt64)) := DS.divp (t := 2) d108 dc_4616189618054758400 (by first | omega | decide) (by decide)
      refine Dn.st (fun _ kk => XS.ddivS X90.here hx rfl (hb hby at_112) rfl d112.nn rfl (kk)) ?_
      show Dn p e below s _ _ _ (T90.setTop (mkF m 113 #[vi p0, vi p1, vi p2, vi p3, vi p4, .val (.long p5), .second, vi 3, vi 1, vi v21, vi v27, vi v33, vi v43, vr bb53, vr b58, .val (.long (0 : Int64)), .second, .unset, .unset] [(.double (FP.ddiv v108 (4616189618054758400 : UInt64))), (.ref bb53), (.ref b58)]))
      generalize hv112 : ((FP.ddiv v108 (4616189618054758400 : UInt64)) : UInt64) = v112 at d112 ⊢
      refine Dn.st (fun _ kk => XS.lload X90.here hx rfl (hb hby at_113) rfl (kk)) ?_
      show Dn p e below s _ _ _ (T90.setTop (mkF m 115 #[vi p0, vi p1, vi p2, vi p3, vi p4, .val (.long p5), .second, vi 3, vi 1, vi v21, vi v27, vi v33, vi v43, vr bb53, vr b58, .val (.long (0 : Int64)), .second, .unset, .unset] [(.long p5), (.double v112), (.ref bb53), (.ref b58)]))
      obtain ⟨w115, hw115⟩ : ∃ z, FP.dadd FP.dconst0 v112 = z := ⟨_, rfl⟩
      have dw115 : DS 2 (0 + v21.toInt) w115 := hw115 ▸ DS.add (DS.zero 2) d112 (by omega) (by decide)
      obtain ⟨_, T115, Lc115, X115, hQ115, st115⟩ := own_cv X90 hx hZ hown (rmVt l Z a0 hw [] b58 bb53 v112 p5 hm (0 : Int64) (1 : Int64) FP.dconst0 w115 T90.heap n0 Z90 gn_b58 V90 U90 nehm rfl hw115 (hw115 ▸ dw115.nn)) (tw hw 55 rfl) (tw hw 56 rfl) (tw hw 58 rfl) (tw hw 57 rfl) (tw hw 29 rfl) (tw hw 59 rfl) rfl V90.1 (g := (mkF m 115 #[vi p0, vi p1, vi p2, vi p3, vi p4, .val (.long p5), .second, vi 3, vi 1, vi v21, vi v27, vi v33, vi v43, vr bb53, vr b58, .val (.long (0 : Int64)), .second, .unset, .unset] [(.long p5), (.double v112), (.ref bb53), (.ref b58)])) (hb hby at_115) (W := 0) (argsL := [(.ref bb53), (.double v112), (.long p5)]) (rest := []) (lenOf pd10 rfl) rfl (by rw [hml]; rfl) rfl rfl (Nat.le_of_eq rfl) (by decide) (by decide) (by decide) (by decide) (by decide)
      obtain ⟨rfl, Nq115, K115, V115⟩ := hQ115
      have N115 := Fr.app N90 Nq115
      refine Dn.tr st115 ?_
      have Z115 : n0 ≤ T115.heap.size := Nat.le_trans Z90 K115.1
      have U115 : own_HM Z T115.heap hm := ⟨U90.1.keep K115, U90.2.1.keep K115 (ninS nehm nin0), U90.2.2.keep K115 (ninS nehm nin0)⟩
      refine Dn.st (fun _ kk => XS.lload X115.here hx rfl (hb hby at_118) rfl (XS.iload X115.here hx rfl (hb hby at_120) rfl (XS.i2l X115.here hx rfl (hb hby at_122) rfl (kk)))) ?_
      show Dn p e below s _ _ _ (T115.setTop (mkF m 123 #[vi p0, vi p1, vi p2, vi p3, vi p4, .val (.long p5), .second, vi 3, vi 1, vi v21, vi v27, vi v33, vi v43, vr bb53, vr b58, .val (.long (0 : Int64)), .second, .unset, .unset] [(.long (v21.toInt64)), (.long (0 : Int64))]))
      generalize hv122 : ((v21.toInt64) : Int64) = v122
      have q122 : v122.toInt = v21.toInt := by have qq := c_i2l v21; rw [hv122] at qq; exact qq
      have r122 := rng64 v122
      refine Dn.st (fun _ kk => XS.ladd X115.here hx rfl (hb hby at_123) rfl (kk)) ?_
      show Dn p e below s _ _ _ (T115.setTop (mkF m 124 #[vi p0, vi p1, vi p2, vi p3, vi p4, .val (.long p5), .second, vi 3, vi 1, vi v21, vi v27, vi v33, vi v43, vr bb53, vr b58, .val (.long (0 : Int64)), .second, .unset, .unset] [(.long ((0 : Int64) + v122))]))
      generalize hv123 : (((0 : Int64) + v122) : Int64) = v123
      have q123 : (v123.toInt - (0 + v122.toInt)) % 18446744073709551616 = 0 := by have qq := c_ladd (0 : Int64) v122; rw [hv123] at qq; exact qq
      have r123 := rng64 v123
      refine Dn.st (fun _ kk => XS.lstore X115.here hx rfl (hb hby at_124) rfl (l' := #[vi p0, vi p1, vi p2, vi p3, vi p4, .val (.long p5), .second, vi 3, vi 1, vi v21, vi v27, vi v33, vi v43, vr bb53, vr b58, .val (.long v123), .second, .unset, .unset]) rfl (XS.iload X115.here hx rfl (hb hby at_126) rfl (XS.iconst X115.here hx rfl (hb hby at_128) (kk)))) ?_
      show Dn p e below s _ _ _ (T115.setTop (mkF m 129 #[vi p0, vi p1, vi p2, vi p3, vi p4, .val (.long p5), .second, vi 3, vi 1, vi v21, vi v27, vi v33, vi v43, vr bb53, vr b58, .val (.long v123), .second, .unset, .unset] [(.int 2), (.int 3)]))
      have hc129 : ¬ ((3 : Int32) < (2 : Int32)) := by decide
      refine Dn.st (fun _ kk => XS.icmpNo X115.here hx rfl (hb hby at_129) rfl (flt hc129).1 (XS.aload X115.here hx rfl (hb hby at_132) rfl rfl (XS.aload X115.here hx rfl (hb hby at_134) rfl rfl (XS.iload X115.here hx rfl (hb hby at_136) rfl (kk))))) ?_
      show Dn p e below s _ _ _ (T115.setTop (mkF m 138 #[vi p0, vi p1, vi p2, vi p3, vi p4, .val (.long p5), .second, vi 3, vi 1, vi v21, vi v27, vi v33, vi v43, vr bb53, vr b58, .val (.long v123), .second, .unset, .unset] [(.int v27), (.ref bb53), (.ref b58)]))
      have d138 := DS.i2d v27
      refine Dn.st (fun _ kk => XS.i2dS X115.here hx rfl (hb hby at_138) rfl rfl (kk)) ?_
      show Dn p e below s _ _ _ (T115.setTop (mkF m 139 #[vi p0, vi p1, vi p2, vi p3, vi p4, .val (.long p5), .second, vi 3, vi 1, vi v21, vi v27, vi v33, vi v43, vr bb53, vr b58, .val (.long v123), .second, .unset, .unset] [(.double (FP.i2d v27)), (.ref bb53), (.ref b58)]))
      generalize hv138 : ((FP.i2d v27) : UInt64) = v138 at d138 ⊢
      refine Dn.st (fun _ kk => X115.ldc2DoubleC hx hown (mvT hZ (tw hw 54 rfl)) (g := (mkF m 139 #[vi p0, vi p1, vi p2, vi p3, vi p4, .val (.long p5), .second, vi 3, vi 1, vi v21, vi v27, vi v33, vi v43, vr bb53, vr b58, .val (.long v123), .second, .unset, .unset] [(.double v138), (.ref bb53), (.ref b58)])) rfl (hb hby at_139) _ (kk)) ?_
      show Dn p e below s _ _ _ (T115.setTop (mkF m 142 #[vi p0, vi p1, vi p2, vi p3, vi p4, .val (.long p5), .second, vi 3, vi 1, vi v21, vi v27, vi v33, vi v43, vr bb53, vr b58, .val (.long v123), .second, .unset, .unset] [(.double (4616189618054758400 : UInt64)), (.double v138), (.ref bb53), (.ref b58)]))
      have d142 : DS 2 v27.toInt (FP.ddiv v138 (4616189618054758400 : UInt64)) := DS.divp (t := 2) d138 dc_4616189618054758400 (by first | omega | decide) (by decide)
      refine Dn.st (fun _ kk => XS.ddivS X115.here hx rfl (hb hby at_142) rfl d142.nn rfl (kk)) ?_
      show Dn p e below s _ _ _ (T115.setTop (mkF m 143 #[vi p0, vi p1, vi p2, vi p3, vi p4, .val (.long p5), .second, vi 3, vi 1, vi v21, vi v27, vi v33, vi v43, vr bb53, vr b58, .val (.long v123), .second, .unset, .unset] [(.double (FP.ddiv v138 (4616189618054758400 : UInt64))), (.ref bb53), (.ref b58)]))
      generalize hv142 : ((FP.ddiv v138 (4616189618054758400 : UInt64)) : UInt64) = v142 at d142 ⊢
      refine Dn.st (fun _ kk => XS.lload X115.here hx rfl (hb hby at_143) rfl (kk)) ?_
      show Dn p e below s _ _ _ (T115.setTop (mkF m 145 #[vi p0, vi p1, vi p2, vi p3, vi p4, .val (.long p5), .second, vi 3, vi 1, vi v21, vi v27, vi v33, vi v43, vr bb53, vr b58, .val (.long v123), .second, .unset, .unset] [(.long p5), (.double v142), (.ref bb53), (.ref b58)]))
      obtain ⟨w145, hw145⟩ : ∃ z, FP.dadd w115 v142 = z := ⟨_, rfl⟩
      have dw145 : DS 2 ((0 + v21.toInt) + v27.toInt) w145 := hw145 ▸ DS.add dw115 d142 (by omega) (by decide)
      obtain ⟨_, T145, Lc145, X145, hQ145, st145⟩ := own_cv X115 hx hZ hown (rmVt l Z a0 hw [] b58 bb53 v142 p5 hm (1 : Int64) (2 : Int64) w115 w145 T115.heap n0 Z115 gn_b58 V115 U115 nehm rfl hw145 (hw145 ▸ dw145.nn)) (tw hw 55 rfl) (tw hw 56 rfl) (tw hw 58 rfl) (tw hw 57 rfl) (tw hw 29 rfl) (tw hw 59 rfl) rfl V115.1 (g := (mkF m 145 #[vi p0, vi p1, vi p2, vi p3, vi p4, .val (.long p5), .second, vi 3, vi 1, vi v21, vi v27, vi v33, vi v43, vr bb53, vr b58, .val (.long v123), .second, .unset, .unset] [(.long p5), (.double v142), (.ref bb53), (.ref b58)])) (hb hby at_145) (W := 0) (argsL := [(.ref bb53), (.double v142), (.long p5)]) (rest := []) (lenOf pd10 rfl) rfl (by rw [hml]; rfl) rfl rfl (Nat.le_of_eq rfl) (by decide) (by decide) (by decide) (by decide) (by decide)
      obtain ⟨rfl, Nq145, K145, V145⟩ := hQ145
      have N145 := Fr.app N115 Nq145
      refine Dn.tr st145 ?_
      have Z145 : n0 ≤ T145.heap.size := Nat.le_trans Z115 K145.1
      have U145 : own_HM Z T145.heap hm := ⟨U115.1.keep K145, U115.2.1.keep K145 (ninS nehm nin0), U115.2.2.keep K145 (ninS nehm nin0)⟩
      refine Dn.st (fun _ kk => XS.lload X145.here hx rfl (hb hby at_148) rfl (XS.iload X145.here hx rfl (hb hby at_150) rfl (XS.i2l X145.here hx rfl (hb hby at_152) rfl (kk)))) ?_
      show Dn p e below s _ _ _ (T145.setTop (mkF m 153 #[vi p0, vi p1, vi p2, vi p3, vi p4, .val (.long p5), .second, vi 3, vi 1, vi v21, vi v27, vi v33, vi v43, vr bb53, vr b58, .val (.long v123), .second, .unset, .unset] [(.long (v27.toInt64)), (.long v123)]))
      generalize hv152 : ((v27.toInt64) : Int64) = v152
      have q152 : v152.toInt = v27.toInt := by have qq := c_i2l v27; rw [hv152] at qq; exact qq
      have r152 := rng64 v152
      refine Dn.st (fun _ kk => XS.ladd X145.here hx rfl (hb hby at_153) rfl (kk)) ?_
      show Dn p e below s _ _ _ (T145.setTop (mkF m 154 #[vi p0, vi p1, vi p2, vi p3, vi p4, .val (.long p5), .second, vi 3, vi 1, vi v21, vi v27, vi v33, vi v43, vr bb53, vr b58, .val (.long v123), .second, .unset, .unset] [(.long (v123 + v152))]))
      generalize hv153 : ((v123 + v152) : Int64) = v153
      have q153 : (v153.toInt - (v123.toInt + v152.toInt)) % 18446744073709551616 = 0 := by have qq := c_ladd v123 v152; rw [hv153] at qq; exact qq
      have r153 := rng64 v153
      refine Dn.st (fun _ kk => XS.lstore X145.here hx rfl (hb hby at_154) rfl (l' := #[vi p0, vi p1, vi p2, vi p3, vi p4, .val (.long p5), .second, vi 3, vi 1, vi v21, vi v27, vi v33, vi v43, vr bb53, vr b58, .val (.long v153), .second, .unset, .unset]) rfl (XS.iload X145.here hx rfl (hb hby at_156) rfl (XS.iconst X145.here hx rfl (hb hby at_158) (kk)))) ?_
      show Dn p e below s _ _ _ (T145.setTop (mkF m 159 #[vi p0, vi p1, vi p2, vi p3, vi p4, .val (.long p5), .second, vi 3, vi 1, vi v21, vi v27, vi v33, vi v43, vr bb53, vr b58, .val (.long v153), .second, .unset, .unset] [(.int 3), (.int 3)]))
      have hc159 : ¬ ((3 : Int32) < (3 : Int32)) := by decide
      refine Dn.st (fun _ kk => XS.icmpNo X145.here hx rfl (hb hby at_159) rfl (flt hc159).1 (XS.aload X145.here hx rfl (hb hby at_162) rfl rfl (XS.aload X145.here hx rfl (hb hby at_164) rfl rfl (XS.iload X145.here hx rfl (hb hby at_166) rfl (kk))))) ?_
      show Dn p e below s _ _ _ (T145.setTop (mkF m 168 #[vi p0, vi p1, vi p2, vi p3, vi p4, .val (.long p5), .second, vi 3, vi 1, vi v21, vi v27, vi v33, vi v43, vr bb53, vr b58, .val (.long v153), .second, .unset, .unset] [(.int v33), (.ref bb53), (.ref b58)]))
      have d168 := DS.i2d v33
      refine Dn.st (fun _ kk => XS.i2dS X145.here hx rfl (hb hby at_168) rfl rfl (kk)) ?_
      show Dn p e below s _ _ _ (T145.setTop (mkF m 169 #[vi p0, vi p1, vi p2, vi p3, vi p4, .val (.long p5), .second, vi 3, vi 1, vi v21, vi v27, vi v33, vi v43, vr bb53, vr b58, .val (.long v153), .second, .unset, .unset] [(.double (FP.i2d v33)), (.ref bb53), (.ref b58)]))
      generalize hv168 : ((FP.i2d v33) : UInt64) = v168 at d168 ⊢
      refine Dn.st (fun _ kk => X145.ldc2DoubleC hx hown (mvT hZ (tw hw 54 rfl)) (g := (mkF m 169 #[vi p0, vi p1, vi p2, vi p3, vi p4, .val (.long p5), .second, vi 3, vi 1, vi v21, vi v27, vi v33, vi v43, vr bb53, vr b58, .val (.long v153), .second, .unset, .unset] [(.double v168), (.ref bb53), (.ref b58)])) rfl (hb hby at_169) _ (kk)) ?_
      show Dn p e below s _ _ _ (T145.setTop (mkF m 172 #[vi p0, vi p1, vi p2, vi p3, vi p4, .val (.long p5), .second, vi 3, vi 1, vi v21, vi v27, vi v33, vi v43, vr bb53, vr b58, .val (.long v153), .second, .unset, .unset] [(.double (4616189618054758400 : UInt64)), (.double v168), (.ref bb53), (.ref b58)]))
      have d172 : DS 2 v33.toInt (FP.ddiv v168 (4616189618054758400 : UInt64)) := DS.divp (t := 2) d168 dc_4616189618054758400 (by first | omega | decide) (by decide)
      refine Dn.st (fun _ kk => XS.ddivS X145.here hx rfl (hb hby at_172) rfl d172.nn rfl (kk)) ?_
      show Dn p e below s _ _ _ (T145.setTop (mkF m 173 #[vi p0, vi p1, vi p2, vi p3, vi p4, .val (.long p5), .second, vi 3, vi 1, vi v21, vi v27, vi v33, vi v43, vr bb53, vr b58, .val (.long v153), .second, .unset, .unset] [(.double (FP.ddiv v168 (4616189618054758400 : UInt64))), (.ref bb53), (.ref b58)]))
      generalize hv172 : ((FP.ddiv v168 (4616189618054758400 : UInt64)) : UInt64) = v172 at d172 ⊢
      refine Dn.st (fun _ kk => XS.lload X145.here hx rfl (hb hby at_173) rfl (kk)) ?_
      show Dn p e below s _ _ _ (T145.setTop (mkF m 175 #[vi p0, vi p1, vi p2, vi p3, vi p4, .val (.long p5), .second, vi 3, vi 1, vi v21, vi v27, vi v33, vi v43, vr bb53, vr b58, .val (.long v153), .second, .unset, .unset] [(.long p5), (.double v172), (.ref bb53), (.ref b58)]))
      obtain ⟨w175, hw175⟩ : ∃ z, FP.dadd w145 v172 = z := ⟨_, rfl⟩
      have dw175 : DS 2 (((0 + v21.toInt) + v27.toInt) + v33.toInt) w175 := hw175 ▸ DS.add dw145 d172 (by omega) (by decide)
      obtain ⟨_, T175, Lc175, X175, hQ175, st175⟩ := own_cv X145 hx hZ hown (rmVt l Z a0 hw [] b58 bb53 v172 p5 hm (2 : Int64) (3 : Int64) w145 w175 T145.heap n0 Z145 gn_b58 V145 U145 nehm rfl hw175 (hw175 ▸ dw175.nn)) (tw hw 55 rfl) (tw hw 56 rfl) (tw hw 58 rfl) (tw hw 57 rfl) (tw hw 29 rfl) (tw hw 59 rfl) rfl V145.1 (g := (mkF m 175 #[vi p0, vi p1, vi p2, vi p3, vi p4, .val (.long p5), .second, vi 3, vi 1, vi v21, vi v27, vi v33, vi v43, vr bb53, vr b58, .val (.long v153), .second, .unset, .unset] [(.long p5), (.double v172), (.ref bb53), (.ref b58)])) (hb hby at_175) (W := 0) (argsL := [(.ref bb53), (.double v172), (.long p5)]) (rest := []) (lenOf pd10 rfl) rfl (by rw [hml]; rfl) rfl rfl (Nat.le_of_eq rfl) (by decide) (by decide) (by decide) (by decide) (by decide)
      obtain ⟨rfl, Nq175, K175, V175⟩ := hQ175
      have N175 := Fr.app N145 Nq175
      refine Dn.tr st175 ?_
      have Z175 : n0 ≤ T175.heap.size := Nat.le_trans Z145 K175.1
      have U175 : own_HM Z T175.heap hm := ⟨U145.1.keep K175, U145.2.1.keep K175 (ninS nehm nin0), U145.2.2.keep K175 (ninS nehm nin0)⟩
      refine Dn.st (fun _ kk => XS.lload X175.here hx rfl (hb hby at_178) rfl (XS.iload X175.here hx rfl (hb hby at_180) rfl (XS.i2l X175.here hx rfl (hb hby at_182) rfl (kk)))) ?_
      show Dn p e below s _ _ _ (T175.setTop (mkF m 183 #[vi p0, vi p1, vi p2, vi p3, vi p4, .val (.long p5), .second, vi 3, vi 1, vi v21, vi v27, vi v33, vi v43, vr bb53, vr b58, .val (.long v153), .second, .unset, .unset] [(.long (v33.toInt64)), (.long v153)]))
      generalize hv182 : ((v33.toInt64) : Int64) = v182
      have q182 : v182.toInt = v33.toInt := by have qq := c_i2l v33; rw [hv182] at qq; exact qq
      have r182 := rng64 v182
      refine Dn.st (fun _ kk => XS.ladd X175.here hx rfl (hb hby at_183) rfl (kk)) ?_
      show Dn p e below s _ _ _ (T175.setTop (mkF m 184 #[vi p0, vi p1, vi p2, vi p3, vi p4, .val (.long p5), .second, vi 3, vi 1, vi v21, vi v27, vi v33, vi v43, vr bb53, vr b58, .val (.long v153), .second, .unset, .unset] [(.long (v153 + v182))]))
      generalize hv183 : ((v153 + v182) : Int64) = v183
      have q183 : (v183.toInt - (v153.toInt + v182.toInt)) % 18446744073709551616 = 0 := by have qq := c_ladd v153 v182; rw [hv183] at qq; exact qq
      have r183 := rng64 v183
      refine Dn.st (fun _ kk => XS.lstore X175.here hx rfl (hb hby at_184) rfl (l' := #[vi p0, vi p1, vi p2, vi p3, vi p4, .val (.long p5), .second, vi 3, vi 1, vi v21, vi v27, vi v33, vi v43, vr bb53, vr b58, .val (.long v183), .second, .unset, .unset]) rfl (XS.iload X175.here hx rfl (hb hby at_186) rfl (kk))) ?_
      show Dn p e below s _ _ _ (T175.setTop (mkF m 188 #[vi p0, vi p1, vi p2, vi p3, vi p4, .val (.long p5), .second, vi 3, vi 1, vi v21, vi v27, vi v33, vi v43, vr bb53, vr b58, .val (.long v183), .second, .unset, .unset] [(.int 3)]))
      have hc188 : ¬ ((3 : Int32) = (0 : Int32)) := by decide
      refine Dn.st (fun _ kk => XS.ifYes X175.here hx rfl (pc0 := 188) (pc' := 195) rfl (hb hby at_188) rfl ((if0 _ _).trans (feq hc188).2) (by decide) (by decide) (XS.lload X175.here hx rfl (hb hby at_195) rfl (kk))) ?_
      show Dn p e below s _ _ _ (T175.setTop (mkF m 197 #[vi p0, vi p1, vi p2, vi p3, vi p4, .val (.long p5), .second, vi 3, vi 1, vi v21, vi v27, vi v33, vi v43, vr bb53, vr b58, .val (.long v183), .second, .unset, .unset] [(.long v183)]))
      have d197 := DS.l2d (v := v183) (by omega)
      refine Dn.st (fun _ kk => XS.l2dS X175.here hx rfl (hb hby at_197) rfl rfl (kk)) ?_
      show Dn p e below s _ _ _ (T175.setTop (mkF m 198 #[vi p0, vi p1, vi p2, vi p3, vi p4, .val (.long p5), .second, vi 3, vi 1, vi v21, vi v27, vi v33, vi v43, vr bb53, vr b58, .val (.long v183), .second, .unset, .unset] [(.double (FP.l2d v183))]))
      generalize hv197 : ((FP.l2d v183) : UInt64) = v197 at d197 ⊢
      refine Dn.st (fun _ kk => X175.ldc2DoubleC hx hown (mvT hZ (tw hw 54 rfl)) (g := (mkF m 198 #[vi p0, vi p1, vi p2, vi p3, vi p4, .val (.long p5), .second, vi 3, vi 1, vi v21, vi v27, vi v33, vi v43, vr bb53, vr b58, .val (.long v183), .second, .unset, .unset] [(.double v197)])) rfl (hb hby at_198) _ (kk)) ?_
      show Dn p e below s _ _ _ (T175.setTop (mkF m 201 #[vi p0, vi p1, vi p2, vi p3, vi p4, .val (.long p5), .second, vi 3, vi 1, vi v21, vi v27, vi v33, vi v43, vr bb53, vr b58, .val (.long v183), .second, .unset, .unset] [(.double (4616189618054758400 : UInt64)), (.double v197)]))
      have d201 : DS 2 v183.toInt (FP.ddiv v197 (4616189618054758400 : UInt64)) := DS.divp (t := 2) d197 dc_4616189618054758400 (by first | omega | decide) (by decide)
      refine Dn.st (fun _ kk => XS.ddivS X175.here hx rfl (hb hby at_201) rfl d201.nn rfl (kk)) ?_
      show Dn p e below s _ _ _ (T175.setTop (mkF m 202 #[vi p0, vi p1, vi p2, vi p3, vi p4, .val (.long p5), .second, vi 3, vi 1, vi v21, vi v27, vi v33, vi v43, vr bb53, vr b58, .val (.long v183), .second, .unset, .unset] [(.double (FP.ddiv v197 (4616189618054758400 : UInt64)))]))
      generalize hv201 : ((FP.ddiv v197 (4616189618054758400 : UInt64)) : UInt64) = v201 at d201 ⊢
      refine Dn.st (fun _ kk => XS.iload X175.here hx rfl (hb hby at_202) rfl (kk)) ?_
      show Dn p e below s _ _ _ (T175.setTop (mkF m 204 #[vi p0, vi p1, vi p2, vi p3, vi p4, .val (.long p5), .second, vi 3, vi 1, vi v21, vi v27, vi v33, vi v43, vr bb53, vr b58, .val (.long v183), .second, .unset, .unset] [(.int 3), (.double v201)]))
      have d204 := DS.i2d (3 : Int32)
      refine Dn.st (fun _ kk => XS.i2dS X175.here hx rfl (hb hby at_204) rfl rfl (kk)) ?_
      show Dn p e below s _ _ _ (T175.setTop (mkF m 205 #[vi p0, vi p1, vi p2, vi p3, vi p4, .val (.long p5), .second, vi 3, vi 1, vi v21, vi v27, vi v33, vi v43, vr bb53, vr b58, .val (.long v183), .second, .unset, .unset] [(.double (FP.i2d (3 : Int32))), (.double v201)]))
      generalize hv204 : ((FP.i2d (3 : Int32)) : UInt64) = v204 at d204 ⊢
      refine Dn.st (fun _ kk => XS.ddivS X175.here hx rfl (hb hby at_205) rfl (own_dq d201 (DS.cast d204 rfl (rfl : _ = (3 : Int))) (by decide) (by omega) (by omega)).nn rfl (kk)) ?_
      show Dn p e below s _ _ _ (T175.setTop (mkF m 206 #[vi p0, vi p1, vi p2, vi p3, vi p4, .val (.long p5), .second, vi 3, vi 1, vi v21, vi v27, vi v33, vi v43, vr bb53, vr b58, .val (.long v183), .second, .unset, .unset] [(.double (FP.ddiv v201 v204))]))
      generalize hv205 : ((FP.ddiv v201 v204) : UInt64) = v205
      refine Dn.st (fun _ kk => XS.dstore X175.here hx rfl (hb hby at_206) rfl (l' := #[vi p0, vi p1, vi p2, vi p3, vi p4, .val (.long p5), .second, vi 3, vi 1, vi v21, vi v27, vi v33, vi v43, vr bb53, vr b58, .val (.long v183), .second, .val (.double v205), .second]) rfl (XS.aload X175.here hx rfl (hb hby at_208) rfl rfl (kk))) ?_
      show Dn p e below s _ _ _ (T175.setTop (mkF m 210 #[vi p0, vi p1, vi p2, vi p3, vi p4, .val (.long p5), .second, vi 3, vi 1, vi v21, vi v27, vi v33, vi v43, vr bb53, vr b58, .val (.long v183), .second, .val (.double v205), .second] [(.ref b58)]))
      obtain ⟨_, T210, Lc210, X210, hQ210, st210⟩ := own_cv X175 hx hZ hown (rmG1 l Z a0 hw [] b58 hm (3 : Int64) w175 T175.heap n0 Z175 V175 (by decide) (own_dq dw175 (DS.cast (DS.l2d (v := (3 : Int64)) (by decide)) rfl (rfl : _ = (3 : Int))) (by decide) (by omega) (by omega)).nn) (tw hw 85 rfl) (tw hw 86 rfl) (tw hw 88 rfl) (tw hw 87 rfl) (tw hw 29 rfl) (tw hw 89 rfl) rfl V175.1 (g := (mkF m 210 #[vi p0, vi p1, vi p2, vi p3, vi p4, .val (.long p5), .second, vi 3, vi 1, vi v21, vi v27, vi v33, vi v43, vr bb53, vr b58, .val (.long v183), .second, .val (.double v205), .second] [(.ref b58)])) (hb hby at_210) (W := 0) (argsL := []) (rest := []) (lenOf pd8 rfl) rfl (by rw [hml]; rfl) rfl rfl (Nat.le_of_eq rfl) (by decide) (by decide) (by decide) (by decide) (by decide)
      obtain ⟨rfl, Nq210, hh210⟩ := hQ210
      have N210 := Fr.app N175 Nq210
      refine Dn.tr st210 ?_
      refine Dn.st (fun _ kk => XS.dload X210.here hx rfl (hb hby at_213) rfl (XS.dcmpS X210.here hx rfl (hb hby at_215) rfl (show cmpValue (FP.dcmp (FP.ddiv w175 (FP.l2d (3 : Int64))) v205) .l = (0 : Int32) from (by rw [← hv205]; exact own_eqdiv dw175 (DS.cast (DS.l2d (v := (3 : Int64)) (by decide)) rfl (rfl : _ = (3 : Int))) (DS.cast d201 rfl (by omega)) (DS.cast d204 rfl (rfl : _ = (3 : Int))) (by decide) (by omega) (by omega) _)) (kk))) ?_
      show Dn p e below s _ _ _ (T210.setTop (mkF m 216 #[vi p0, vi p1, vi p2, vi p3, vi p4, .val (.long p5), .second, vi 3, vi 1, vi v21, vi v27, vi v33, vi v43, vr bb53, vr b58, .val (.long v183), .second, .val (.double v205), .second] [(.int 0)]))
      have hc216 : (0 : Int32) = (0 : Int32) := by decide
      refine Dn.st (fun _ kk => XS.ifNo X210.here hx rfl (hb hby at_216) rfl ((if0 _ _).trans (teq hc216).2) (XS.aload X210.here hx rfl (hb hby at_219) rfl rfl (kk))) ?_
      show Dn p e below s _ _ _ (T210.setTop (mkF m 221 #[vi p0, vi p1, vi p2, vi p3, vi p4, .val (.long p5), .second, vi 3, vi 1, vi v21, vi v27, vi v33, vi v43, vr bb53, vr b58, .val (.long v183), .second, .val (.double v205), .second] [(.ref b58)]))
      obtain ⟨_, T221, Lc221, X221, hQ221, st221⟩ := own_cv X210 hx hZ hown (rmGv l Z a0 hw [] b58 hm (3 : Int64) w175 T175.heap n0 Z175 V175) (tw hw 90 rfl) (tw hw 91 rfl) (tw hw 93 rfl) (tw hw 92 rfl) (tw hw 29 rfl) (tw hw 94 rfl) hh210 V175.1 (g := (mkF m 221 #[vi p0, vi p1, vi p2, vi p3, vi p4, .val (.long p5), .second, vi 3, vi 1, vi v21, vi v27, vi v33, vi v43, vr bb53, vr b58, .val (.long v183), .second, .val (.double v205), .second] [(.ref b58)])) (hb hby at_221) (W := 0) (argsL := []) (rest := []) (lenOf pd9 rfl) rfl (by rw [hml]; rfl) rfl rfl (Nat.le_of_eq rfl) (by decide) (by decide) (by decide) (by decide) (by decide)
      obtain ⟨rfl, Nq221, hh221⟩ := hQ221
      have N221 := Fr.app N210 Nq221
      refine Dn.tr st221 ?_
      refine Dn.st (fun _ kk => XS.iload X221.here hx rfl (hb hby at_224) rfl (XS.i2l X221.here hx rfl (hb hby at_226) rfl (XS.lcmp X221.here hx rfl (hb hby at_227) rfl (kk)))) ?_
      show Dn p e below s _ _ _ (T221.setTop (mkF m 228 #[vi p0, vi p1, vi p2, vi p3, vi p4, .val (.long p5), .second, vi 3, vi 1, vi v21, vi v27, vi v33, vi v43, vr bb53, vr b58, .val (.long v183), .second, .val (.double v205), .second] [(.int 0)]))
      have hc228 : (0 : Int32) = (0 : Int32) := by decide
      refine Dn.st (fun _ kk => XS.ifNo X221.here hx rfl (hb hby at_228) rfl ((if0 _ _).trans (teq hc228).2) (XS.iconst X221.here hx rfl (hb hby at_231) (XS.goto X221.here hx rfl (pc0 := 232) (pc' := 236) rfl (hb hby at_232) (by decide) (by decide) (kk)))) ?_
      show Dn p e below s _ _ _ (T221.setTop (mkF m 236 #[vi p0, vi p1, vi p2, vi p3, vi p4, .val (.long p5), .second, vi 3, vi 1, vi v21, vi v27, vi v33, vi v43, vr bb53, vr b58, .val (.long v183), .second, .val (.double v205), .second] [(.int 1)]))
      exact Dn.ret X221 hlk hx hret rfl (Or.inl ⟨rfl, Or.inr (Or.inl rfl), _, rfl⟩) (hb hby at_236) (by rw [hh221]; exact ⟨rfl, N221⟩) (by decide) (by decide)

theorem comes_1 {Post : Tables → Env → Array Value → State → Outcome → State → Prop} (hpost : ∀ tb e args s v u, (limb_1_1.after args s (.returned v) u = true ∧ limb_1_2.after args s (.returned v) u = true ∧ True) → ReturnedEndW s (.returned v) u (Jvm.fieldLocs frame_1_writes args s ++ Jvm.arrayLocs frame_1_arrays args s ++ Jvm.staticLocs frame_1_statics s) 32 192 → Post tb e args s (.returned v) u) :
    ArmFor flags0 classFile x code maxLocals ret World_1 tables_1 room_1 Calls_1 rest_1 Pre_1 Post := by
  intro l hfl _ _ p e ha hc hk s m args below hf hA hF happ hP
  obtain ⟨hcalls, hrest, hpre⟩ := hP
  obtain ⟨-, -, -, hnamed, -, -, -, hat⟩ := (Spec.applies_iff hf).mp happ
  obtain ⟨hg, hn⟩ := and_e (Cond.before_iff.mp (show (Jvm.Cond.and given_1 narrow_1).before args s = true from hpre))
  obtain ⟨g1a, g1b⟩ := and_e hg
  obtain ⟨g2a, g2b⟩ := and_e g1b
  obtain ⟨g3a, g3b⟩ := and_e g2b
  obtain ⟨g4a, g4b⟩ := and_e g3b
  obtain ⟨g5a, g5b⟩ := and_e g4b
  obtain ⟨g6a, g6b⟩ := and_e g5b
  obtain ⟨w0, w1, w2, w3, w4, w5, rfl⟩ : ∃ w0 w1 w2 w3 w4 w5 : Value, args = #[w0, w1, w2, w3, w4, w5] := by
    have hs : args.size = 6 := by simpa [Cond.value, given_1] using g1a
    obtain ⟨L⟩ := args
    match L, hs with
    | [w0, w1, w2, w3, w4, w5], _ => exact ⟨w0, w1, w2, w3, w4, w5, rfl⟩
  have hw := fun d (hd : d ∈ tables_1) => atoms_spec (ws := Jvm.Cond.code x code maxLocals ret :: tables_1) hat d (List.mem_cons_of_mem _ hd)
  have hfit : Fit s := fun {y c} hc i hi => by
    obtain ⟨ha, rfl⟩ := Array.getElem?_eq_some_iff.mp hc
    have q := List.all_eq_true.mp ((Array.all_eq_true_iff_forall_mem.mp hF) _ (Array.getElem_mem ha)) i (List.mem_range.mpr hi)
    simpa [Array.getElem?_eq_getElem hi] using q
  obtain ⟨hsets, hown0⟩ := atoms_of _ (rest_1_c_eq ▸ (show rest_1_c.before _ s = true from hrest))
  have hr0 := Cond.before_iff.mp hown0
  obtain ⟨i0, ei0⟩ := is_v g2a
  obtain rfl : w0 = (.int i0) := Option.some.inj ei0
  obtain ⟨i1, ei1⟩ := is_v g3a
  obtain rfl : w1 = (.int i1) := Option.some.inj ei1
  obtain ⟨i2, ei2⟩ := is_v g4a
  obtain rfl : w2 = (.int i2) := Option.some.inj ei2
  obtain ⟨i3, ei3⟩ := is_v g5a
  obtain rfl : w3 = (.int i3) := Option.some.inj ei3
  obtain ⟨i4, ei4⟩ := is_v g6a
  obtain rfl : w4 = (.int i4) := Option.some.inj ei4
  obtain ⟨i5, ei5⟩ := isL_v g6b
  obtain rfl : w5 = (.long i5) := Option.some.inj ei5
  obtain ⟨cs, v_cs⟩ := is_v (Cond.before_iff.mp (hsets _ (List.mem_of_getElem? (i := 1) rfl)))
  have hcs : cs ≠ 0 := own_ne0 v_cs (Cond.before_iff.mp (hsets _ (List.mem_of_getElem? (i := 2) rfl)))
  obtain ⟨n, o, h1, h2, h3, _, L, rfl, ⟨rfl, N⟩, hq⟩ := rm0 l s _ hw tables_1 i0 i1 i2 i3 i4 i5 cs s.heap s.heap.size (Nat.le_refl _) (Sta.start v_cs (Or.inl (hsets _ (List.mem_of_getElem? (i := 0) rfl)))) hcs p e ha hc hk s m _ below hf ((Spec.applies_iff_loose hf).mp happ).1 ⟨rfl, State.Warmed39.refl s, rfl⟩ trivial
  refine ⟨n, _, h1, h2, h3, hpost _ _ _ _ _ _ ⟨Cond.after_iff.mpr rfl, Cond.after_iff.mpr (eq_i res_at (Term.int_eval (1)) rfl), trivial⟩ ⟨hq.1, hq.2.1, hq.2.2.1, (hq.2.2.2.sift fun y hy => Or.inr (N y hy)).mono (by decide) (by decide)⟩⟩
theorem main_1_1 : Claimed_1_1 := comes_1 fun _ _ _ _ _ _ h hF => ⟨h.1, hF⟩
theorem main_1_2 : Claimed_1_2 := comes_1 fun _ _ _ _ _ _ h hF => ⟨h.2.1, hF⟩
end Jvm.Pilot.@@N@@
namespace Jvm.Pilot.@@N@@
open Jvm Jvm.ClassFile Sem Op Lib Jvm.Free Jvm.Stand Jvm.Pilot.@@N@@.Jvm.D
/-! MADE BY PROGRAM (witnessworld.py) out of the Statement's table words and the real class files: 23 classes; the members and pool entries that the words name. The judged class is class 1, her method 1. -/
namespace start1
open Jvm.ClassFile
def u (s : String) : CpInfo := .utf8 (stringToUtf16 s)
/-- a pool by its gaps: so many unusable entries, then the entry; so many at the end -/
def gap : Nat → List CpInfo → List CpInfo
  | 0, r => r
  | n + 1, r => .unusable :: gap n r
def poolList (es : List (Nat × CpInfo)) (last : Nat) : List CpInfo := es.foldr (fun e r => gap e.1 (e.2 :: r)) (gap last [])
def pool (es : List (Nat × CpInfo)) (last : Nat) : Array CpInfo := ⟨poolList es last⟩
def fileOf (pool : Array CpInfo) (this : Nat) (attrs : Array Attribute := #[]) (ms : Array MethodInfo := #[]) (fl : Nat := 33) (sup : Nat := 0) (ifs : Array Nat := #[]) (fds : Array FieldInfo := #[]) : ClassFile where
  minorVersion := 0
  majorVersion := 65
  constantPool := pool
  accessFlags := fl
  thisClass := this
  superClass := sup
  interfaces := ifs
  fields := fds
  methods := ms
  attributes := attrs
def plain (name : String) (sup : Option ClassId) : Class where
  name := name
  kind := .ordinary
  loader := none
  accessFlags := 33
  super := sup
  interfaces := #[]
  cf := none
  fields := #[]
  methods := #[]
  instanceTypes := #[]
  staticTypes := #[]
  resolved := #[]
  callSites := []
  init := .initialized
  statics := none
  mirror := none

def pool0 : Array CpInfo := pool [(5, u "<init>"), (0, u "()V"), (1, .class_ 10), (1, u "java/lang/Object")] 113

def k0c0 : Code := { maxStack := 0, maxLocals := 1, code := object_method_1_code, exceptionTable := #[], attributes := #[] }
def k0m0 : Method := { name := "<init>", desc := "()V", sig := { parameters := [], returnType := none }, accessFlags := 1, code := some k0c0 }
/-- java/lang/Object -/
def k0 : Class := { plain "java/lang/Object" none with
  accessFlags := 33
  interfaces := #[]
  cf := some (fileOf pool0 8 #[] #[{ accessFlags := 1, nameIndex := 5, descriptorIndex := 6, attributes := #[] }] 33 0 #[] #[])
  fields := #[]
  methods := #[k0m0]
  instanceTypes := #[]
  staticTypes := #[]
  resolved := Array.replicate 124 none
  statics := none }

def pool1 : Array CpInfo := pool [(2, .class_ 4), (0, .nameAndType 5 6), (0, u "java/lang/Object"), (0, u "<init>"), (0, u "()V"), (0, .integer 100000), (0, .methodref 9 10), (0, .class_ 11), (0, .nameAndType 12 13), (0, u "java/lang/String"), (0, u "valueOf"), (0, u "(C)Ljava/lang/String;"), (0, .class_ 15), (0, u "com/example/nudo/nudo/core/metrics/VehicleStatistics"), (0, .methodref 14 3), (0, .double 4616189618054758400), (1, .methodref 14 20), (0, .nameAndType 21 22), (0, u "vehicleStep"), (0, u "(Ljava/lang/String;DJ)V"), (0, .methodref 14 24), (0, .nameAndType 25 6), (0, u "restart"), (0, .methodref 14 27), (0, .nameAndType 28 29), (0, u "getMeanSpeed"), (0, u "()D"), (0, .methodref 14 31), (0, .nameAndType 32 33), (0, u "getVehicleSteps"), (0, u "()J"), (0, .class_ 35), (0, u "com/example/nudo/nudo/core/metrics/VehicleStatisticsGetMeanSpeedPinLaw"), (2, u "law"), (0, u "(IIIIIJ)Z")] 3

def k1m0 : Method := { name := "<init>", desc := "()V", sig := { parameters := [], returnType := none }, accessFlags := 1, code := none }
def k1c1 : Code := { maxStack := 6, maxLocals := 19, code := code, exceptionTable := #[], attributes := #[] }
def k1m1 : Method := { name := "law", desc := "(IIIIIJ)Z", sig := { parameters := [.int, .int, .int, .int, .int, .long], returnType := some .boolean }, accessFlags := 9, code := some k1c1 }
/-- com/example/nudo/nudo/core/metrics/VehicleStatisticsGetMeanSpeedPinLaw -/
def k1 : Class := { plain "com/example/nudo/nudo/core/metrics/VehicleStatisticsGetMeanSpeedPinLaw" (some 0) with
  accessFlags := 49
  interfaces := #[]
  cf := some (fileOf pool1 34 #[] #[{ accessFlags := 1, nameIndex := 5, descriptorIndex := 6, attributes := #[] }, { accessFlags := 9, nameIndex := 38, descriptorIndex := 39, attributes := #[] }] 49 2 #[] #[])
  fields := #[]
  methods := #[k1m0, k1m1]
  instanceTypes := #[]
  staticTypes := #[]
  resolved := Array.replicate 43 none
  statics := none }

def pool2 : Array CpInfo := pool [(1, .class_ 2), (0, u "java/io/Serializable"), (0, .class_ 4), (0, u "java/lang/Object")] 2

/-- java/io/Serializable -/
def k2 : Class := { plain "java/io/Serializable" (some 0) with
  accessFlags := 1537
  interfaces := #[]
  cf := some (fileOf pool2 1 #[] #[] 1537 3 #[] #[])
  fields := #[]
  methods := #[]
  instanceTypes := #[]
  staticTypes := #[]
  resolved := Array.replicate 7 none
  statics := none }

def pool3 : Array CpInfo := pool [(1, .class_ 2), (0, u "java/lang/Comparable"), (0, .class_ 4), (0, u "java/lang/Object")] 7

/-- java/lang/Comparable -/
def k3 : Class := { plain "java/lang/Comparable" (some 0) with
  accessFlags := 1537
  interfaces := #[]
  cf := some (fileOf pool3 1 #[] #[] 1537 3 #[] #[])
  fields := #[]
  methods := #[]
  instanceTypes := #[]
  staticTypes := #[]
  resolved := Array.replicate 12 none
  statics := none }

def pool4 : Array CpInfo := pool [(2, .class_ 4), (1, u "java/lang/CharSequence"), (42, .class_ 48), (0, u "java/lang/CharSequence$1CodePointIterator"), (10, .class_ 60), (0, u "java/lang/CharSequence$1CharIterator"), (5, .class_ 67), (0, u "java/lang/Object")] 63

/-- java/lang/CharSequence -/
def k4 : Class := { plain "java/lang/CharSequence" (some 0) with
  accessFlags := 1537
  interfaces := #[]
  cf := some (fileOf pool4 2 #[.nestMembers #[47, 59]] #[] 1537 66 #[] #[])
  fields := #[]
  methods := #[]
  instanceTypes := #[]
  staticTypes := #[]
  resolved := Array.replicate 131 none
  statics := none }

def pool5 : Array CpInfo := pool [(1, .class_ 2), (0, u "java/lang/constant/Constable"), (0, .class_ 4), (0, u "java/lang/Object")] 6

/-- java/lang/constant/Constable -/
def k5 : Class := { plain "java/lang/constant/Constable" (some 0) with
  accessFlags := 1537
  interfaces := #[]
  cf := some (fileOf pool5 1 #[] #[] 1537 3 #[] #[])
  fields := #[]
  methods := #[]
  instanceTypes := #[]
  staticTypes := #[]
  resolved := Array.replicate 11 none
  statics := none }

def pool6 : Array CpInfo := pool [(1, .class_ 2), (0, u "java/lang/constant/ConstantDesc"), (0, .class_ 4), (0, u "java/lang/Object")] 32

/-- java/lang/constant/ConstantDesc -/
def k6 : Class := { plain "java/lang/constant/ConstantDesc" (some 0) with
  accessFlags := 1537
  interfaces := #[]
  cf := some (fileOf pool6 1 #[] #[] 1537 3 #[] #[])
  fields := #[]
  methods := #[]
  instanceTypes := #[]
  staticTypes := #[]
  resolved := Array.replicate 37 none
  statics := none }

def pool7 : Array CpInfo := pool [(1, .methodref 2 3), (0, .class_ 4), (0, .nameAndType 5 6), (0, u "java/lang/Object"), (0, u "<init>"), (0, u "()V"), (2, .fieldref 10 11), (0, .class_ 12), (0, .nameAndType 13 14), (0, u "java/lang/String"), (0, u "value"), (0, u "[B"), (0, .fieldref 10 16), (0, .nameAndType 17 18), (0, u "coder"), (0, u "B"), (2, u "hash"), (0, u "I"), (2, u "hashIsZero"), (0, u "Z"), (11, .fieldref 10 39), (0, .nameAndType 40 26), (0, u "COMPACT_STRINGS"), (12, u "toBytes"), (53, .class_ 109), (1, u "java/lang/StringLatin1"), (99, .methodref 10 210), (0, .nameAndType 5 211), (0, u "([BB)V"), (157, u "(C)Z"), (205, .class_ 576), (0, u "java/lang/CharSequence"), (22, u "CASE_INSENSITIVE_ORDER"), (0, u "Ljava/util/Comparator;"), (181, u "valueOf"), (0, u "(C)Ljava/lang/String;"), (231, .methodref 107 1016), (0, .nameAndType 1017 369), (0, u "canEncode"), (0, .methodref 107 1019), (0, .nameAndType 53 1020), (0, u "(C)[B"), (80, u "serialPersistentFields"), (0, u "[Ljava/io/ObjectStreamField;"), (0, .class_ 1104), (0, u "java/lang/String$CaseInsensitiveComparator"), (1, .class_ 1107), (0, u "java/io/Serializable"), (0, .class_ 1109), (0, u "java/lang/Comparable"), (0, .class_ 1111), (0, u "java/lang/constant/Constable"), (0, .class_ 1113), (0, u "java/lang/constant/ConstantDesc"), (2, u "serialVersionUID"), (0, u "J"), (3, u "REPL"), (0, u "C"), (2, u "LATIN1"), (1, u "UTF16")] 323

def k7m0 : Method := { name := "<init>", desc := "()V", sig := { parameters := [], returnType := none }, accessFlags := 1, code := none }
def k7c1 : Code := { maxStack := 4, maxLocals := 1, code := jdk_42_method_139_code, exceptionTable := #[], attributes := #[] }
def k7m1 : Method := { name := "valueOf", desc := "(C)Ljava/lang/String;", sig := { parameters := [.char], returnType := some (.object "java/lang/String") }, accessFlags := 9, code := some k7c1 }
def k7c2 : Code := { maxStack := 2, maxLocals := 3, code := jdk_42_method_151_code, exceptionTable := #[], attributes := #[] }
def k7m2 : Method := { name := "<init>", desc := "([BB)V", sig := { parameters := [(.array .byte), .byte], returnType := none }, accessFlags := 0, code := some k7c2 }
/-- java/lang/String -/
def k7 : Class := { plain "java/lang/String" (some 0) with
  accessFlags := 49
  interfaces := #[2, 3, 4, 5, 6]
  cf := some (fileOf pool7 10 #[.nestMembers #[1103]] #[{ accessFlags := 1, nameIndex := 5, descriptorIndex := 6, attributes := #[] }, { accessFlags := 9, nameIndex := 782, descriptorIndex := 783, attributes := #[] }, { accessFlags := 0, nameIndex := 5, descriptorIndex := 211, attributes := #[] }] 49 2 #[1106, 1108, 575, 1110, 1112] #[{ accessFlags := 18, nameIndex := 13, descriptorIndex := 14, attributes := #[] }, { accessFlags := 18, nameIndex := 17, descriptorIndex := 18, attributes := #[] }, { accessFlags := 2, nameIndex := 21, descriptorIndex := 22, attributes := #[] }, { accessFlags := 2, nameIndex := 25, descriptorIndex := 26, attributes := #[] }, { accessFlags := 26, nameIndex := 1116, descriptorIndex := 1117, attributes := #[] }, { accessFlags := 24, nameIndex := 40, descriptorIndex := 26, attributes := #[] }, { accessFlags := 26, nameIndex := 1101, descriptorIndex := 1102, attributes := #[] }, { accessFlags := 26, nameIndex := 1121, descriptorIndex := 1122, attributes := #[] }, { accessFlags := 25, nameIndex := 599, descriptorIndex := 600, attributes := #[] }, { accessFlags := 24, nameIndex := 1125, descriptorIndex := 18, attributes := #[] }, { accessFlags := 24, nameIndex := 1127, descriptorIndex := 18, attributes := #[] }])
  fields := #[{ name := "value", type := (.array .byte), accessFlags := 18, slot := 0, constantValue := 0 }, { name := "coder", type := .byte, accessFlags := 18, slot := 1, constantValue := 0 }, { name := "hash", type := .int, accessFlags := 2, slot := 2, constantValue := 0 }, { name := "hashIsZero", type := .boolean, accessFlags := 2, slot := 3, constantValue := 0 }, { name := "serialVersionUID", type := .long, accessFlags := 26, slot := 0, constantValue := 0 }, { name := "COMPACT_STRINGS", type := .boolean, accessFlags := 24, slot := 1, constantValue := 0 }, { name := "serialPersistentFields", type := (.array (.object "java/io/ObjectStreamField")), accessFlags := 26, slot := 2, constantValue := 0 }, { name := "REPL", type := .char, accessFlags := 26, slot := 3, constantValue := 0 }, { name := "CASE_INSENSITIVE_ORDER", type := (.object "java/util/Comparator"), accessFlags := 25, slot := 4, constantValue := 0 }, { name := "LATIN1", type := .byte, accessFlags := 24, slot := 5, constantValue := 0 }, { name := "UTF16", type := .byte, accessFlags := 24, slot := 6, constantValue := 0 }]
  methods := #[k7m0, k7m1, k7m2]
  instanceTypes := #[(.array .byte), .byte, .int, .boolean]
  staticTypes := #[.long, .boolean, (.array (.object "java/io/ObjectStreamField")), .char, (.object "java/util/Comparator"), .byte, .byte]
  resolved := Array.replicate 1451 none
  statics := some 0 }

def pool8 : Array CpInfo := pool [(4, .class_ 6), (1, u "java/lang/Object"), (0, u "<init>"), (0, u "()V"), (5, .class_ 16), (1, u "java/lang/StringLatin1"), (73, u "canEncode"), (14, u "(C)Z"), (15, u "$assertionsDisabled"), (0, u "Z"), (98, .class_ 223), (1, u "java/lang/StringLatin1$LinesSpliterator"), (156, u "toBytes"), (1, u "(C)[B"), (7, .class_ 391), (0, u "java/lang/StringLatin1$CharsSpliterator")] 3

def k8m0 : Method := { name := "<init>", desc := "()V", sig := { parameters := [], returnType := none }, accessFlags := 0, code := none }
def k8c1 : Code := { maxStack := 2, maxLocals := 1, code := jdk_43_method_3_code, exceptionTable := #[], attributes := #[] }
def k8m1 : Method := { name := "canEncode", desc := "(C)Z", sig := { parameters := [.char], returnType := some .boolean }, accessFlags := 9, code := some k8c1 }
def k8c2 : Code := { maxStack := 4, maxLocals := 1, code := jdk_43_method_46_code, exceptionTable := #[], attributes := #[] }
def k8m2 : Method := { name := "toBytes", desc := "(C)[B", sig := { parameters := [.char], returnType := some (.array .byte) }, accessFlags := 9, code := some k8c2 }
/-- java/lang/StringLatin1 -/
def k8 : Class := { plain "java/lang/StringLatin1" (some 0) with
  accessFlags := 48
  interfaces := #[]
  cf := some (fileOf pool8 14 #[.nestMembers #[390, 221]] #[{ accessFlags := 0, nameIndex := 7, descriptorIndex := 8, attributes := #[] }, { accessFlags := 9, nameIndex := 90, descriptorIndex := 105, attributes := #[] }, { accessFlags := 9, nameIndex := 380, descriptorIndex := 382, attributes := #[] }] 48 4 #[] #[{ accessFlags := 4120, nameIndex := 121, descriptorIndex := 122, attributes := #[] }])
  fields := #[{ name := "$assertionsDisabled", type := .boolean, accessFlags := 4120, slot := 0, constantValue := 0 }]
  methods := #[k8m0, k8m1, k8m2]
  instanceTypes := #[]
  staticTypes := #[.boolean]
  resolved := Array.replicate 395 none
  statics := none }

def pool9 : Array CpInfo := pool [(1, .methodref 2 3), (0, .class_ 4), (0, .nameAndType 5 6), (0, u "java/lang/Object"), (0, u "<init>"), (0, u "()V"), (0, .class_ 8), (0, u "java/util/HashMap"), (0, .methodref 7 3), (0, .fieldref 11 12), (0, .class_ 13), (0, .nameAndType 14 15), (0, u "com/example/nudo/nudo/core/metrics/VehicleStatistics"), (0, u "departuresMs"), (0, u "Ljava/util/Map;"), (0, .fieldref 11 17), (0, .nameAndType 18 15), (0, u "waitingMs"), (0, .fieldref 11 20), (0, .nameAndType 21 22), (0, u "departed"), (0, u "J"), (7, .class_ 32), (1, u "java/util/Map"), (1, u "(Ljava/lang/Object;Ljava/lang/Object;)Ljava/lang/Object;"), (0, .fieldref 11 36), (0, .nameAndType 37 22), (0, u "arrived"), (4, .fieldref 11 43), (0, .nameAndType 44 22), (0, u "trips"), (0, .fieldref 11 46), (0, .nameAndType 47 22), (0, u "tripDurationsMs"), (3, u "()J"), (0, .fieldref 11 53), (0, .nameAndType 54 22), (0, u "vehicleSteps"), (0, .fieldref 11 56), (0, .nameAndType 57 58), (0, u "speedSum"), (0, u "D"), (0, .invokeDynamic 0 60), (0, .nameAndType 61 62), (0, u "apply"), (0, u "()Ljava/util/function/BiFunction;"), (0, .interfaceMethodref 30 64), (0, .nameAndType 65 66), (0, u "replaceAll"), (0, u "(Ljava/util/function/BiFunction;)V"), (3, .double 4591870180066957722), (1, .invokeDynamic 1 73), (0, .nameAndType 61 74), (0, u "(J)Ljava/util/function/BiFunction;"), (0, .interfaceMethodref 30 76), (0, .nameAndType 77 78), (0, u "computeIfPresent"), (0, u "(Ljava/lang/Object;Ljava/util/function/BiFunction;)Ljava/lang/Object;"), (14, u "WAITING_SPEED"), (7, u "restart"), (1, u "vehicleStep"), (0, u "(Ljava/lang/String;DJ)V"), (4, u "()D"), (0, u "getVehicleSteps"), (2, u "getMeanSpeed"), (0, u "lambda$vehicleStep$1"), (0, u "(JLjava/lang/String;Ljava/lang/Long;)Ljava/lang/Long;"), (0, u "lambda$restart$0"), (0, u "(Ljava/lang/String;Ljava/lang/Long;)Ljava/lang/Long;"), (3, .methodType 34), (0, .methodHandle 6 123), (0, .methodref 11 124), (0, .nameAndType 116 117), (0, .methodType 117), (0, .methodHandle 6 127), (0, .methodref 11 128), (0, .nameAndType 114 115), (2, .methodHandle 6 132), (0, .methodref 133 134), (0, .class_ 135), (0, .nameAndType 136 137), (0, u "java/lang/invoke/LambdaMetafactory"), (0, u "metafactory"), (0, u "(Ljava/lang/invoke/MethodHandles$Lookup;Ljava/lang/String;Ljava/lang/invoke/MethodType;Ljava/lang/invoke/MethodType;Ljava/lang/invoke/MethodHandle;Ljava/lang/invoke/MethodType;)Ljava/lang/invoke/CallSite;")] 12

def k9c0 : Code := { maxStack := 3, maxLocals := 1, code := prog_37_method_1_code, exceptionTable := #[], attributes := #[] }
def k9m0 : Method := { name := "<init>", desc := "()V", sig := { parameters := [], returnType := none }, accessFlags := 1, code := some k9c0 }
def k9c1 : Code := { maxStack := 3, maxLocals := 1, code := prog_37_method_4_code, exceptionTable := #[], attributes := #[] }
def k9m1 : Method := { name := "restart", desc := "()V", sig := { parameters := [], returnType := none }, accessFlags := 1, code := some k9c1 }
def k9c2 : Code := { maxStack := 5, maxLocals := 6, code := prog_37_method_6_code, exceptionTable := #[], attributes := #[] }
def k9m2 : Method := { name := "vehicleStep", desc := "(Ljava/lang/String;DJ)V", sig := { parameters := [(.object "java/lang/String"), .double, .long], returnType := none }, accessFlags := 1, code := some k9c2 }
def k9c3 : Code := { maxStack := 2, maxLocals := 1, code := prog_37_method_11_code, exceptionTable := #[], attributes := #[] }
def k9m3 : Method := { name := "getVehicleSteps", desc := "()J", sig := { parameters := [], returnType := some .long }, accessFlags := 1, code := some k9c3 }
def k9c4 : Code := { maxStack := 4, maxLocals := 1, code := prog_37_method_13_code, exceptionTable := #[], attributes := #[] }
def k9m4 : Method := { name := "getMeanSpeed", desc := "()D", sig := { parameters := [], returnType := some .double }, accessFlags := 1, code := some k9c4 }
def k9c5 : Code := { maxStack := 4, maxLocals := 4, code := ⟨#[0x2d, 0xb6, 0x00, 0x30, 0x1e, 0x61, 0xb8, 0x00, 0x17, 0xb0]⟩, exceptionTable := #[], attributes := #[] }
def k9m5 : Method := { name := "lambda$vehicleStep$1", desc := "(JLjava/lang/String;Ljava/lang/Long;)Ljava/lang/Long;", sig := { parameters := [.long, (.object "java/lang/String"), (.object "java/lang/Long")], returnType := some (.object "java/lang/Long") }, accessFlags := 4106, code := some k9c5 }
def k9c6 : Code := { maxStack := 2, maxLocals := 2, code := ⟨#[0x09, 0xb8, 0x00, 0x17, 0xb0]⟩, exceptionTable := #[], attributes := #[] }
def k9m6 : Method := { name := "lambda$restart$0", desc := "(Ljava/lang/String;Ljava/lang/Long;)Ljava/lang/Long;", sig := { parameters := [(.object "java/lang/String"), (.object "java/lang/Long")], returnType := some (.object "java/lang/Long") }, accessFlags := 4106, code := some k9c6 }
/-- com/example/nudo/nudo/core/metrics/VehicleStatistics -/
def k9 : Class := { plain "com/example/nudo/nudo/core/metrics/VehicleStatistics" (some 0) with
  accessFlags := 33
  interfaces := #[]
  cf := some (fileOf pool9 11 #[.bootstrapMethods #[⟨131, #[121, 122, 125]⟩, ⟨131, #[121, 126, 125]⟩, ⟨0, #[]⟩]] #[{ accessFlags := 1, nameIndex := 5, descriptorIndex := 6, attributes := #[] }, { accessFlags := 1, nameIndex := 101, descriptorIndex := 6, attributes := #[] }, { accessFlags := 1, nameIndex := 103, descriptorIndex := 104, attributes := #[] }, { accessFlags := 1, nameIndex := 110, descriptorIndex := 51, attributes := #[] }, { accessFlags := 1, nameIndex := 113, descriptorIndex := 109, attributes := #[] }, { accessFlags := 4106, nameIndex := 114, descriptorIndex := 115, attributes := #[] }, { accessFlags := 4106, nameIndex := 116, descriptorIndex := 117, attributes := #[] }] 33 2 #[] #[{ accessFlags := 25, nameIndex := 93, descriptorIndex := 58, attributes := #[] }, { accessFlags := 18, nameIndex := 14, descriptorIndex := 15, attributes := #[] }, { accessFlags := 18, nameIndex := 18, descriptorIndex := 15, attributes := #[] }, { accessFlags := 2, nameIndex := 21, descriptorIndex := 22, attributes := #[] }, { accessFlags := 2, nameIndex := 37, descriptorIndex := 22, attributes := #[] }, { accessFlags := 2, nameIndex := 44, descriptorIndex := 22, attributes := #[] }, { accessFlags := 2, nameIndex := 47, descriptorIndex := 22, attributes := #[] }, { accessFlags := 2, nameIndex := 54, descriptorIndex := 22, attributes := #[] }, { accessFlags := 2, nameIndex := 57, descriptorIndex := 58, attributes := #[] }])
  fields := #[{ name := "WAITING_SPEED", type := .double, accessFlags := 25, slot := 0, constantValue := 0 }, { name := "departuresMs", type := (.object "java/util/Map"), accessFlags := 18, slot := 0, constantValue := 0 }, { name := "waitingMs", type := (.object "java/util/Map"), accessFlags := 18, slot := 1, constantValue := 0 }, { name := "departed", type := .long, accessFlags := 2, slot := 2, constantValue := 0 }, { name := "arrived", type := .long, accessFlags := 2, slot := 3, constantValue := 0 }, { name := "trips", type := .long, accessFlags := 2, slot := 4, constantValue := 0 }, { name := "tripDurationsMs", type := .long, accessFlags := 2, slot := 5, constantValue := 0 }, { name := "vehicleSteps", type := .long, accessFlags := 2, slot := 6, constantValue := 0 }, { name := "speedSum", type := .double, accessFlags := 2, slot := 7, constantValue := 0 }]
  methods := #[k9m0, k9m1, k9m2, k9m3, k9m4, k9m5, k9m6]
  instanceTypes := #[(.object "java/util/Map"), (.object "java/util/Map"), .long, .long, .long, .long, .long, .double]
  staticTypes := #[.double]
  resolved := Array.replicate 150 none
  callSites := [(2, 35, .makes 21), (1, 34, .constant 2)]
  statics := none }

def pool10 : Array CpInfo := pool [(2, .class_ 4), (1, u "java/util/Map"), (31, .class_ 37), (0, u "java/util/Map$Entry"), (55, .class_ 94), (0, u "java/lang/Object"), (71, u "replaceAll"), (0, u "(Ljava/util/function/BiFunction;)V"), (18, u "computeIfPresent"), (0, u "(Ljava/lang/Object;Ljava/util/function/BiFunction;)Ljava/lang/Object;")] 75

def k10c0 : Code := { maxStack := 3, maxLocals := 7, code := ⟨#[0x2b, 0xb8, 0x00, 0x0b, 0x57, 0x2a, 0xb9, 0x00, 0x10, 0x01, 0x00, 0xb9, 0x00, 0x14, 0x01, 0x00, 0x4d, 0x2c, 0xb9, 0x00, 0x1a, 0x01, 0x00, 0x99, 0x00, 0x53, 0x2c, 0xb9, 0x00, 0x20, 0x01, 0x00, 0xc0, 0x00, 0x24, 0x4e, 0x2d, 0xb9, 0x00, 0x26, 0x01, 0x00, 0x3a, 0x04, 0x2d, 0xb9, 0x00, 0x29, 0x01, 0x00, 0x3a, 0x05, 0xa7, 0x00, 0x0f, 0x3a, 0x06, 0xbb, 0x00, 0x2e, 0x59, 0x19, 0x06, 0xb7, 0x00, 0x30, 0xbf, 0x2b, 0x19, 0x04, 0x19, 0x05, 0xb9, 0x00, 0x3a, 0x03, 0x00, 0x3a, 0x05, 0x2d, 0x19, 0x05, 0xb9, 0x00, 0x40, 0x02, 0x00, 0x57, 0xa7, 0x00, 0x0f, 0x3a, 0x06, 0xbb, 0x00, 0x2e, 0x59, 0x19, 0x06, 0xb7, 0x00, 0x30, 0xbf, 0xa7, 0xff, 0xaa, 0xb1]⟩, exceptionTable := #[{ startPc := 36, endPc := 52, handlerPc := 55, catchType := 44 }, { startPc := 79, endPc := 88, handlerPc := 91, catchType := 44 }], attributes := #[] }
def k10m0 : Method := { name := "replaceAll", desc := "(Ljava/util/function/BiFunction;)V", sig := { parameters := [(.object "java/util/function/BiFunction")], returnType := none }, accessFlags := 1, code := some k10c0 }
def k10c1 : Code := { maxStack := 3, maxLocals := 5, code := ⟨#[0x2c, 0xb8, 0x00, 0x0b, 0x57, 0x2a, 0x2b, 0xb9, 0x00, 0x01, 0x02, 0x00, 0x59, 0x4e, 0xc6, 0x00, 0x29, 0x2c, 0x2b, 0x2d, 0xb9, 0x00, 0x3a, 0x03, 0x00, 0x3a, 0x04, 0x19, 0x04, 0xc6, 0x00, 0x10, 0x2a, 0x2b, 0x19, 0x04, 0xb9, 0x00, 0x43, 0x03, 0x00, 0x57, 0x19, 0x04, 0xb0, 0x2a, 0x2b, 0xb9, 0x00, 0x4a, 0x02, 0x00, 0x57, 0x01, 0xb0, 0x01, 0xb0]⟩, exceptionTable := #[], attributes := #[] }
def k10m1 : Method := { name := "computeIfPresent", desc := "(Ljava/lang/Object;Ljava/util/function/BiFunction;)Ljava/lang/Object;", sig := { parameters := [(.object "java/lang/Object"), (.object "java/util/function/BiFunction")], returnType := some (.object "java/lang/Object") }, accessFlags := 1, code := some k10c1 }
/-- java/util/Map -/
def k10 : Class := { plain "java/util/Map" (some 0) with
  accessFlags := 1537
  interfaces := #[]
  cf := some (fileOf pool10 2 #[.nestMembers #[36]] #[{ accessFlags := 1, nameIndex := 166, descriptorIndex := 167, attributes := #[] }, { accessFlags := 1, nameIndex := 186, descriptorIndex := 187, attributes := #[] }] 1537 93 #[] #[])
  fields := #[]
  methods := #[k10m0, k10m1]
  instanceTypes := #[]
  staticTypes := #[]
  resolved := Array.replicate 263 none
  statics := none }

def pool11 : Array CpInfo := pool [(1, .methodref 2 3), (0, .class_ 4), (0, .nameAndType 5 6), (0, u "java/lang/Object"), (0, u "<init>"), (0, u "()V"), (1, .class_ 10), (1, u "java/util/AbstractMap"), (42, .class_ 54), (0, u "java/util/Map"), (9, u "keySet"), (0, u "Ljava/util/Set;"), (0, .class_ 67), (0, u "java/util/AbstractMap$1"), (5, u "values"), (0, u "Ljava/util/Collection;"), (0, .class_ 76), (0, u "java/util/AbstractMap$2"), (104, .class_ 182), (0, u "java/util/AbstractMap$ViewCollection"), (0, .class_ 184), (0, u "java/util/AbstractMap$SimpleImmutableEntry"), (0, .class_ 186), (0, u "java/util/AbstractMap$SimpleEntry"), (0, .class_ 188), (0, u "java/util/AbstractMap$2$1"), (0, .class_ 190), (0, u "java/util/AbstractMap$1$1")] 5

def k11c0 : Code := { maxStack := 1, maxLocals := 1, code := jdk_71_method_1_code, exceptionTable := #[], attributes := #[] }
def k11m0 : Method := { name := "<init>", desc := "()V", sig := { parameters := [], returnType := none }, accessFlags := 4, code := some k11c0 }
/-- java/util/AbstractMap -/
def k11 : Class := { plain "java/util/AbstractMap" (some 0) with
  accessFlags := 1057
  interfaces := #[10]
  cf := some (fileOf pool11 8 #[.nestMembers #[181, 183, 185, 75, 187, 66, 189]] #[{ accessFlags := 4, nameIndex := 5, descriptorIndex := 6, attributes := #[] }] 1057 2 #[53] #[{ accessFlags := 128, nameIndex := 64, descriptorIndex := 65, attributes := #[] }, { accessFlags := 128, nameIndex := 73, descriptorIndex := 74, attributes := #[] }])
  fields := #[{ name := "keySet", type := (.object "java/util/Set"), accessFlags := 128, slot := 0, constantValue := 0 }, { name := "values", type := (.object "java/util/Collection"), accessFlags := 128, slot := 1, constantValue := 0 }]
  methods := #[k11m0]
  instanceTypes := #[(.object "java/util/Set"), (.object "java/util/Collection")]
  staticTypes := #[]
  resolved := Array.replicate 196 none
  statics := none }

def pool12 : Array CpInfo := pool [(1, .class_ 2), (0, u "java/lang/Cloneable"), (0, .class_ 4), (0, u "java/lang/Object")] 2

/-- java/lang/Cloneable -/
def k12 : Class := { plain "java/lang/Cloneable" (some 0) with
  accessFlags := 1537
  interfaces := #[]
  cf := some (fileOf pool12 1 #[] #[] 1537 3 #[] #[])
  fields := #[]
  methods := #[]
  instanceTypes := #[]
  staticTypes := #[]
  resolved := Array.replicate 7 none
  statics := none }

def pool13 : Array CpInfo := pool [(40, .class_ 41), (0, u "java/util/HashMap"), (1, .methodref 44 45), (0, .class_ 46), (0, .nameAndType 47 48), (0, u "java/util/AbstractMap"), (0, u "<init>"), (0, u "()V"), (32, .fieldref 40 82), (0, .nameAndType 83 84), (0, u "loadFactor"), (0, u "F"), (5, u "threshold"), (0, u "I"), (0, .float 1061158912), (8, .class_ 103), (1, u "java/util/Map"), (0, u "size"), (0, .fieldref 40 106), (0, .nameAndType 107 108), (0, u "table"), (0, u "[Ljava/util/HashMap$Node;"), (14, u "entrySet"), (32, .fieldref 40 157), (0, .nameAndType 104 91), (0, .methodref 40 159), (0, .nameAndType 160 161), (0, u "getNode"), (0, u "(Ljava/lang/Object;)Ljava/util/HashMap$Node;"), (1, .class_ 165), (1, u "java/util/HashMap$Node"), (14, .class_ 181), (0, u "java/util/HashMap$TreeNode"), (22, u "modCount"), (37, u "Ljava/util/Set;"), (0, .class_ 244), (0, u "java/util/HashMap$KeySet"), (18, .class_ 264), (0, u "java/util/HashMap$Values"), (3, .class_ 269), (0, u "java/util/HashMap$EntrySet"), (76, .class_ 348), (1, u "java/util/HashMap$UnsafeHolder"), (43, .class_ 393), (0, u "java/lang/Cloneable"), (0, .class_ 395), (0, u "java/io/Serializable"), (0, u "serialVersionUID"), (0, u "J"), (3, u "DEFAULT_INITIAL_CAPACITY"), (1, u "MAXIMUM_CAPACITY"), (0, u "DEFAULT_LOAD_FACTOR"), (0, u "TREEIFY_THRESHOLD"), (1, u "UNTREEIFY_THRESHOLD"), (1, u "MIN_TREEIFY_CAPACITY"), (131, u "computeIfPresent"), (0, u "(Ljava/lang/Object;Ljava/util/function/BiFunction;)Ljava/lang/Object;"), (15, u "replaceAll"), (0, u "(Ljava/util/function/BiFunction;)V"), (36, .class_ 597), (0, u "java/util/HashMap$EntrySpliterator"), (0, .class_ 599), (0, u "java/util/HashMap$ValueSpliterator"), (0, .class_ 601), (0, u "java/util/HashMap$KeySpliterator"), (0, .class_ 603), (0, u "java/util/HashMap$HashMapSpliterator"), (0, .class_ 605), (0, u "java/util/HashMap$EntryIterator"), (0, .class_ 607), (0, u "java/util/HashMap$ValueIterator"), (0, .class_ 609), (0, u "java/util/HashMap$KeyIterator"), (0, .class_ 611), (0, u "java/util/HashMap$HashIterator")] 17

def k13c0 : Code := { maxStack := 2, maxLocals := 1, code := jdk_69_method_7_code, exceptionTable := #[], attributes := #[] }
def k13m0 : Method := { name := "<init>", desc := "()V", sig := { parameters := [], returnType := none }, accessFlags := 1, code := some k13c0 }
def k13c1 : Code := { maxStack := 4, maxLocals := 8, code := jdk_69_method_13_code, exceptionTable := #[], attributes := #[] }
def k13m1 : Method := { name := "getNode", desc := "(Ljava/lang/Object;)Ljava/util/HashMap$Node;", sig := { parameters := [(.object "java/lang/Object")], returnType := some (.object "java/util/HashMap$Node") }, accessFlags := 16, code := some k13c1 }
def k13c2 : Code := { maxStack := 6, maxLocals := 8, code := jdk_69_method_36_code, exceptionTable := #[], attributes := #[] }
def k13m2 : Method := { name := "computeIfPresent", desc := "(Ljava/lang/Object;Ljava/util/function/BiFunction;)Ljava/lang/Object;", sig := { parameters := [(.object "java/lang/Object"), (.object "java/util/function/BiFunction")], returnType := some (.object "java/lang/Object") }, accessFlags := 1, code := some k13c2 }
def k13c3 : Code := { maxStack := 4, maxLocals := 8, code := jdk_69_method_40_code, exceptionTable := #[], attributes := #[] }
def k13m3 : Method := { name := "replaceAll", desc := "(Ljava/util/function/BiFunction;)V", sig := { parameters := [(.object "java/util/function/BiFunction")], returnType := none }, accessFlags := 1, code := some k13c3 }
/-- java/util/HashMap -/
def k13 : Class := { plain "java/util/HashMap" (some 11) with
  accessFlags := 33
  interfaces := #[10, 12, 2]
  cf := some (fileOf pool13 40 #[.nestMembers #[180, 596, 598, 600, 602, 604, 606, 608, 610, 346, 268, 263, 243, 163]] #[{ accessFlags := 1, nameIndex := 47, descriptorIndex := 48, attributes := #[] }, { accessFlags := 16, nameIndex := 160, descriptorIndex := 161, attributes := #[] }, { accessFlags := 1, nameIndex := 541, descriptorIndex := 542, attributes := #[] }, { accessFlags := 1, nameIndex := 558, descriptorIndex := 559, attributes := #[] }] 33 44 #[101, 392, 394] #[{ accessFlags := 26, nameIndex := 396, descriptorIndex := 397, attributes := #[] }, { accessFlags := 24, nameIndex := 401, descriptorIndex := 91, attributes := #[] }, { accessFlags := 24, nameIndex := 403, descriptorIndex := 91, attributes := #[] }, { accessFlags := 24, nameIndex := 404, descriptorIndex := 84, attributes := #[] }, { accessFlags := 24, nameIndex := 405, descriptorIndex := 91, attributes := #[] }, { accessFlags := 24, nameIndex := 407, descriptorIndex := 91, attributes := #[] }, { accessFlags := 24, nameIndex := 409, descriptorIndex := 91, attributes := #[] }, { accessFlags := 128, nameIndex := 107, descriptorIndex := 108, attributes := #[] }, { accessFlags := 128, nameIndex := 123, descriptorIndex := 242, attributes := #[] }, { accessFlags := 128, nameIndex := 104, descriptorIndex := 91, attributes := #[] }, { accessFlags := 128, nameIndex := 204, descriptorIndex := 91, attributes := #[] }, { accessFlags := 0, nameIndex := 90, descriptorIndex := 91, attributes := #[] }, { accessFlags := 16, nameIndex := 83, descriptorIndex := 84, attributes := #[] }])
  fields := #[{ name := "serialVersionUID", type := .long, accessFlags := 26, slot := 0, constantValue := 0 }, { name := "DEFAULT_INITIAL_CAPACITY", type := .int, accessFlags := 24, slot := 1, constantValue := 0 }, { name := "MAXIMUM_CAPACITY", type := .int, accessFlags := 24, slot := 2, constantValue := 0 }, { name := "DEFAULT_LOAD_FACTOR", type := .float, accessFlags := 24, slot := 3, constantValue := 0 }, { name := "TREEIFY_THRESHOLD", type := .int, accessFlags := 24, slot := 4, constantValue := 0 }, { name := "UNTREEIFY_THRESHOLD", type := .int, accessFlags := 24, slot := 5, constantValue := 0 }, { name := "MIN_TREEIFY_CAPACITY", type := .int, accessFlags := 24, slot := 6, constantValue := 0 }, { name := "table", type := (.array (.object "java/util/HashMap$Node")), accessFlags := 128, slot := 2, constantValue := 0 }, { name := "entrySet", type := (.object "java/util/Set"), accessFlags := 128, slot := 3, constantValue := 0 }, { name := "size", type := .int, accessFlags := 128, slot := 4, constantValue := 0 }, { name := "modCount", type := .int, accessFlags := 128, slot := 5, constantValue := 0 }, { name := "threshold", type := .int, accessFlags := 0, slot := 6, constantValue := 0 }, { name := "loadFactor", type := .float, accessFlags := 16, slot := 7, constantValue := 0 }]
  methods := #[k13m0, k13m1, k13m2, k13m3]
  instanceTypes := #[(.object "java/util/Set"), (.object "java/util/Collection"), (.array (.object "java/util/HashMap$Node")), (.object "java/util/Set"), .int, .int, .int, .float]
  staticTypes := #[.long, .int, .int, .float, .int, .int, .int]
  resolved := Array.replicate 629 none
  statics := none }

def pool14 : Array CpInfo := pool [(9, u "apply"), (2, .class_ 14), (1, u "java/util/function/BiFunction"), (0, u "(Ljava/lang/Object;Ljava/lang/Object;)Ljava/lang/Object;"), (4, .class_ 21), (0, u "java/lang/Object")] 43

def k14m0 : Method := { name := "apply", desc := "(Ljava/lang/Object;Ljava/lang/Object;)Ljava/lang/Object;", sig := { parameters := [(.object "java/lang/Object"), (.object "java/lang/Object")], returnType := some (.object "java/lang/Object") }, accessFlags := 1025, code := none }
/-- java/util/function/BiFunction -/
def k14 : Class := { plain "java/util/function/BiFunction" (some 0) with
  accessFlags := 1537
  interfaces := #[]
  cf := some (fileOf pool14 12 #[] #[{ accessFlags := 1025, nameIndex := 9, descriptorIndex := 15, attributes := #[] }] 1537 20 #[] #[])
  fields := #[]
  methods := #[k14m0]
  instanceTypes := #[]
  staticTypes := #[]
  resolved := Array.replicate 65 none
  statics := none }

def pool15 : Array CpInfo := pool [(2, .class_ 4), (1, u "java/lang/Object"), (0, u "<init>"), (0, u "()V"), (17, .class_ 26), (1, u "jdk/internal/util/Preconditions"), (28, .class_ 56), (0, u "jdk/internal/util/Preconditions$4"), (57, .class_ 115), (0, u "jdk/internal/util/Preconditions$1"), (7, u "SIOOBE_FORMATTER"), (0, u "Ljava/util/function/BiFunction;"), (0, .class_ 126), (0, u "jdk/internal/util/Preconditions$2"), (3, u "AIOOBE_FORMATTER"), (0, .class_ 132), (0, u "jdk/internal/util/Preconditions$3"), (3, u "IOOBE_FORMATTER")] 57

def k15m0 : Method := { name := "<init>", desc := "()V", sig := { parameters := [], returnType := none }, accessFlags := 1, code := none }
/-- jdk/internal/util/Preconditions -/
def k15 : Class := { plain "jdk/internal/util/Preconditions" (some 0) with
  accessFlags := 33
  interfaces := #[]
  cf := some (fileOf pool15 24 #[.nestMembers #[55, 131, 125, 114]] #[{ accessFlags := 1, nameIndex := 5, descriptorIndex := 6, attributes := #[] }] 33 2 #[] #[{ accessFlags := 25, nameIndex := 123, descriptorIndex := 124, attributes := #[] }, { accessFlags := 25, nameIndex := 130, descriptorIndex := 124, attributes := #[] }, { accessFlags := 25, nameIndex := 136, descriptorIndex := 124, attributes := #[] }])
  fields := #[{ name := "SIOOBE_FORMATTER", type := (.object "java/util/function/BiFunction"), accessFlags := 25, slot := 0, constantValue := 0 }, { name := "AIOOBE_FORMATTER", type := (.object "java/util/function/BiFunction"), accessFlags := 25, slot := 1, constantValue := 0 }, { name := "IOOBE_FORMATTER", type := (.object "java/util/function/BiFunction"), accessFlags := 25, slot := 2, constantValue := 0 }]
  methods := #[k15m0]
  instanceTypes := #[]
  staticTypes := #[(.object "java/util/function/BiFunction"), (.object "java/util/function/BiFunction"), (.object "java/util/function/BiFunction")]
  resolved := Array.replicate 194 none
  statics := some 1 }

def pool16 : Array CpInfo := pool [(9, u "<init>"), (6, .class_ 18), (1, u "java/lang/Object"), (0, u "()V"), (1, .class_ 23), (1, u "jdk/internal/util/ArraysSupport"), (0, u "LOG2_ARRAY_LONG_INDEX_SCALE"), (0, u "I"), (2, u "U"), (0, u "Ljdk/internal/misc/Unsafe;"), (8, u "BIG_ENDIAN"), (0, u "Z"), (8, u "LOG2_BYTE_BIT_SIZE"), (4, u "LOG2_ARRAY_INT_INDEX_SCALE"), (54, u "JLA"), (0, u "Ljdk/internal/access/JavaLangAccess;"), (11, u "LOG2_ARRAY_BOOLEAN_INDEX_SCALE"), (9, u "LOG2_ARRAY_BYTE_INDEX_SCALE"), (5, u "LOG2_ARRAY_CHAR_INDEX_SCALE"), (5, u "LOG2_ARRAY_SHORT_INDEX_SCALE"), (18, u "LOG2_ARRAY_FLOAT_INDEX_SCALE"), (24, u "LOG2_ARRAY_DOUBLE_INDEX_SCALE"), (89, u "T_BOOLEAN"), (2, u "T_CHAR"), (1, u "T_FLOAT"), (1, u "T_DOUBLE"), (1, u "T_BYTE"), (1, u "T_SHORT"), (1, u "T_INT"), (1, u "T_LONG"), (1, u "SOFT_MAX_ARRAY_LENGTH")] 83

def k16m0 : Method := { name := "<init>", desc := "()V", sig := { parameters := [], returnType := none }, accessFlags := 2, code := none }
/-- jdk/internal/util/ArraysSupport -/
def k16 : Class := { plain "jdk/internal/util/ArraysSupport" (some 0) with
  accessFlags := 33
  interfaces := #[]
  cf := some (fileOf pool16 21 #[] #[{ accessFlags := 2, nameIndex := 9, descriptorIndex := 19, attributes := #[] }] 33 16 #[] #[{ accessFlags := 24, nameIndex := 28, descriptorIndex := 29, attributes := #[] }, { accessFlags := 26, nameIndex := 38, descriptorIndex := 39, attributes := #[] }, { accessFlags := 25, nameIndex := 121, descriptorIndex := 25, attributes := #[] }, { accessFlags := 25, nameIndex := 131, descriptorIndex := 25, attributes := #[] }, { accessFlags := 25, nameIndex := 137, descriptorIndex := 25, attributes := #[] }, { accessFlags := 25, nameIndex := 143, descriptorIndex := 25, attributes := #[] }, { accessFlags := 25, nameIndex := 53, descriptorIndex := 25, attributes := #[] }, { accessFlags := 25, nameIndex := 24, descriptorIndex := 25, attributes := #[] }, { accessFlags := 25, nameIndex := 162, descriptorIndex := 25, attributes := #[] }, { accessFlags := 25, nameIndex := 187, descriptorIndex := 25, attributes := #[] }, { accessFlags := 26, nameIndex := 48, descriptorIndex := 25, attributes := #[] }, { accessFlags := 25, nameIndex := 277, descriptorIndex := 25, attributes := #[] }, { accessFlags := 25, nameIndex := 280, descriptorIndex := 25, attributes := #[] }, { accessFlags := 25, nameIndex := 282, descriptorIndex := 25, attributes := #[] }, { accessFlags := 25, nameIndex := 284, descriptorIndex := 25, attributes := #[] }, { accessFlags := 25, nameIndex := 286, descriptorIndex := 25, attributes := #[] }, { accessFlags := 25, nameIndex := 288, descriptorIndex := 25, attributes := #[] }, { accessFlags := 25, nameIndex := 290, descriptorIndex := 25, attributes := #[] }, { accessFlags := 25, nameIndex := 292, descriptorIndex := 25, attributes := #[] }, { accessFlags := 26, nameIndex := 108, descriptorIndex := 109, attributes := #[] }, { accessFlags := 25, nameIndex := 294, descriptorIndex := 25, attributes := #[] }])
  fields := #[{ name := "U", type := (.object "jdk/internal/misc/Unsafe"), accessFlags := 24, slot := 0, constantValue := 0 }, { name := "BIG_ENDIAN", type := .boolean, accessFlags := 26, slot := 1, constantValue := 0 }, { name := "LOG2_ARRAY_BOOLEAN_INDEX_SCALE", type := .int, accessFlags := 25, slot := 2, constantValue := 0 }, { name := "LOG2_ARRAY_BYTE_INDEX_SCALE", type := .int, accessFlags := 25, slot := 3, constantValue := 0 }, { name := "LOG2_ARRAY_CHAR_INDEX_SCALE", type := .int, accessFlags := 25, slot := 4, constantValue := 0 }, { name := "LOG2_ARRAY_SHORT_INDEX_SCALE", type := .int, accessFlags := 25, slot := 5, constantValue := 0 }, { name := "LOG2_ARRAY_INT_INDEX_SCALE", type := .int, accessFlags := 25, slot := 6, constantValue := 0 }, { name := "LOG2_ARRAY_LONG_INDEX_SCALE", type := .int, accessFlags := 25, slot := 7, constantValue := 0 }, { name := "LOG2_ARRAY_FLOAT_INDEX_SCALE", type := .int, accessFlags := 25, slot := 8, constantValue := 0 }, { name := "LOG2_ARRAY_DOUBLE_INDEX_SCALE", type := .int, accessFlags := 25, slot := 9, constantValue := 0 }, { name := "LOG2_BYTE_BIT_SIZE", type := .int, accessFlags := 26, slot := 10, constantValue := 0 }, { name := "T_BOOLEAN", type := .int, accessFlags := 25, slot := 11, constantValue := 0 }, { name := "T_CHAR", type := .int, accessFlags := 25, slot := 12, constantValue := 0 }, { name := "T_FLOAT", type := .int, accessFlags := 25, slot := 13, constantValue := 0 }, { name := "T_DOUBLE", type := .int, accessFlags := 25, slot := 14, constantValue := 0 }, { name := "T_BYTE", type := .int, accessFlags := 25, slot := 15, constantValue := 0 }, { name := "T_SHORT", type := .int, accessFlags := 25, slot := 16, constantValue := 0 }, { name := "T_INT", type := .int, accessFlags := 25, slot := 17, constantValue := 0 }, { name := "T_LONG", type := .int, accessFlags := 25, slot := 18, constantValue := 0 }, { name := "JLA", type := (.object "jdk/internal/access/JavaLangAccess"), accessFlags := 26, slot := 19, constantValue := 0 }, { name := "SOFT_MAX_ARRAY_LENGTH", type := .int, accessFlags := 25, slot := 20, constantValue := 0 }]
  methods := #[k16m0]
  instanceTypes := #[]
  staticTypes := #[(.object "jdk/internal/misc/Unsafe"), .boolean, .int, .int, .int, .int, .int, .int, .int, .int, .int, .int, .int, .int, .int, .int, .int, .int, .int, (.object "jdk/internal/access/JavaLangAccess"), .int]
  resolved := Array.replicate 378 none
  statics := none }

/-- the primitive byte -/
def k17 : Class := { plain "byte" none with kind := .primitive 'B', accessFlags := 0x411 }
/-- [B -/
def k18 : Class := { plain "[B" (some 0) with kind := .array 17 .byte, interfaces := #[12, 2], accessFlags := 1041 }

/-- the primitive int -/
def k19 : Class := { plain "int" none with kind := .primitive 'I', accessFlags := 0x411 }
/-- [I -/
def k20 : Class := { plain "[I" (some 0) with kind := .array 19 .int, interfaces := #[12, 2], accessFlags := 1041 }

def classes0 : Array Class := #[k0, k1, k2, k3, k4, k5, k6, k7, k8, k9, k10, k11, k12, k13, k14, k15, k16, k17, k18, k19, k20]
/-- the class that the rule has made for the site at 35 of com/example/nudo/nudo/core/metrics/VehicleStatistics.vehicleStep -/
def k21 : Class := Jvm.LamKit.madeRec { classes := classes0 } "com/example/nudo/nudo/core/metrics/VehicleStatistics" (Jvm.Lambda.Shape.mk "java/util/function/BiFunction" "apply" (Jvm.ClassFile.MethodDescriptor.mk ([(Jvm.ClassFile.FieldType.object "java/lang/Object"), (Jvm.ClassFile.FieldType.object "java/lang/Object")] : List Jvm.ClassFile.FieldType) (Option.some (Jvm.ClassFile.FieldType.object "java/lang/Object"))) ([Jvm.ClassFile.FieldType.long] : List Jvm.ClassFile.FieldType) (6 : Nat) "com/example/nudo/nudo/core/metrics/VehicleStatistics" "lambda$vehicleStep$1" (Jvm.ClassFile.MethodDescriptor.mk ([Jvm.ClassFile.FieldType.long, (Jvm.ClassFile.FieldType.object "java/lang/String"), (Jvm.ClassFile.FieldType.object "java/lang/Long")] : List Jvm.ClassFile.FieldType) (Option.some (Jvm.ClassFile.FieldType.object "java/lang/Long"))) false (Jvm.ClassFile.MethodDescriptor.mk ([(Jvm.ClassFile.FieldType.object "java/lang/String"), (Jvm.ClassFile.FieldType.object "java/lang/Long")] : List Jvm.ClassFile.FieldType) (Option.some (Jvm.ClassFile.FieldType.object "java/lang/Long")))) 21

/-- the class that the rule has made for the site at 34 of com/example/nudo/nudo/core/metrics/VehicleStatistics.restart -/
def k22 : Class := Jvm.LamKit.madeRec { classes := classes0 } "com/example/nudo/nudo/core/metrics/VehicleStatistics" (Jvm.Lambda.Shape.mk "java/util/function/BiFunction" "apply" (Jvm.ClassFile.MethodDescriptor.mk ([(Jvm.ClassFile.FieldType.object "java/lang/Object"), (Jvm.ClassFile.FieldType.object "java/lang/Object")] : List Jvm.ClassFile.FieldType) (Option.some (Jvm.ClassFile.FieldType.object "java/lang/Object"))) ([] : List Jvm.ClassFile.FieldType) (6 : Nat) "com/example/nudo/nudo/core/metrics/VehicleStatistics" "lambda$restart$0" (Jvm.ClassFile.MethodDescriptor.mk ([(Jvm.ClassFile.FieldType.object "java/lang/String"), (Jvm.ClassFile.FieldType.object "java/lang/Long")] : List Jvm.ClassFile.FieldType) (Option.some (Jvm.ClassFile.FieldType.object "java/lang/Long"))) false (Jvm.ClassFile.MethodDescriptor.mk ([(Jvm.ClassFile.FieldType.object "java/lang/String"), (Jvm.ClassFile.FieldType.object "java/lang/Long")] : List Jvm.ClassFile.FieldType) (Option.some (Jvm.ClassFile.FieldType.object "java/lang/Long")))) 22

def heap : Heap := #[{ cls := 7, slots := #[.long 0, .int 1, .null, .int 0, .null, .int 0, .int 0], vm := .statics 7 },
  { cls := 15, slots := #[.null, .null, .null], vm := .statics 15 },
  { cls := 22, slots := #[], vm := .none }]
def classes : Array Class := #[k0, k1, k2, k3, k4, k5, k6, k7, k8, k9, k10, k11, k12, k13, k14, k15, k16, k17, k18, k19, k20, k21, k22]
def interned : List (Array UInt16 × Addr) := []
def slotsUsed : Nat := 10
def theMethod : MethodId := ⟨1, 1⟩
def args0 : Array Value := #[.int 5, .int 7, .int 9, .int 11, .int 13, .long 3]
def aboutOver (below : List Frame) : State where
  vm := { classes := classes, interned := interned.toArray }
  heap := heap
  slotsUsed := slotsUsed
  threads := #[{ frames := .invoking theMethod args0 :: below }]
def below0 : List Frame := [.native { method := ⟨0, 0⟩, args := #[] }]
def about1 : State := aboutOver below0
def p0 : Program := .bare "" "" ""
def e0 : Env := launch0.env 0 0 0
theorem w_frames : about1.frames = Frame.invoking theMethod args0 :: below0 := rfl
set_option maxRecDepth 65536 in
theorem w_args : argsFit about1.vm theMethod args0 = true := by decide +kernel
set_option maxRecDepth 65536 in
theorem w_heap : heapFits about1 = true := by decide +kernel
set_option maxRecDepth 65536 in
theorem w_runnable : about1.curStatus? = some .runnable := by decide +kernel
set_option maxRecDepth 65536 in
theorem w_alone : about1.alone = true := by decide +kernel
set_option maxRecDepth 65536 in
theorem w_named : about1.methodNamed? x = some theMethod := by decide +kernel
set_option maxRecDepth 65536 in
theorem w_hears : about1.hears theMethod below0 = true := by decide +kernel
set_option maxRecDepth 65536 in
theorem w_ripe : about1.ripe theMethod args0 below0 = true := by decide +kernel
theorem w_running : about1.status = .running := rfl
set_option maxRecDepth 65536 in
theorem w_room : about1.hasRoom e0.platform room_1 = true :=
  launch0.hasRoom_least _ room_1 (by decide +kernel) (by decide +kernel) (by decide +kernel) (by decide +kernel) (by decide +kernel) (by decide +kernel)
theorem allAtoms_all (ts : List Jvm.Cond) (a : Array Jvm.Value) (st : Jvm.State) : (allAtoms ts).before a st = ts.all (fun c => c.before a st) := by
  induction ts with
  | nil => rfl
  | cons c t ih =>
    show (Jvm.Cond.and c (allAtoms t)).before a st = _
    rw [Jvm.Cond.before_and, ih, List.all_cons]
def words1 : List Jvm.Cond := Jvm.Cond.code x code maxLocals ret :: tables_1
/-- a 'code' word, met by the world's own term for the bytes: nothing is compared byte by byte -/
theorem code_word {y : MethodName} {bytes : ByteArray} {mx : Nat} {rt : Option FieldType} {a : Array Value} {s : State} {m : MethodId} {meth : Method} {c : Code} (h1 : s.methodNamed? y = some m) (h2 : s.vm.method? m = some meth) (h3 : meth.code = some c) (h4 : c.code = bytes)
    (h5 : (c.maxLocals == mx && c.exceptionTable.isEmpty && decide (c.maxStack ≤ mostOperands) && decide (meth.sig.returnType = rt) && !meth.locks && decide (parseMethodDescriptor y.desc = some meth.sig)) = true) : (Jvm.Cond.code y bytes mx rt).before a s = true := by
  simp only [Bool.and_eq_true, beq_iff_eq, Bool.not_eq_true', decide_eq_true_eq] at h5
  obtain ⟨⟨⟨⟨⟨g1, g2⟩, g3⟩, g4⟩, g5⟩, g6⟩ := h5
  simp [Cond.before, Cond.holds, Cond.value, h1, h2, h3, h4, g1, g2, g3, g4, g5, g6]
def isCode : Jvm.Cond → Bool
  | .code _ _ _ _ => true
  | _ => false
theorem all_split {L : List Jvm.Cond} {P : Jvm.Cond → Bool} (h1 : L.all (fun c => isCode c || P c) = true) (h2 : ∀ c ∈ L.filter isCode, P c = true) : L.all P = true := by
  refine List.all_eq_true.mpr fun c hc => ?_
  have h := List.all_eq_true.mp h1 c hc
  rcases Bool.eq_false_or_eq_true (isCode c) with hi | hi
  · exact h2 c (List.mem_filter.mpr ⟨hc, hi⟩)
  · simpa [hi] using h
set_option maxRecDepth 65536 in
theorem w_c0 : (Jvm.Cond.code x code maxLocals ret).before args0 about1 = true := code_word (m := ⟨1, 1⟩) (meth := k1m1) (c := k1c1) (by decide +kernel) rfl rfl rfl (by decide +kernel)
set_option maxRecDepth 65536 in
theorem w_c1 : (Jvm.Cond.code ({ cls := "java/lang/String", name := "valueOf", desc := "(C)Ljava/lang/String;" } : Jvm.MethodName) jdk_42_method_139_code (1 : Nat) (Option.some (Jvm.ClassFile.FieldType.object "java/lang/String"))).before args0 about1 = true := code_word (m := ⟨7, 1⟩) (meth := k7m1) (c := k7c1) (by decide +kernel) rfl rfl rfl (by decide +kernel)
set_option maxRecDepth 65536 in
theorem w_c2 : (Jvm.Cond.code ({ cls := "java/lang/StringLatin1", name := "canEncode", desc := "(C)Z" } : Jvm.MethodName) jdk_43_method_3_code (1 : Nat) (Option.some Jvm.ClassFile.FieldType.boolean)).before args0 about1 = true := code_word (m := ⟨8, 1⟩) (meth := k8m1) (c := k8c1) (by decide +kernel) rfl rfl rfl (by decide +kernel)
set_option maxRecDepth 65536 in
theorem w_c3 : (Jvm.Cond.code ({ cls := "java/lang/StringLatin1", name := "toBytes", desc := "(C)[B" } : Jvm.MethodName) jdk_43_method_46_code (1 : Nat) (Option.some (Jvm.ClassFile.FieldType.array Jvm.ClassFile.FieldType.byte))).before args0 about1 = true := code_word (m := ⟨8, 2⟩) (meth := k8m2) (c := k8c2) (by decide +kernel) rfl rfl rfl (by decide +kernel)
set_option maxRecDepth 65536 in
theorem w_c4 : (Jvm.Cond.code ({ cls := "java/lang/String", name := "<init>", desc := "([BB)V" } : Jvm.MethodName) jdk_42_method_151_code (3 : Nat) (Option.none : Option Jvm.ClassFile.FieldType)).before args0 about1 = true := code_word (m := ⟨7, 2⟩) (meth := k7m2) (c := k7c2) (by decide +kernel) rfl rfl rfl (by decide +kernel)
set_option maxRecDepth 65536 in
theorem w_c5 : (Jvm.Cond.code ({ cls := "java/lang/Object", name := "<init>", desc := "()V" } : Jvm.MethodName) object_method_1_code (1 : Nat) (Option.none : Option Jvm.ClassFile.FieldType)).before args0 about1 = true := code_word (m := ⟨0, 0⟩) (meth := k0m0) (c := k0c0) (by decide +kernel) rfl rfl rfl (by decide +kernel)
set_option maxRecDepth 65536 in
theorem w_c6 : (Jvm.Cond.code ({ cls := "com/example/nudo/nudo/core/metrics/VehicleStatistics", name := "<init>", desc := "()V" } : Jvm.MethodName) prog_37_method_1_code (1 : Nat) (Option.none : Option Jvm.ClassFile.FieldType)).before args0 about1 = true := code_word (m := ⟨9, 0⟩) (meth := k9m0) (c := k9c0) (by decide +kernel) rfl rfl rfl (by decide +kernel)
set_option maxRecDepth 65536 in
theorem w_c7 : (Jvm.Cond.code ({ cls := "java/util/HashMap", name := "<init>", desc := "()V" } : Jvm.MethodName) jdk_69_method_7_code (1 : Nat) (Option.none : Option Jvm.ClassFile.FieldType)).before args0 about1 = true := code_word (m := ⟨13, 0⟩) (meth := k13m0) (c := k13c0) (by decide +kernel) rfl rfl rfl (by decide +kernel)
set_option maxRecDepth 65536 in
theorem w_c8 : (Jvm.Cond.code ({ cls := "java/util/AbstractMap", name := "<init>", desc := "()V" } : Jvm.MethodName) jdk_71_method_1_code (1 : Nat) (Option.none : Option Jvm.ClassFile.FieldType)).before args0 about1 = true := code_word (m := ⟨11, 0⟩) (meth := k11m0) (c := k11c0) (by decide +kernel) rfl rfl rfl (by decide +kernel)
set_option maxRecDepth 65536 in
theorem w_c9 : (Jvm.Cond.code ({ cls := "com/example/nudo/nudo/core/metrics/VehicleStatistics", name := "vehicleStep", desc := "(Ljava/lang/String;DJ)V" } : Jvm.MethodName) prog_37_method_6_code (6 : Nat) (Option.none : Option Jvm.ClassFile.FieldType)).before args0 about1 = true := code_word (m := ⟨9, 2⟩) (meth := k9m2) (c := k9c2) (by decide +kernel) rfl rfl rfl (by decide +kernel)
set_option maxRecDepth 65536 in
theorem w_c10 : (Jvm.Cond.code ({ cls := "java/util/HashMap", name := "computeIfPresent", desc := "(Ljava/lang/Object;Ljava/util/function/BiFunction;)Ljava/lang/Object;" } : Jvm.MethodName) jdk_69_method_36_code (8 : Nat) (Option.some (Jvm.ClassFile.FieldType.object "java/lang/Object"))).before args0 about1 = true := code_word (m := ⟨13, 2⟩) (meth := k13m2) (c := k13c2) (by decide +kernel) rfl rfl rfl (by decide +kernel)
set_option maxRecDepth 65536 in
theorem w_c11 : (Jvm.Cond.code ({ cls := "java/util/HashMap", name := "getNode", desc := "(Ljava/lang/Object;)Ljava/util/HashMap$Node;" } : Jvm.MethodName) jdk_69_method_13_code (8 : Nat) (Option.some (Jvm.ClassFile.FieldType.object "java/util/HashMap$Node"))).before args0 about1 = true := code_word (m := ⟨13, 1⟩) (meth := k13m1) (c := k13c1) (by decide +kernel) rfl rfl rfl (by decide +kernel)
set_option maxRecDepth 65536 in
theorem w_c12 : (Jvm.Cond.code ({ cls := "com/example/nudo/nudo/core/metrics/VehicleStatistics", name := "getMeanSpeed", desc := "()D" } : Jvm.MethodName) prog_37_method_13_code (1 : Nat) (Option.some Jvm.ClassFile.FieldType.double)).before args0 about1 = true := code_word (m := ⟨9, 4⟩) (meth := k9m4) (c := k9c4) (by decide +kernel) rfl rfl rfl (by decide +kernel)
set_option maxRecDepth 65536 in
theorem w_c13 : (Jvm.Cond.code ({ cls := "com/example/nudo/nudo/core/metrics/VehicleStatistics", name := "getVehicleSteps", desc := "()J" } : Jvm.MethodName) prog_37_method_11_code (1 : Nat) (Option.some Jvm.ClassFile.FieldType.long)).before args0 about1 = true := code_word (m := ⟨9, 3⟩) (meth := k9m3) (c := k9c3) (by decide +kernel) rfl rfl rfl (by decide +kernel)
set_option maxRecDepth 65536 in
theorem w_c14 : (Jvm.Cond.code ({ cls := "com/example/nudo/nudo/core/metrics/VehicleStatistics", name := "restart", desc := "()V" } : Jvm.MethodName) prog_37_method_4_code (1 : Nat) (Option.none : Option Jvm.ClassFile.FieldType)).before args0 about1 = true := code_word (m := ⟨9, 1⟩) (meth := k9m1) (c := k9c1) (by decide +kernel) rfl rfl rfl (by decide +kernel)
set_option maxRecDepth 65536 in
theorem w_c15 : (Jvm.Cond.code ({ cls := "java/util/HashMap", name := "replaceAll", desc := "(Ljava/util/function/BiFunction;)V" } : Jvm.MethodName) jdk_69_method_40_code (8 : Nat) (Option.none : Option Jvm.ClassFile.FieldType)).before args0 about1 = true := code_word (m := ⟨13, 3⟩) (meth := k13m3) (c := k13c3) (by decide +kernel) rfl rfl rfl (by decide +kernel)
def codes1 : List Jvm.Cond := [Jvm.Cond.code x code maxLocals ret, Jvm.Cond.code ({ cls := "java/lang/String", name := "valueOf", desc := "(C)Ljava/lang/String;" } : Jvm.MethodName) jdk_42_method_139_code (1 : Nat) (Option.some (Jvm.ClassFile.FieldType.object "java/lang/String")), Jvm.Cond.code ({ cls := "java/lang/StringLatin1", name := "canEncode", desc := "(C)Z" } : Jvm.MethodName) jdk_43_method_3_code (1 : Nat) (Option.some Jvm.ClassFile.FieldType.boolean), Jvm.Cond.code ({ cls := "java/lang/StringLatin1", name := "toBytes", desc := "(C)[B" } : Jvm.MethodName) jdk_43_method_46_code (1 : Nat) (Option.some (Jvm.ClassFile.FieldType.array Jvm.ClassFile.FieldType.byte)), Jvm.Cond.code ({ cls := "java/lang/String", name := "<init>", desc := "([BB)V" } : Jvm.MethodName) jdk_42_method_151_code (3 : Nat) (Option.none : Option Jvm.ClassFile.FieldType), Jvm.Cond.code ({ cls := "java/lang/Object", name := "<init>", desc := "()V" } : Jvm.MethodName) object_method_1_code (1 : Nat) (Option.none : Option Jvm.ClassFile.FieldType), Jvm.Cond.code ({ cls := "com/example/nudo/nudo/core/metrics/VehicleStatistics", name := "<init>", desc := "()V" } : Jvm.MethodName) prog_37_method_1_code (1 : Nat) (Option.none : Option Jvm.ClassFile.FieldType), Jvm.Cond.code ({ cls := "java/util/HashMap", name := "<init>", desc := "()V" } : Jvm.MethodName) jdk_69_method_7_code (1 : Nat) (Option.none : Option Jvm.ClassFile.FieldType), Jvm.Cond.code ({ cls := "java/util/AbstractMap", name := "<init>", desc := "()V" } : Jvm.MethodName) jdk_71_method_1_code (1 : Nat) (Option.none : Option Jvm.ClassFile.FieldType), Jvm.Cond.code ({ cls := "com/example/nudo/nudo/core/metrics/VehicleStatistics", name := "vehicleStep", desc := "(Ljava/lang/String;DJ)V" } : Jvm.MethodName) prog_37_method_6_code (6 : Nat) (Option.none : Option Jvm.ClassFile.FieldType), Jvm.Cond.code ({ cls := "java/util/HashMap", name := "computeIfPresent", desc := "(Ljava/lang/Object;Ljava/util/function/BiFunction;)Ljava/lang/Object;" } : Jvm.MethodName) jdk_69_method_36_code (8 : Nat) (Option.some (Jvm.ClassFile.FieldType.object "java/lang/Object")), Jvm.Cond.code ({ cls := "java/util/HashMap", name := "getNode", desc := "(Ljava/lang/Object;)Ljava/util/HashMap$Node;" } : Jvm.MethodName) jdk_69_method_13_code (8 : Nat) (Option.some (Jvm.ClassFile.FieldType.object "java/util/HashMap$Node")), Jvm.Cond.code ({ cls := "com/example/nudo/nudo/core/metrics/VehicleStatistics", name := "getMeanSpeed", desc := "()D" } : Jvm.MethodName) prog_37_method_13_code (1 : Nat) (Option.some Jvm.ClassFile.FieldType.double), Jvm.Cond.code ({ cls := "com/example/nudo/nudo/core/metrics/VehicleStatistics", name := "getVehicleSteps", desc := "()J" } : Jvm.MethodName) prog_37_method_11_code (1 : Nat) (Option.some Jvm.ClassFile.FieldType.long), Jvm.Cond.code ({ cls := "com/example/nudo/nudo/core/metrics/VehicleStatistics", name := "restart", desc := "()V" } : Jvm.MethodName) prog_37_method_4_code (1 : Nat) (Option.none : Option Jvm.ClassFile.FieldType), Jvm.Cond.code ({ cls := "java/util/HashMap", name := "replaceAll", desc := "(Ljava/util/function/BiFunction;)V" } : Jvm.MethodName) jdk_69_method_40_code (8 : Nat) (Option.none : Option Jvm.ClassFile.FieldType)]
set_option maxRecDepth 65536 in
theorem codes_eq : words1.filter isCode = codes1 := rfl
theorem w_codes : ∀ c ∈ words1.filter isCode, c.before args0 about1 = true := by
  rw [codes_eq]
  intro c hc
  simp only [codes1, List.mem_cons, List.not_mem_nil, or_false] at hc
  rcases hc with rfl | rfl | rfl | rfl | rfl | rfl | rfl | rfl | rfl | rfl | rfl | rfl | rfl | rfl | rfl | rfl
  · exact w_c0
  · exact w_c1
  · exact w_c2
  · exact w_c3
  · exact w_c4
  · exact w_c5
  · exact w_c6
  · exact w_c7
  · exact w_c8
  · exact w_c9
  · exact w_c10
  · exact w_c11
  · exact w_c12
  · exact w_c13
  · exact w_c14
  · exact w_c15
set_option maxRecDepth 65536 in
theorem w_t1 : (words1.take 24).all (fun c => isCode c || c.before args0 about1) = true := by decide +kernel
set_option maxRecDepth 65536 in
theorem w_t2 : ((words1.drop 24).take 24).all (fun c => isCode c || c.before args0 about1) = true := by decide +kernel
set_option maxRecDepth 65536 in
theorem w_t3 : (((words1.drop 24).drop 24).take 24).all (fun c => isCode c || c.before args0 about1) = true := by decide +kernel
set_option maxRecDepth 65536 in
theorem w_t4 : ((((words1.drop 24).drop 24).drop 24).take 24).all (fun c => isCode c || c.before args0 about1) = true := by decide +kernel
set_option maxRecDepth 65536 in
theorem w_t5 : ((((words1.drop 24).drop 24).drop 24).drop 24).all (fun c => isCode c || c.before args0 about1) = true := by decide +kernel
theorem w_tables : (allAtoms (Jvm.Cond.code x code maxLocals ret :: tables_1)).before args0 about1 = true := by
  rw [allAtoms_all]
  show words1.all (fun c => c.before args0 about1) = true
  refine all_split ?_ w_codes
  rw [← List.take_append_drop 24 words1, List.all_append, w_t1, ← List.take_append_drop 24 (words1.drop 24), List.all_append, w_t2, ← List.take_append_drop 24 ((words1.drop 24).drop 24), List.all_append, w_t3, ← List.take_append_drop 24 (((words1.drop 24).drop 24).drop 24), List.all_append, w_t4, w_t5]
  rfl
set_option maxRecDepth 65536 in
theorem w_rest : rest_1_c.before args0 about1 = true := by decide +kernel
set_option maxRecDepth 65536 in
theorem w_case : (Jvm.Cond.and given_1 narrow_1).before args0 about1 = true := by decide +kernel
theorem w_applies : (headSpec (Jvm.Cond.code x code maxLocals ret :: tables_1) room_1).applies x e0.platform about1 = true :=
  (Spec.applies_iff w_frames).mpr ⟨w_running, w_runnable, w_alone, w_named, w_hears, w_ripe, w_room, w_tables⟩
theorem atStart : AtStart classFile x code maxLocals ret World_1 tables_1 room_1 Calls_1 rest_1 Pre_1 launch0 p0 e0 about1 theMethod args0 below0 :=
  ⟨lists_1, trivial, launch0.admits_env _ _ _, launch0.least_env, fairChoices_fair.cas, fairChoices_fair.clock, w_frames, w_args, w_heap, w_applies, trivial, w_rest, w_case⟩
end start1
theorem witness_1 : WitnessClaimed_1 := ⟨start1.p0, start1.e0, start1.about1, start1.theMethod, start1.args0, start1.below0, start1.atStart⟩
end Jvm.Pilot.@@N@@
