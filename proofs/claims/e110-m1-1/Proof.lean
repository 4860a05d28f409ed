import JvmDerived
import JvmDerived.Pilot.@@N@@Statement
import JvmDerived.Pilot.@@N@@Code
set_option linter.unusedVariables false
set_option linter.unusedSimpArgs false
@@BLOCK:NumsL.lean.txt@@
namespace Jvm.Pilot.@@N@@
open Jvm Jvm.ClassFile Sem Op Lib Jvm.Free Jvm.Stand Jvm.LawKit Jvm.RoadKit Bundle Jvm.Pilot.@@N@@.Jvm.D
section OwnFP
open Jvm.FP.Core
/-- the datum is i * 2^k -/
def OwnSc (k i : Int) : Datum → Prop
  | .fin s c q => Whole i (.fin s c (q - k))
  | _ => False
/-- the double is i * 2^k -/
def OwnDS (k i : Int) (a : UInt64) : Prop := OwnSc k i (val64 a)

theorem own_sc_fin {k i : Int} {d : Datum} (h : OwnSc k i d) : ∃ s c q, d = .fin s c q ∧ Whole i (.fin s c (q - k)) := by
  cases d with
  | nan => exact h.elim
  | inf => exact h.elim
  | fin s c q => exact ⟨s, c, q, rfl, h⟩

theorem own_ds_int {i : Int} {a : UInt64} (h : DInt i a) : OwnDS 0 i a := by
  have h' : Whole i (val64 a) := h
  show OwnSc 0 i (val64 a)
  cases hv : val64 a with
  | nan => rw [hv] at h'; exact h'.elim
  | inf => rw [hv] at h'; exact h'.elim
  | fin s c q => rw [hv] at h'; show Whole i (.fin s c (q - 0)); rw [Int.sub_zero]; exact h'

theorem own_int_ds {i : Int} {a : UInt64} (h : OwnDS 0 i a) : DInt i a := by
  obtain ⟨s, c, q, hv, h'⟩ := own_sc_fin h
  show Whole i (val64 a)
  rw [hv]; rw [Int.sub_zero] at h'; exact h'

theorem own_ds_ne_nan {k i : Int} {a : UInt64} (h : OwnDS k i a) : val64 a ≠ .nan := by
  obtain ⟨s, c, q, hv, -⟩ := own_sc_fin h
  rw [hv]; exact Datum.noConfusion

/-- the numbers i * 2^k with |i| < 2^n are doubles where n ≤ 53, n + k ≤ 1024, -1022 ≤ k -/
theorem own_fitAt (s : Bool) {n m : Nat} {k : Int} (hm : m < 2 ^ n) (hn : n ≤ 53) (h1 : (n : Int) + k ≤ 1024) (h2 : -1022 ≤ k) :
    ∃ c q, Jvm.FP.Core.fits b64 (.fin s c q) ∧ m * 2 ^ (k - q).toNat = c * 1 * 2 ^ (q - k).toNat := by
  have hq1 : b64.qmin = -1074 := by decide
  have hq2 : b64.qmax = 971 := by decide
  by_cases h0 : m = 0
  · subst h0
    exact ⟨0, b64.qmin, zero_fits good_b64 s, by simp⟩
  · have l1 : 2 ^ m.log2 ≤ m := Nat.log2_self_le h0
    have l2 : m < 2 ^ (m.log2 + 1) := Nat.lt_log2_self
    have l3 : m.log2 < n := (Nat.pow_lt_pow_iff_right (by decide : 1 < 2)).mp (Nat.lt_of_le_of_lt l1 hm)
    generalize m.log2 = L at l1 l2 l3
    refine ⟨m * 2 ^ (52 - L), (L : Int) - 52 + k, ⟨?_, by omega, by omega, .inr ?_⟩, ?_⟩
    · calc m * 2 ^ (52 - L) < 2 ^ (L + 1) * 2 ^ (52 - L) := Nat.mul_lt_mul_of_pos_right l2 (Nat.two_pow_pos _)
        _ = 2 ^ b64.p := by rw [← Nat.pow_add]; congr 1; show L + 1 + (52 - L) = 53; omega
    · calc b64.tails = 2 ^ L * 2 ^ (52 - L) := by rw [← Nat.pow_add]; show 2 ^ 52 = _; congr 1; omega
        _ ≤ m * 2 ^ (52 - L) := Nat.mul_le_mul_right _ l1
    · rw [show (k - ((L : Int) - 52 + k)).toNat = 52 - L by omega, show ((L : Int) - 52 + k - k).toNat = 0 by omega]
      simp

theorem own_signed_of {i : Int} {s : Bool} {c : Nat} {q : Int} (h : Whole i (.fin s c q)) : signed s i.natAbs = i := by
  by_cases hi : i = 0
  · rw [hi]; exact signed_zero s
  · rw [whole_sign h hi]
    by_cases h : i < 0
    · rw [decide_eq_true h]; show -(i.natAbs : Int) = i; omega
    · rw [decide_eq_false h]; show (i.natAbs : Int) = i; omega

/-- what roundRatio makes of a ratio that is m * 2^k, m < 2^n -/
theorem own_rr {s : Bool} {A B m n : Nat} {e k i : Int} (hB : 0 < B) (hv : A * 2 ^ (e - k).toNat = m * B * 2 ^ (k - e).toNat)
    (hm : m < 2 ^ n) (hn : n ≤ 53) (h1 : (n : Int) + k ≤ 1024) (h2 : -1022 ≤ k) (hi : signed s m = i) : OwnSc k i (roundRatio b64 s A B e) := by
  obtain ⟨c', q', hfit, hv'⟩ := own_fitAt s hm hn h1 h2
  rw [roundRatio_congr (A' := m) (B' := 1) (e' := k) hB (by decide) (by simpa using hv), roundRatio_exact good_b64 (by decide) hfit hv']
  show signed s (c' * 2 ^ (q' - k).toNat) = i * ((2 ^ (-(q' - k)).toNat : Nat) : Int)
  rw [show (-(q' - k)).toNat = (k - q').toNat by omega, ← hi, ← signed_mul, hv', Nat.mul_one]

theorem own_sc_round {n : Nat} {k i : Int} {d : Datum} (h : OwnSc k i d) (hi : i.natAbs < 2 ^ n) (hn : n ≤ 53) (h1 : (n : Int) + k ≤ 1024) (h2 : -1022 ≤ k) : OwnSc k i (round b64 d) := by
  obtain ⟨s, c, q, rfl, hw⟩ := own_sc_fin h
  refine own_rr (m := i.natAbs) (n := n) (by decide) ?_ hi hn h1 h2 (own_signed_of hw)
  have q1 := whole_natAbs hw
  rw [show (-(q - k)).toNat = (k - q).toNat by omega] at q1
  simpa using q1

theorem own_shift_sum (s : Bool) (c : Nat) (q : Int) (t : Bool) (d : Nat) (r k : Int) :
    ∃ u f w, exactSum (.fin s c q) (.fin t d r) = .fin u f w ∧ exactSum (.fin s c (q - k)) (.fin t d (r - k)) = .fin u f (w - k) := by
  refine ⟨_, _, _, rfl, ?_⟩
  have hmin : min (q - k) (r - k) = min q r - k := by omega
  have hu : sumUnits s c (q - k) t d (r - k) (min (q - k) (r - k)) = sumUnits s c q t d r (min q r) := by
    show signed s (c * 2 ^ (q - k - min (q - k) (r - k)).toNat) + signed t (d * 2 ^ (r - k - min (q - k) (r - k)).toNat) = signed s (c * 2 ^ (q - min q r).toNat) + signed t (d * 2 ^ (r - min q r).toNat)
    rw [hmin, show q - k - (min q r - k) = q - min q r by omega, show r - k - (min q r - k) = r - min q r by omega]
  show Datum.fin (sumSign s t (sumUnits s c (q - k) t d (r - k) (min (q - k) (r - k)))) (sumUnits s c (q - k) t d (r - k) (min (q - k) (r - k))).natAbs (min (q - k) (r - k)) = _
  rw [hu, hmin]

theorem own_sc_sum {k i j : Int} {x y : Datum} (hx : OwnSc k i x) (hy : OwnSc k j y) : OwnSc k (i + j) (exactSum x y) := by
  obtain ⟨s, c, q, rfl, h1⟩ := own_sc_fin hx
  obtain ⟨t, d, r, rfl, h2⟩ := own_sc_fin hy
  obtain ⟨u, f, w, e1, e2⟩ := own_shift_sum s c q t d r k
  have h3 := whole_sum h1 h2
  rw [e2] at h3
  rw [e1]; exact h3

theorem own_sc_neg {k i : Int} {x : Datum} (hx : OwnSc k i x) : OwnSc k (-i) (negate x) := by
  obtain ⟨s, c, q, rfl, h1⟩ := own_sc_fin hx
  exact whole_negate h1

theorem own_sc_mul {k l i j : Int} {x y : Datum} (hx : OwnSc k i x) (hy : OwnSc l j y) : OwnSc (k + l) (i * j) (exactProduct x y) := by
  obtain ⟨s, c, q, rfl, h1⟩ := own_sc_fin hx
  obtain ⟨t, d, r, rfl, h2⟩ := own_sc_fin hy
  have h3 : Whole (i * j) (.fin (s != t) (c * d) (q - k + (r - l))) := whole_product h1 h2
  show Whole (i * j) (.fin (s != t) (c * d) (q + r - (k + l)))
  rw [show q + r - (k + l) = q - k + (r - l) by omega]; exact h3

theorem own_ds_add {n : Nat} {k i j : Int} {a b : UInt64} (ha : OwnDS k i a) (hb : OwnDS k j b) (h : (i + j).natAbs < 2 ^ n) (hn : n ≤ 53 := by decide) (h1 : (n : Int) + k ≤ 1024 := by decide) (h2 : -1022 ≤ k := by decide) : OwnDS k (i + j) (dadd a b) := by
  show OwnSc _ _ _
  rw [val64_dadd]; exact own_sc_round (own_sc_sum ha hb) h hn h1 h2
theorem own_ds_sub {n : Nat} {k i j : Int} {a b : UInt64} (ha : OwnDS k i a) (hb : OwnDS k j b) (h : (i - j).natAbs < 2 ^ n) (hn : n ≤ 53 := by decide) (h1 : (n : Int) + k ≤ 1024 := by decide) (h2 : -1022 ≤ k := by decide) : OwnDS k (i - j) (dsub a b) := by
  show OwnSc _ _ _
  rw [val64_dsub]; exact own_sc_round (own_sc_sum ha (own_sc_neg hb)) h hn h1 h2
theorem own_ds_mul {n : Nat} {k l i j : Int} {a b : UInt64} (ha : OwnDS k i a) (hb : OwnDS l j b) (h : (i * j).natAbs < 2 ^ n) (hn : n ≤ 53 := by decide) (h1 : (n : Int) + (k + l) ≤ 1024 := by decide) (h2 : -1022 ≤ k + l := by decide) : OwnDS (k + l) (i * j) (dmul a b) := by
  show OwnSc _ _ _
  rw [val64_dmul]; exact own_sc_round (own_sc_mul ha hb) h hn h1 h2
theorem own_ds_negC {k i : Int} {a : UInt64} (ha : OwnDS k i a) : OwnDS k (-i) (dneg a) := by
  show OwnSc _ _ _
  rw [val64_dneg]; exact own_sc_neg ha

theorem own_order_shift (s : Bool) (c : Nat) (q : Int) (t : Bool) (d : Nat) (r k : Int) :
    order (.fin s c (q - k)) (.fin t d (r - k)) = order (.fin s c q) (.fin t d r) := by
  have hmin : min (q - k) (r - k) = min q r - k := by omega
  show some (compare (signed s (c * 2 ^ (q - k - min (q - k) (r - k)).toNat)) (signed t (d * 2 ^ (r - k - min (q - k) (r - k)).toNat))) = some (compare (signed s (c * 2 ^ (q - min q r).toNat)) (signed t (d * 2 ^ (r - min q r).toNat)))
  rw [hmin, show q - k - (min q r - k) = q - min q r by omega, show r - k - (min q r - k) = r - min q r by omega]

theorem own_ds_cmp {k i j : Int} {a b : UInt64} (ha : OwnDS k i a) (hb : OwnDS k j b) : dcmp a b = some (compare i j) := by
  obtain ⟨s, c, q, e1, h1⟩ := own_sc_fin ha
  obtain ⟨t, d, r, e2, h2⟩ := own_sc_fin hb
  show order (val64 a) (val64 b) = _
  rw [e1, e2, ← own_order_shift _ _ _ _ _ _ k]
  exact order_whole h1 h2

/-- the number kept, its scale moved down -/
theorem own_ds_down {k i : Int} {a : UInt64} (n : Nat) (h : OwnDS (k + n) i a) : OwnDS k (i * ((2 ^ n : Nat) : Int)) a := by
  obtain ⟨s, c, q, e1, h1⟩ := own_sc_fin h
  show OwnSc _ _ _
  rw [e1]
  have h2 : signed s (c * 2 ^ (q - (k + n)).toNat) = i * ((2 ^ (-(q - (k + n))).toNat : Nat) : Int) := h1
  show signed s (c * 2 ^ (q - k).toNat) = i * ((2 ^ n : Nat) : Int) * ((2 ^ (-(q - k)).toNat : Nat) : Int)
  have p2 : ((2 ^ (-(q - (k + n))).toNat : Nat) : Int) ≠ 0 := by
    have := Nat.two_pow_pos (-(q - (k + n))).toNat; omega
  refine Int.eq_of_mul_eq_mul_right p2 ?_
  have hx : (q - k).toNat + (-(q - (k + n))).toNat = (q - (k + n)).toNat + (n + (-(q - k)).toNat) := by omega
  rw [← signed_mul, Nat.mul_assoc, ← Nat.pow_add, hx, Nat.pow_add, ← Nat.mul_assoc, signed_mul, h2, Nat.pow_add]
  rw [Int.natCast_mul]; ac_rfl
theorem own_ds_up {k i : Int} {a : UInt64} (n : Nat) (h : OwnDS k (i * ((2 ^ n : Nat) : Int)) a) : OwnDS (k + n) i a := by
  obtain ⟨s, c, q, e1, h1⟩ := own_sc_fin h
  show OwnSc _ _ _
  rw [e1]
  have h2 : signed s (c * 2 ^ (q - k).toNat) = i * ((2 ^ n : Nat) : Int) * ((2 ^ (-(q - k)).toNat : Nat) : Int) := h1
  show signed s (c * 2 ^ (q - (k + n)).toNat) = i * ((2 ^ (-(q - (k + n))).toNat : Nat) : Int)
  have p2 : ((2 ^ (n + (-(q - k)).toNat) : Nat) : Int) ≠ 0 := by
    have := Nat.two_pow_pos (n + (-(q - k)).toNat); omega
  refine Int.eq_of_mul_eq_mul_right p2 ?_
  have hx : (q - (k + n)).toNat + (n + (-(q - k)).toNat) = (q - k).toNat + (-(q - (k + n))).toNat := by omega
  rw [← signed_mul, Nat.mul_assoc, ← Nat.pow_add, hx, Nat.pow_add, ← Nat.mul_assoc, signed_mul, h2, Nat.pow_add]
  rw [Int.natCast_mul]; ac_rfl

/-- a quotient that is whole (in its scale) is exact -/
theorem own_ds_div {n : Nat} {k l i j m : Int} {a b : UInt64} (ha : OwnDS k i a) (hb : OwnDS l j b) (hj : j ≠ 0) (hm : i = m * j) (h : m.natAbs < 2 ^ n) (hn : n ≤ 53 := by decide) (h1 : (n : Int) + (k - l) ≤ 1024 := by decide) (h2 : -1022 ≤ k - l := by decide) : OwnDS (k - l) m (ddiv a b) := by
  obtain ⟨s, c, q, e1, w1⟩ := own_sc_fin ha
  obtain ⟨t, d, r, e2, w2⟩ := own_sc_fin hb
  show OwnSc _ _ _
  rw [val64_ddiv, e1, e2]
  have hd : d ≠ 0 := fun h0 => hj ((whole_zero w2).mp h0)
  have hq : quotient b64 (.fin s c q) (.fin t d r) = roundRatio b64 (s != t) c d (q - r) := by
    show (if d = 0 then (if c = 0 then Datum.nan else .inf (s != t)) else roundRatio b64 (s != t) c d (q - r)) = _
    rw [if_neg hd]
  rw [hq]
  have q1 := whole_natAbs w1
  have q2 := whole_natAbs w2
  have hmn : i.natAbs = m.natAbs * j.natAbs := by rw [hm, Int.natAbs_mul]
  refine own_rr (m := m.natAbs) (n := n) (Nat.pos_of_ne_zero hd) ?_ h hn h1 h2 ?_
  · -- c 2^(q-k) = |m| |j| 2^(k-q), d 2^(r-l) = |j| 2^(l-r)
    have hjp : 0 < j.natAbs := Int.natAbs_pos.mpr hj
    rw [hmn] at q1
    generalize j.natAbs = J at q1 q2 hjp
    generalize m.natAbs = M at q1
    have hE : 0 < 2 ^ (-(r - l)).toNat * J * 2 ^ (-(q - k)).toNat * 2 ^ (r - l).toNat := by
      exact Nat.mul_pos (Nat.mul_pos (Nat.mul_pos (Nat.two_pow_pos _) hjp) (Nat.two_pow_pos _)) (Nat.two_pow_pos _)
    refine Nat.eq_of_mul_eq_mul_right hE ?_
    have x1 : (q - r - (k - l)).toNat + (-(q - k)).toNat + (r - l).toNat = (q - k).toNat + (-(r - l)).toNat + (k - l - (q - r)).toNat := by omega
    calc c * 2 ^ (q - r - (k - l)).toNat * (2 ^ (-(r - l)).toNat * J * 2 ^ (-(q - k)).toNat * 2 ^ (r - l).toNat)
        = c * (J * 2 ^ (-(r - l)).toNat) * 2 ^ ((q - r - (k - l)).toNat + (-(q - k)).toNat + (r - l).toNat) := by
          simp only [Nat.pow_add]; ac_rfl
      _ = c * (d * 2 ^ (r - l).toNat) * 2 ^ ((q - k).toNat + (-(r - l)).toNat + (k - l - (q - r)).toNat) := by rw [x1, ← q2]
      _ = (c * 2 ^ (q - k).toNat) * (d * 2 ^ (r - l).toNat) * 2 ^ (-(r - l)).toNat * 2 ^ (k - l - (q - r)).toNat := by
          simp only [Nat.pow_add]; ac_rfl
      _ = (M * J * 2 ^ (-(q - k)).toNat) * (d * 2 ^ (r - l).toNat) * 2 ^ (-(r - l)).toNat * 2 ^ (k - l - (q - r)).toNat := by rw [q1]
      _ = M * d * 2 ^ (k - l - (q - r)).toNat * (2 ^ (-(r - l)).toNat * J * 2 ^ (-(q - k)).toNat * 2 ^ (r - l).toNat) := by ac_rfl
  · have s1 := own_signed_of w1
    have s2 := own_signed_of w2
    have h3 : signed (s != t) (i.natAbs * j.natAbs) = i * j := by rw [signed_xor, s1, s2]
    have h4 : i.natAbs * j.natAbs = m.natAbs * (j.natAbs * j.natAbs) := by rw [hmn, Nat.mul_assoc]
    rw [h4, signed_mul] at h3
    have hjj : ((j.natAbs * j.natAbs : Nat) : Int) = j * j := by rw [Int.natAbs_mul_self]
    rw [hjj, hm, Int.mul_assoc] at h3
    exact Int.eq_of_mul_eq_mul_right (Int.mul_ne_zero hj hj) h3
end OwnFP
/-! own tools: a walk in continuation style, named values, the ends -/
abbrev uU : Slot := .unset
abbrev uS : Slot := .second
abbrev sN : Slot := .val .null
abbrev sI (x : Int32) : Slot := .val (.int x)
abbrev sJ (x : Int64) : Slot := .val (.long x)
abbrev sD (x : UInt64) : Slot := .val (.double x)
abbrev sR (x : Addr) : Slot := .val (.ref x)
def OwnGo (tb : Tables) (e : Env) (below : List Frame) (Q : Outcome → State → Prop) (S : State) : Prop := ∃ s₂ o, Steps tb e below S s₂ ∧ s₂.status = .running ∧ Ended s₂ below o ∧ Q o s₂
theorem OwnGo.pre {tb : Tables} {e : Env} {below : List Frame} {Q : Outcome → State → Prop} {S S' : State} (h : ∀ t, Steps tb e below S' t → Steps tb e below S t) (k : OwnGo tb e below Q S') : OwnGo tb e below Q S := by
  obtain ⟨t, o, h1, h2⟩ := k
  exact ⟨t, o, h t h1, h2⟩
abbrev OwnEnd (s : State) (Q : Option Value → Heap → List Loc → Prop) (kc ks : Nat) : Outcome → State → Prop := fun o s₂ => ∃ v L, o = .returned v ∧ Q v s₂.heap L ∧ FrameEnd s o s₂ L kc ks
section OwnEnds
variable {p : Program} {l : Launch} {e : Env} {R : Room} {s : State} {m : MethodId} {args : Array Value} {below : List Frame} {meth : Method} {c : Code} {T : State} {locs : List Loc} {cells slots : Nat}
theorem own_retZ (X : Stand p l e R s m args below meth c T locs cells slots) (hx : p.tables.exec = Jvm.exec) (hk : meth.locks = false) {pc : Nat} {Ls : Array Slot} {z : Int32} {rest : List Value} (hret : meth.sig.returnType = some .boolean) (hd : decode c.code pc = .ok (.ireturn, 1))
    {Q : Option Value → Heap → List Loc → Prop} {kc ks : Nat} (hq : Q (some (.int (nar .boolean z))) T.heap locs) (hc : cells ≤ kc) (hs : slots ≤ ks) : OwnGo p.tables e below (OwnEnd s Q kc ks) (T.setTop (mkF m pc Ls (.int z :: rest))) := by
  obtain ⟨fs, hr, hrun, hended, hW, hsame⟩ := X.leave (v := some (.int (nar .boolean z))) (fun h => by rw [hret] at h; cases h) hk
  exact ⟨_, _, retN X hx (t := .boolean) hret (by simp) hd hr, hrun, hended, _, _, rfl, hq, ⟨_, rfl⟩, hW, hsame.mono hc hs⟩
theorem own_retI (X : Stand p l e R s m args below meth c T locs cells slots) (hx : p.tables.exec = Jvm.exec) (hk : meth.locks = false) {pc : Nat} {Ls : Array Slot} {z : Int32} {rest : List Value} (hret : meth.sig.returnType = some .int) (hd : decode c.code pc = .ok (.ireturn, 1))
    {Q : Option Value → Heap → List Loc → Prop} {kc ks : Nat} (hq : Q (some (.int z)) T.heap locs) (hc : cells ≤ kc) (hs : slots ≤ ks) : OwnGo p.tables e below (OwnEnd s Q kc ks) (T.setTop (mkF m pc Ls (.int z :: rest))) := by
  obtain ⟨fs, hr, hrun, hended, hW, hsame⟩ := X.leave (v := some (.int z)) (fun h => by rw [hret] at h; cases h) hk
  exact ⟨_, _, retOut X hx hret rfl (Or.inl ⟨rfl, Or.inl rfl, _, rfl⟩) hd hr, hrun, hended, _, _, rfl, hq, ⟨_, rfl⟩, hW, hsame.mono hc hs⟩
theorem own_retJ (X : Stand p l e R s m args below meth c T locs cells slots) (hx : p.tables.exec = Jvm.exec) (hk : meth.locks = false) {pc : Nat} {Ls : Array Slot} {z : Int64} {rest : List Value} (hret : meth.sig.returnType = some .long) (hd : decode c.code pc = .ok (.lreturn, 1))
    {Q : Option Value → Heap → List Loc → Prop} {kc ks : Nat} (hq : Q (some (.long z)) T.heap locs) (hc : cells ≤ kc) (hs : slots ≤ ks) : OwnGo p.tables e below (OwnEnd s Q kc ks) (T.setTop (mkF m pc Ls (.long z :: rest))) := by
  obtain ⟨fs, hr, hrun, hended, hW, hsame⟩ := X.leave (v := some (.long z)) (fun h => by rw [hret] at h; cases h) hk
  exact ⟨_, _, retOut X hx hret rfl (Or.inr (Or.inl ⟨rfl, rfl, _, rfl⟩)) hd hr, hrun, hended, _, _, rfl, hq, ⟨_, rfl⟩, hW, hsame.mono hc hs⟩
theorem own_retD (X : Stand p l e R s m args below meth c T locs cells slots) (hx : p.tables.exec = Jvm.exec) (hk : meth.locks = false) {pc : Nat} {Ls : Array Slot} {z : UInt64} {rest : List Value} (hret : meth.sig.returnType = some .double) (hd : decode c.code pc = .ok (.dreturn, 1))
    {Q : Option Value → Heap → List Loc → Prop} {kc ks : Nat} (hq : Q (some (.double z)) T.heap locs) (hc : cells ≤ kc) (hs : slots ≤ ks) : OwnGo p.tables e below (OwnEnd s Q kc ks) (T.setTop (mkF m pc Ls (.double z :: rest))) := by
  obtain ⟨fs, hr, hrun, hended, hW, hsame⟩ := X.leave (v := some (.double z)) (fun h => by rw [hret] at h; cases h) hk
  exact ⟨_, _, retOut X hx hret rfl (Or.inr (Or.inr (Or.inl ⟨rfl, rfl, _, rfl⟩))) hd hr, hrun, hended, _, _, rfl, hq, ⟨_, rfl⟩, hW, hsame.mono hc hs⟩
theorem own_retA (X : Stand p l e R s m args below meth c T locs cells slots) (hx : p.tables.exec = Jvm.exec) (hk : meth.locks = false) {pc : Nat} {Ls : Array Slot} {C : String} {w : Value} {rest : List Value} (hret : meth.sig.returnType = some (.object C)) (hd : decode c.code pc = .ok (.areturn, 1)) (hw : w.isRef = true)
    {Q : Option Value → Heap → List Loc → Prop} {kc ks : Nat} (hq : Q (some w) T.heap locs) (hc : cells ≤ kc) (hs : slots ≤ ks) : OwnGo p.tables e below (OwnEnd s Q kc ks) (T.setTop (mkF m pc Ls (w :: rest))) := by
  obtain ⟨fs, hr, hrun, hended, hW, hsame⟩ := X.leave (v := some w) (fun h => by rw [hret] at h; cases h) hk
  exact ⟨_, _, retOut X hx hret (by cases w <;> first | rfl | cases hw) (Or.inr (Or.inr (Or.inr (Or.inr ⟨rfl, rfl, hw⟩)))) hd hr, hrun, hended, _, _, rfl, hq, ⟨_, rfl⟩, hW, hsame.mono hc hs⟩
theorem own_ret0 (X : Stand p l e R s m args below meth c T locs cells slots) (hx : p.tables.exec = Jvm.exec) (hk : meth.locks = false) {pc : Nat} {Ls : Array Slot} (hret : meth.sig.returnType = none) (hd : decode c.code pc = .ok (.return_, 1))
    {Q : Option Value → Heap → List Loc → Prop} {kc ks : Nat} (hq : Q none T.heap locs) (hc : cells ≤ kc) (hs : slots ≤ ks) : OwnGo p.tables e below (OwnEnd s Q kc ks) (T.setTop (mkF m pc Ls [])) := by
  obtain ⟨fs, hr, hrun, hended, hW, hsame⟩ := X.leave (v := none) (fun _ => rfl) hk
  exact ⟨_, _, X.returnOut hx hret hd hr, hrun, hended, _, _, rfl, hq, ⟨_, rfl⟩, hW, hsame.mono hc hs⟩
theorem own_ldcD (X : Stand p l e R s m args below meth c T locs cells slots) (hx : p.tables.exec = Jvm.exec) {own : String} {index : Nat} {b : UInt64} (hown : s.vm.findClass own = some m.cls) (hconst : (Cond.constantDouble own index b).before args s = true) {g : JFrame} {target : State} (hg : g.method = m) (hd : decode c.code g.pc = .ok (.ldc2_w index, 3))
    (hr : Steps p.tables e below (T.setTop { g with pc := g.pc + 3, stack := .double b :: g.stack }) target) : Steps p.tables e below (T.setTop g) target := X.ldc2DoubleC hx hown hconst hg hd target hr
theorem own_ldcJ (X : Stand p l e R s m args below meth c T locs cells slots) (hx : p.tables.exec = Jvm.exec) {own : String} {index : Nat} {b : Int64} (hown : s.vm.findClass own = some m.cls) (hconst : (Cond.constantLong own index b).before args s = true) {g : JFrame} {target : State} (hg : g.method = m) (hd : decode c.code g.pc = .ok (.ldc2_w index, 3))
    (hr : Steps p.tables e below (T.setTop { g with pc := g.pc + 3, stack := .long b :: g.stack }) target) : Steps p.tables e below (T.setTop g) target := X.ldc2Long hx hown hconst hg hd target hr
theorem own_ldcI (X : Stand p l e R s m args below meth c T locs cells slots) (hx : p.tables.exec = Jvm.exec) {own : String} {index : Nat} {b : Int32} (hown : s.vm.findClass own = some m.cls) (hconst : (Cond.constant own index b).before args s = true) {g : JFrame} {target : State} (hg : g.method = m) (hd : decode c.code g.pc = .ok (.ldc index, 2))
    (hr : Steps p.tables e below (T.setTop { g with pc := g.pc + 2, stack := .int b :: g.stack }) target) : Steps p.tables e below (T.setTop g) target := X.ldcInt hx hown hconst hg hd target hr
end OwnEnds
theorem own_iadd {tb : Tables} [Ours tb] {e : Env} {below : List Frame} {T target : State} {m : MethodId} {c : Code} {g : JFrame} (h : At T m c below) (hx : tb.exec = Jvm.exec) (hg : g.method = m) {x : Int32} {y : Int32} {v : Int32} {rest : List Value} (hd : decode c.code g.pc = .ok (.iadd, 1)) (hs : g.stack = .int y :: .int x :: rest) (hv : x + y = v)
    (hr : Steps tb e below (T.setTop { g with pc := g.pc + 1, stack := .int v :: rest }) target) : Steps tb e below (T.setTop g) target := by subst hv; exact XS.iadd h hx hg hd hs hr
theorem own_isub {tb : Tables} [Ours tb] {e : Env} {below : List Frame} {T target : State} {m : MethodId} {c : Code} {g : JFrame} (h : At T m c below) (hx : tb.exec = Jvm.exec) (hg : g.method = m) {x : Int32} {y : Int32} {v : Int32} {rest : List Value} (hd : decode c.code g.pc = .ok (.isub, 1)) (hs : g.stack = .int y :: .int x :: rest) (hv : x - y = v)
    (hr : Steps tb e below (T.setTop { g with pc := g.pc + 1, stack := .int v :: rest }) target) : Steps tb e below (T.setTop g) target := by subst hv; exact XS.isub h hx hg hd hs hr
theorem own_iand {tb : Tables} [Ours tb] {e : Env} {below : List Frame} {T target : State} {m : MethodId} {c : Code} {g : JFrame} (h : At T m c below) (hx : tb.exec = Jvm.exec) (hg : g.method = m) {x : Int32} {y : Int32} {v : Int32} {rest : List Value} (hd : decode c.code g.pc = .ok (.iand, 1)) (hs : g.stack = .int y :: .int x :: rest) (hv : x &&& y = v)
    (hr : Steps tb e below (T.setTop { g with pc := g.pc + 1, stack := .int v :: rest }) target) : Steps tb e below (T.setTop g) target := by subst hv; exact XS.iand h hx hg hd hs hr
theorem own_ishl {tb : Tables} [Ours tb] {e : Env} {below : List Frame} {T target : State} {m : MethodId} {c : Code} {g : JFrame} (h : At T m c below) (hx : tb.exec = Jvm.exec) (hg : g.method = m) {x : Int32} {y : Int32} {v : Int32} {rest : List Value} (hd : decode c.code g.pc = .ok (.ishl, 1)) (hs : g.stack = .int y :: .int x :: rest) (hv : x <<< (y &&& 31) = v)
    (hr : Steps tb e below (T.setTop { g with pc := g.pc + 1, stack := .int v :: rest }) target) : Steps tb e below (T.setTop g) target := by subst hv; exact XT.ishl h hx hg hd hs hr
theorem own_ishr {tb : Tables} [Ours tb] {e : Env} {below : List Frame} {T target : State} {m : MethodId} {c : Code} {g : JFrame} (h : At T m c below) (hx : tb.exec = Jvm.exec) (hg : g.method = m) {x : Int32} {y : Int32} {v : Int32} {rest : List Value} (hd : decode c.code g.pc = .ok (.ishr, 1)) (hs : g.stack = .int y :: .int x :: rest) (hv : x >>> (y &&& 31) = v)
    (hr : Steps tb e below (T.setTop { g with pc := g.pc + 1, stack := .int v :: rest }) target) : Steps tb e below (T.setTop g) target := by subst hv; exact XT.ishr h hx hg hd hs hr
theorem own_iushr {tb : Tables} [Ours tb] {e : Env} {below : List Frame} {T target : State} {m : MethodId} {c : Code} {g : JFrame} (h : At T m c below) (hx : tb.exec = Jvm.exec) (hg : g.method = m) {x : Int32} {y : Int32} {v : Int32} {rest : List Value} (hd : decode c.code g.pc = .ok (.iushr, 1)) (hs : g.stack = .int y :: .int x :: rest) (hv : XT.ushr x y = v)
    (hr : Steps tb e below (T.setTop { g with pc := g.pc + 1, stack := .int v :: rest }) target) : Steps tb e below (T.setTop g) target := by subst hv; exact XT.iushr h hx hg hd hs hr
theorem own_irem {tb : Tables} [Ours tb] {e : Env} {below : List Frame} {T target : State} {m : MethodId} {c : Code} {g : JFrame} (h : At T m c below) (hx : tb.exec = Jvm.exec) (hg : g.method = m) {x : Int32} {y : Int32} {v : Int32} {rest : List Value} (hd : decode c.code g.pc = .ok (.irem, 1)) (hs : g.stack = .int y :: .int x :: rest) (hy : y ≠ 0) (hv : x - x / y * y = v)
    (hr : Steps tb e below (T.setTop { g with pc := g.pc + 1, stack := .int v :: rest }) target) : Steps tb e below (T.setTop g) target := by subst hv; exact XS.irem h hx hg hd hs hy hr
theorem own_ladd {tb : Tables} [Ours tb] {e : Env} {below : List Frame} {T target : State} {m : MethodId} {c : Code} {g : JFrame} (h : At T m c below) (hx : tb.exec = Jvm.exec) (hg : g.method = m) {x : Int64} {y : Int64} {v : Int64} {rest : List Value} (hd : decode c.code g.pc = .ok (.ladd, 1)) (hs : g.stack = .long y :: .long x :: rest) (hv : x + y = v)
    (hr : Steps tb e below (T.setTop { g with pc := g.pc + 1, stack := .long v :: rest }) target) : Steps tb e below (T.setTop g) target := by subst hv; exact XT.ladd h hx hg hd hs hr
theorem own_lsub {tb : Tables} [Ours tb] {e : Env} {below : List Frame} {T target : State} {m : MethodId} {c : Code} {g : JFrame} (h : At T m c below) (hx : tb.exec = Jvm.exec) (hg : g.method = m) {x : Int64} {y : Int64} {v : Int64} {rest : List Value} (hd : decode c.code g.pc = .ok (.lsub, 1)) (hs : g.stack = .long y :: .long x :: rest) (hv : x - y = v)
    (hr : Steps tb e below (T.setTop { g with pc := g.pc + 1, stack := .long v :: rest }) target) : Steps tb e below (T.setTop g) target := by subst hv; exact XT.lsub h hx hg hd hs hr
theorem own_lmul {tb : Tables} [Ours tb] {e : Env} {below : List Frame} {T target : State} {m : MethodId} {c : Code} {g : JFrame} (h : At T m c below) (hx : tb.exec = Jvm.exec) (hg : g.method = m) {x : Int64} {y : Int64} {v : Int64} {rest : List Value} (hd : decode c.code g.pc = .ok (.lmul, 1)) (hs : g.stack = .long y :: .long x :: rest) (hv : x * y = v)
    (hr : Steps tb e below (T.setTop { g with pc := g.pc + 1, stack := .long v :: rest }) target) : Steps tb e below (T.setTop g) target := by subst hv; exact XT.lmul h hx hg hd hs hr
theorem own_land {tb : Tables} [Ours tb] {e : Env} {below : List Frame} {T target : State} {m : MethodId} {c : Code} {g : JFrame} (h : At T m c below) (hx : tb.exec = Jvm.exec) (hg : g.method = m) {x : Int64} {y : Int64} {v : Int64} {rest : List Value} (hd : decode c.code g.pc = .ok (.land, 1)) (hs : g.stack = .long y :: .long x :: rest) (hv : x &&& y = v)
    (hr : Steps tb e below (T.setTop { g with pc := g.pc + 1, stack := .long v :: rest }) target) : Steps tb e below (T.setTop g) target := by subst hv; exact XT.land h hx hg hd hs hr
theorem own_lshl {tb : Tables} [Ours tb] {e : Env} {below : List Frame} {T target : State} {m : MethodId} {c : Code} {g : JFrame} (h : At T m c below) (hx : tb.exec = Jvm.exec) (hg : g.method = m) {x : Int64} {y : Int32} {v : Int64} {rest : List Value} (hd : decode c.code g.pc = .ok (.lshl, 1)) (hs : g.stack = .int y :: .long x :: rest) (hv : x <<< (y.toInt64 &&& 63) = v)
    (hr : Steps tb e below (T.setTop { g with pc := g.pc + 1, stack := .long v :: rest }) target) : Steps tb e below (T.setTop g) target := by subst hv; exact XT.lshl h hx hg hd hs hr
theorem own_lshr {tb : Tables} [Ours tb] {e : Env} {below : List Frame} {T target : State} {m : MethodId} {c : Code} {g : JFrame} (h : At T m c below) (hx : tb.exec = Jvm.exec) (hg : g.method = m) {x : Int64} {y : Int32} {v : Int64} {rest : List Value} (hd : decode c.code g.pc = .ok (.lshr, 1)) (hs : g.stack = .int y :: .long x :: rest) (hv : x >>> (y.toInt64 &&& 63) = v)
    (hr : Steps tb e below (T.setTop { g with pc := g.pc + 1, stack := .long v :: rest }) target) : Steps tb e below (T.setTop g) target := by subst hv; exact XT.lshr h hx hg hd hs hr
theorem own_lushr {tb : Tables} [Ours tb] {e : Env} {below : List Frame} {T target : State} {m : MethodId} {c : Code} {g : JFrame} (h : At T m c below) (hx : tb.exec = Jvm.exec) (hg : g.method = m) {x : Int64} {y : Int32} {v : Int64} {rest : List Value} (hd : decode c.code g.pc = .ok (.lushr, 1)) (hs : g.stack = .int y :: .long x :: rest) (hv : XT.ushrL x y = v)
    (hr : Steps tb e below (T.setTop { g with pc := g.pc + 1, stack := .long v :: rest }) target) : Steps tb e below (T.setTop g) target := by subst hv; exact XT.lushr h hx hg hd hs hr
theorem own_lrem {tb : Tables} [Ours tb] {e : Env} {below : List Frame} {T target : State} {m : MethodId} {c : Code} {g : JFrame} (h : At T m c below) (hx : tb.exec = Jvm.exec) (hg : g.method = m) {x : Int64} {y : Int64} {v : Int64} {rest : List Value} (hd : decode c.code g.pc = .ok (.lrem, 1)) (hs : g.stack = .long y :: .long x :: rest) (hy : y ≠ 0) (hv : x - (x / y) * y = v)
    (hr : Steps tb e below (T.setTop { g with pc := g.pc + 1, stack := .long v :: rest }) target) : Steps tb e below (T.setTop g) target := by subst hv; exact XT.lrem h hx hg hd hs hy hr
theorem own_lcmp {tb : Tables} [Ours tb] {e : Env} {below : List Frame} {T target : State} {m : MethodId} {c : Code} {g : JFrame} (h : At T m c below) (hx : tb.exec = Jvm.exec) (hg : g.method = m) {x : Int64} {y : Int64} {v : Int32} {rest : List Value} (hd : decode c.code g.pc = .ok (.lcmp, 1)) (hs : g.stack = .long y :: .long x :: rest) (hv : XT.cmpL x y = v)
    (hr : Steps tb e below (T.setTop { g with pc := g.pc + 1, stack := .int v :: rest }) target) : Steps tb e below (T.setTop g) target := by subst hv; exact XT.lcmp h hx hg hd hs hr
theorem own_lneg {tb : Tables} [Ours tb] {e : Env} {below : List Frame} {T target : State} {m : MethodId} {c : Code} {g : JFrame} (h : At T m c below) (hx : tb.exec = Jvm.exec) (hg : g.method = m) {x : Int64} {v : Int64} {rest : List Value} (hd : decode c.code g.pc = .ok (.lneg, 1)) (hs : g.stack = .long x :: rest) (hv : -x = v)
    (hr : Steps tb e below (T.setTop { g with pc := g.pc + 1, stack := .long v :: rest }) target) : Steps tb e below (T.setTop g) target := by subst hv; exact XT.lneg h hx hg hd hs hr
theorem own_i2l {tb : Tables} [Ours tb] {e : Env} {below : List Frame} {T target : State} {m : MethodId} {c : Code} {g : JFrame} (h : At T m c below) (hx : tb.exec = Jvm.exec) (hg : g.method = m) {x : Int32} {v : Int64} {rest : List Value} (hd : decode c.code g.pc = .ok (.i2l, 1)) (hs : g.stack = .int x :: rest) (hv : x.toInt64 = v)
    (hr : Steps tb e below (T.setTop { g with pc := g.pc + 1, stack := .long v :: rest }) target) : Steps tb e below (T.setTop g) target := by subst hv; exact XT.i2l h hx hg hd hs hr
theorem own_l2i {tb : Tables} [Ours tb] {e : Env} {below : List Frame} {T target : State} {m : MethodId} {c : Code} {g : JFrame} (h : At T m c below) (hx : tb.exec = Jvm.exec) (hg : g.method = m) {x : Int64} {v : Int32} {rest : List Value} (hd : decode c.code g.pc = .ok (.l2i, 1)) (hs : g.stack = .long x :: rest) (hv : x.toInt32 = v)
    (hr : Steps tb e below (T.setTop { g with pc := g.pc + 1, stack := .int v :: rest }) target) : Steps tb e below (T.setTop g) target := by subst hv; exact XT.l2i h hx hg hd hs hr
theorem own_ineg {tb : Tables} [Ours tb] {e : Env} {below : List Frame} {T target : State} {m : MethodId} {c : Code} {g : JFrame} (h : At T m c below) (hx : tb.exec = Jvm.exec) (hg : g.method = m) {x : Int32} {v : Int32} {rest : List Value} (hd : decode c.code g.pc = .ok (.ineg, 1)) (hs : g.stack = .int x :: rest) (hv : -x = v)
    (hr : Steps tb e below (T.setTop { g with pc := g.pc + 1, stack := .int v :: rest }) target) : Steps tb e below (T.setTop g) target := by subst hv; exact XS.ineg h hx hg hd hs hr
section OwnFP2
open Jvm.FP.Core
/-- what a condition asks of two whole numbers -/
def own_rel : ClassFile.Cond → Int → Int → Bool
  | .eq, i, j => decide (i = j)
  | .ne, i, j => decide (i ≠ j)
  | .lt, i, j => decide (i < j)
  | .ge, i, j => decide (j ≤ i)
  | .gt, i, j => decide (j < i)
  | .le, i, j => decide (i ≤ j)
theorem own_br2 (cd : ClassFile.Cond) (x y : Int32) : if_icmp.holds cd x y = own_rel cd x.toInt y.toInt := by
  cases cd
  · show (x == y) = decide (x.toInt = y.toInt)
    by_cases h : x = y
    · subst h; simp
    · rw [beq_eq_false_iff_ne.mpr h, decide_eq_false (fun q => h (Int32.toInt_inj.mp q))]
  · show (x != y) = decide (x.toInt ≠ y.toInt)
    by_cases h : x = y
    · subst h; simp
    · rw [bne_iff_ne.mpr h]; exact (decide_eq_true (p := x.toInt ≠ y.toInt) (fun q => h (Int32.toInt_inj.mp q))).symm
  · exact decide_eq_decide.mpr Int32.lt_iff_toInt_lt
  · exact decide_eq_decide.mpr Int32.le_iff_toInt_le
  · exact decide_eq_decide.mpr Int32.lt_iff_toInt_lt
  · exact decide_eq_decide.mpr Int32.le_iff_toInt_le
theorem own_br0 (cd : ClassFile.Cond) (x : Int32) : ifCond.holds cd x = own_rel cd x.toInt 0 := by
  have h : ifCond.holds cd x = if_icmp.holds cd x 0 := by cases cd <;> rfl
  rw [h, own_br2]; rfl
theorem own_rel_iff (cd : ClassFile.Cond) {i j i' j' : Int} (h1 : i < j ↔ i' < j') (h2 : i = j ↔ i' = j') : own_rel cd i j = own_rel cd i' j' := by
  cases cd
  · exact decide_eq_decide.mpr h2
  · exact decide_eq_decide.mpr (not_congr h2)
  · exact decide_eq_decide.mpr h1
  · exact decide_eq_decide.mpr (by omega)
  · exact decide_eq_decide.mpr (by omega)
  · exact decide_eq_decide.mpr (by omega)
theorem own_sgn3 (cd : ClassFile.Cond) {z : Int32} {i j : Int} (h : (i < j ∧ z = -1) ∨ (i = j ∧ z = 0) ∨ (j < i ∧ z = 1)) : ifCond.holds cd z = own_rel cd i j := by
  rw [own_br0]
  refine own_rel_iff cd ?_ ?_ <;> rcases h with ⟨h1, rfl⟩ | ⟨h1, rfl⟩ | ⟨h1, rfl⟩
  · have e1 : (-1 : Int32).toInt = -1 := rfl
    omega
  · have e1 : (0 : Int32).toInt = 0 := rfl
    omega
  · have e1 : (1 : Int32).toInt = 1 := rfl
    omega
  · have e1 : (-1 : Int32).toInt = -1 := rfl
    omega
  · have e1 : (0 : Int32).toInt = 0 := rfl
    omega
  · have e1 : (1 : Int32).toInt = 1 := rfl
    omega
theorem own_brL (cd : ClassFile.Cond) (x y : Int64) : ifCond.holds cd (XT.cmpL x y) = own_rel cd x.toInt y.toInt := by
  refine own_sgn3 cd ?_
  have h := @Int64.toInt_inj x y
  by_cases h1 : y < x
  · refine Or.inr (Or.inr ⟨Int64.lt_iff_toInt_lt.mp h1, ?_⟩)
    show (if y < x then (1 : Int32) else if x = y then 0 else -1) = 1
    rw [if_pos h1]
  · by_cases h2 : x = y
    · refine Or.inr (Or.inl ⟨h.mpr h2, ?_⟩)
      show (if y < x then (1 : Int32) else if x = y then 0 else -1) = 0
      rw [if_neg h1, if_pos h2]
    · refine Or.inl ⟨?_, ?_⟩
      · rw [Int64.lt_iff_toInt_lt] at h1
        have : x.toInt ≠ y.toInt := fun q => h2 (h.mp q)
        omega
      · show (if y < x then (1 : Int32) else if x = y then 0 else -1) = -1
        rw [if_neg h1, if_neg h2]
theorem own_brD (cd : ClassFile.Cond) {k i j : Int} {a b : UInt64} (ha : OwnDS k i a) (hb : OwnDS k j b) (o : CmpOp) : ifCond.holds cd (cmpValue (FP.dcmp a b) o) = own_rel cd i j := by
  have hc : FP.dcmp a b = some (compare i j) := own_ds_cmp ha hb
  rw [hc]
  refine own_sgn3 cd ?_
  rcases Int.lt_trichotomy i j with q | q | q
  · refine Or.inl ⟨q, ?_⟩
    rw [show compare i j = .lt from Int.compare_eq_lt.mpr q]; rfl
  · refine Or.inr (Or.inl ⟨q, ?_⟩)
    rw [show compare i j = .eq from Int.compare_eq_eq.mpr q]; rfl
  · refine Or.inr (Or.inr ⟨q, ?_⟩)
    rw [show compare i j = .gt from Int.compare_eq_gt.mpr q]; rfl
theorem own_nn {k i : Int} {a : UInt64} (h : OwnDS k i a) : Jvm.Free.Fl.NoNaN64 a := Jvm.Free.Fl.val64_no.mpr (own_ds_ne_nan h)
theorem own_i2d (x : Int32) : OwnDS 0 x.toInt (FP.i2d x) := own_ds_int (i2d_int x)
theorem own_l2d {x : Int64} {i : Int} (h : x.toInt = i) (hb : i.natAbs ≤ 9007199254740992) : OwnDS 0 i (FP.l2d x) := by
  subst h; exact own_ds_int (l2d_int (by omega))
theorem own_i32 (x : Int32) : -2147483648 ≤ x.toInt ∧ x.toInt ≤ 2147483648 := by
  have h1 := x.toInt_lt
  have h2 := x.le_toInt
  omega
theorem own_mul_bd {i j A B : Int} (h1 : -A ≤ i ∧ i ≤ A) (h2 : -B ≤ j ∧ j ≤ B) : -(A * B) ≤ i * j ∧ i * j ≤ A * B := by
  have ha : i.natAbs ≤ A.toNat := by omega
  have hb : j.natAbs ≤ B.toNat := by omega
  have h := Nat.mul_le_mul ha hb
  rw [← Int.natAbs_mul] at h
  have e : ((A.toNat * B.toNat : Nat) : Int) = A * B := by
    rw [Int.natCast_mul, Int.toNat_of_nonneg (by omega), Int.toNat_of_nonneg (by omega)]
  generalize A.toNat * B.toNat = n at h e
  omega
theorem own_d2l {i : Int} {a : UInt64} (h : OwnDS 0 i a) (hb : i.natAbs ≤ 9007199254740992) : (FP.d2l a).toInt = i := by
  have e : (Int64.ofInt i).toInt = i := by rw [Int64.toInt_ofInt]; exact Jvm.Kit.bmod64 (by omega) (by omega)
  have q : FP.d2l a = Int64.ofInt i := d2l_int (a := Int64.ofInt i) (b := a) (by rw [e]; exact own_int_ds h)
  rw [q, e]
theorem own_ds_neg {k i : Int} {a : UInt64} (h : OwnDS k i a) : OwnDS k (-i) (FP.dneg a) := by
  show OwnSc _ _ _
  rw [Jvm.FP.val64_dneg]; exact own_sc_neg h
theorem own_fin {k i : Int} {a : UInt64} (h : OwnDS k i a) : DFin a := by
  obtain ⟨s, c, q, hv, -⟩ := own_sc_fin h
  exact ⟨s, c, q, hv⟩
theorem own_isfin {a : UInt64} (h : DFin a) : ifCond.holds .gt (cmpValue (FP.dcmp (a &&& 0x7fffffffffffffff) 9218868437227405311) .g) = false := by
  have hn : dIsNaN a = false := (notNaN_iff a).mpr (by obtain ⟨s, c, q, hv⟩ := h; rw [hv]; exact Datum.noConfusion)
  have q : FP.dcmp (a &&& 0x7fffffffffffffff) 9218868437227405311 = some .lt ∨ FP.dcmp (a &&& 0x7fffffffffffffff) 9218868437227405311 = some .eq := (le_max hn).mpr h
  rcases q with q | q <;> rw [q] <;> rfl
theorem own_bd_add {i j A B C : Int} (h1 : -A ≤ i ∧ i ≤ A) (h2 : -B ≤ j ∧ j ≤ B) (hC : A + B = C) : -C ≤ i + j ∧ i + j ≤ C := by omega
theorem own_bd_sub {i j A B C : Int} (h1 : -A ≤ i ∧ i ≤ A) (h2 : -B ≤ j ∧ j ≤ B) (hC : A + B = C) : -C ≤ i - j ∧ i - j ≤ C := by omega
theorem own_bd_mul {i j A B C : Int} (h1 : -A ≤ i ∧ i ≤ A) (h2 : -B ≤ j ∧ j ≤ B) (hC : A * B = C) : -C ≤ i * j ∧ i * j ≤ C := hC ▸ own_mul_bd h1 h2
theorem own_bd_neg {i A : Int} (h1 : -A ≤ i ∧ i ≤ A) : -A ≤ -i ∧ -i ≤ A := by omega
theorem own_bd_nat {i C : Int} {n : Nat} (h : -C ≤ i ∧ i ≤ C) (hC : C < ((2 ^ n : Nat) : Int)) : i.natAbs < 2 ^ n := by
  generalize 2 ^ n = N at hC
  omega
theorem own_bd_le {i A C : Int} (h : -A ≤ i ∧ i ≤ A) (hC : A ≤ C) : -C ≤ i ∧ i ≤ C := by omega
theorem own_lf_add {x y v : Int64} {i j A B k : Int} (hv : x + y = v) (Fx : x.toInt = i) (Fy : y.toInt = j) (b1 : -A ≤ i ∧ i ≤ A) (b2 : -B ≤ j ∧ j ≤ B) (hC : A + B < 9223372036854775808) (hk : k = i + j) : v.toInt = k := by
  subst hv hk; rw [Jvm.Kit.i64_add (by rw [Fx, Fy]; omega) (by rw [Fx, Fy]; omega), Fx, Fy]
theorem own_lf_sub {x y v : Int64} {i j A B k : Int} (hv : x - y = v) (Fx : x.toInt = i) (Fy : y.toInt = j) (b1 : -A ≤ i ∧ i ≤ A) (b2 : -B ≤ j ∧ j ≤ B) (hC : A + B < 9223372036854775808) (hk : k = i - j) : v.toInt = k := by
  subst hv hk; rw [Jvm.Kit.i64_sub (by rw [Fx, Fy]; omega) (by rw [Fx, Fy]; omega), Fx, Fy]
theorem own_lf_mul {x y v : Int64} {i j A B k : Int} (hv : x * y = v) (Fx : x.toInt = i) (Fy : y.toInt = j) (b1 : -A ≤ i ∧ i ≤ A) (b2 : -B ≤ j ∧ j ≤ B) (hC : A * B < 9223372036854775808) (hk : k = i * j) : v.toInt = k := by
  have q := own_mul_bd b1 b2
  subst hv hk; rw [Jvm.Kit.i64_mul (by rw [Fx, Fy]; omega) (by rw [Fx, Fy]; omega), Fx, Fy]
theorem own_lf_neg {x v : Int64} {i A k : Int} (hv : -x = v) (Fx : x.toInt = i) (b1 : -A ≤ i ∧ i ≤ A) (hC : A < 9223372036854775808) (hk : k = -i) : v.toInt = k := by
  subst hv hk; rw [Jvm.Kit.i64_neg (by omega), Fx]
theorem own_l2db {x : Int64} {i A : Int} (h : x.toInt = i) (b1 : -A ≤ i ∧ i ≤ A) (hC : A ≤ 9007199254740992) : OwnDS 0 i (FP.l2d x) := own_l2d h (by omega)
theorem own_d2lb {i A : Int} {a : UInt64} (h : OwnDS 0 i a) (b1 : -A ≤ i ∧ i ≤ A) (hC : A ≤ 9007199254740992) : (FP.d2l a).toInt = i := own_d2l h (by omega)
end OwnFP2
theorem own_two : OwnDS 1 1 4611686018427387904 := by
  show OwnSc 1 1 (Jvm.FP.Core.val64 4611686018427387904)
  rw [show Jvm.FP.Core.val64 4611686018427387904 = .fin false 4503599627370496 (-51) from by decide +kernel]
  show Jvm.FP.Core.signed false _ = _
  decide +kernel
theorem own_big : OwnDS 993 1 9079256848778919936 := by
  show OwnSc 993 1 (Jvm.FP.Core.val64 9079256848778919936)
  rw [show Jvm.FP.Core.val64 9079256848778919936 = .fin false 4503599627370496 (941) from by decide +kernel]
  show Jvm.FP.Core.signed false _ = _
  decide +kernel
theorem own_hlf : OwnDS 992 1 9074753249151549440 := by
  show OwnSc 992 1 (Jvm.FP.Core.val64 9074753249151549440)
  rw [show Jvm.FP.Core.val64 9074753249151549440 = .fin false 4503599627370496 (940) from by decide +kernel]
  show Jvm.FP.Core.signed false _ = _
  decide +kernel
theorem own_b1 : -1 ≤ (1 : Int) ∧ (1 : Int) ≤ 1 := by omega
theorem pd_absD : parseMethodDescriptor "(D)D" = some ⟨[.double], some .double⟩ := by decide +kernel
theorem d1_0 : decode jdk_29_method_69_code 0 = .ok (.iload_n 0, 1) := by decide +kernel
theorem d1_1 : decode jdk_29_method_69_code 1 = .ok (.iload_n 1, 1) := by decide +kernel
theorem d1_2 : decode jdk_29_method_69_code 2 = .ok (.if_icmp .gt 7, 3) := by decide +kernel
theorem d1_5 : decode jdk_29_method_69_code 5 = .ok (.iload_n 0, 1) := by decide +kernel
theorem d1_6 : decode jdk_29_method_69_code 6 = .ok (.goto 4, 3) := by decide +kernel
theorem d1_9 : decode jdk_29_method_69_code 9 = .ok (.iload_n 1, 1) := by decide +kernel
theorem d1_10 : decode jdk_29_method_69_code 10 = .ok (.ireturn, 1) := by decide +kernel
theorem pn_rmMin : plainFor (⟨"java/lang/Math", "min", "(II)I"⟩ : MethodName) = true := Jvm.Free.JP.mathPlain rfl (by decide +kernel)
theorem pd_rmMin : parseMethodDescriptor "(II)I" = some ⟨[.int, .int], (some .int)⟩ := by decide +kernel
theorem ef_rmMin (m : MethodId) (xa xb : Int32) : entryFrame m #[(.int xa), (.int xb)] 2 = (mkF m 0 #[sI xa, sI xb] []) := by first | (simp [entryFrame, mkF, argsToLocals, Value.category, maxLocals]; done) | rfl
def Q_rmMin (Z : State) (xa xb : Int32) (h0 : Heap) (n0 : Nat) (v : Option Value) (h : Heap) (L : List Loc) : Prop := ∃ r, v = some (.int r) ∧ r.toInt = min xa.toInt xb.toInt ∧ Fr n0 L ∧ h = h0
set_option maxRecDepth 65536 in
set_option maxHeartbeats 40000000 in
theorem rmMin (l : Launch) (Z : State) (a0 : Array Value) (hw : ∀ d ∈ tables_1, d.before a0 Z = true) (ws : List Jvm.Cond) (xa xb : Int32) (h0 : Heap) (n0 : Nat) (Z0 : n0 ≤ h0.size)  :
    MetFree l (⟨"java/lang/Math", "min", "(II)I"⟩ : MethodName) (head1 (Jvm.Cond.code (⟨"java/lang/Math", "min", "(II)I"⟩ : MethodName) jdk_29_method_69_code 2 (some .int) :: ws) ({ frames := 0, cells := 0, slots := 0, locals := 0 } : Room)) (fun a U => a = #[(.int xa), (.int xb)] ∧ Z.Warmed39 U.vm ∧ U.heap = h0) (fun _ _ _ _ _ => True) (fun _ U oO U' => ∃ v L, oO = .returned v ∧ Q_rmMin Z xa xb h0 n0 v U'.heap L ∧ FrameEnd U oO U' L ({ frames := 0, cells := 0, slots := 0, locals := 0 } : Room).cells ({ frames := 0, cells := 0, slots := 0, locals := 0 } : Room).slots) := by
  refine MetFree.of_bodySF pn_rmMin hisR ?_
  intro p e s m args below meth c s₁ Bd hml0 hP hK
  obtain ⟨rfl, hZ, hh⟩ := hP
  have hx := Bd.exec
  have hby := Bd.bytes
  have hml : c.maxLocals = 2 := hml0
  have hown : s.vm.findClass "java/lang/Math" = some m.cls := findClass_of_methodNamed Bd.named
  have hnm := (name_of_methodNamed Bd.named Bd.method).1
  have hk := Bd.notSynchronized
  have hrt := Bd.returns
  have X0 : Stand p l e ({ frames := 0, cells := 0, slots := 0, locals := 0 } : Room) s m #[(.int xa), (.int xb)] below meth c s₁ [] 0 0 := Stand.of_body Bd
  have e0 : s₁.heap = h0 := by rw [← hh, Bd.state]; rfl
  have N0 := Fr.nil n0
  show OwnGo p.tables e below (OwnEnd s (Q_rmMin Z xa xb h0 n0) ({ frames := 0, cells := 0, slots := 0, locals := 0 } : Room).cells ({ frames := 0, cells := 0, slots := 0, locals := 0 } : Room).slots) _
  refine OwnGo.pre (fun t k => castTop (ef_rmMin m xa xb) k) ?_
  show OwnGo _ _ _ _ (s₁.setTop (mkF m 0 #[sI xa, sI xb] []))
  refine OwnGo.pre (fun t k => XS.iloadN X0.here hx rfl (hb hby d1_0) rfl (XS.iloadN X0.here hx rfl (hb hby d1_1) rfl k)) ?_
  show OwnGo _ _ _ _ (s₁.setTop (mkF m 2 #[sI xa, sI xb] [(.int xb), (.int xa)]))
  by_cases hq : xb.toInt < xa.toInt
  · skip
    refine OwnGo.pre (fun t k => XS.icmpYes X0.here hx rfl (pc0 := 2) (pc' := 9) rfl (hb hby d1_2) rfl ((own_br2 .gt _ _).trans (decide_eq_true (by omega))) (by decide) (by decide) (XS.iloadN X0.here hx rfl (hb hby d1_9) rfl k)) ?_
    show OwnGo _ _ _ _ (s₁.setTop (mkF m 10 #[sI xa, sI xb] [(.int xb)]))
    exact own_retI X0 hx hk hrt (hb hby d1_10) ⟨_, rfl, by omega, N0, e0⟩ (by decide) (by decide)
  · skip
    refine OwnGo.pre (fun t k => XS.icmpNo X0.here hx rfl (hb hby d1_2) rfl ((own_br2 .gt _ _).trans (decide_eq_false (by omega))) (XS.iloadN X0.here hx rfl (hb hby d1_5) rfl (XS.goto X0.here hx rfl (pc0 := 6) (pc' := 10) rfl (hb hby d1_6) (by decide) (by decide) k))) ?_
    show OwnGo _ _ _ _ (s₁.setTop (mkF m 10 #[sI xa, sI xb] [(.int xa)]))
    exact own_retI X0 hx hk hrt (hb hby d1_10) ⟨_, rfl, by omega, N0, e0⟩ (by decide) (by decide)
theorem d2_0 : decode jdk_29_method_65_code 0 = .ok (.iload_n 0, 1) := by decide +kernel
theorem d2_1 : decode jdk_29_method_65_code 1 = .ok (.iload_n 1, 1) := by decide +kernel
theorem d2_2 : decode jdk_29_method_65_code 2 = .ok (.if_icmp .lt 7, 3) := by decide +kernel
theorem d2_5 : decode jdk_29_method_65_code 5 = .ok (.iload_n 0, 1) := by decide +kernel
theorem d2_6 : decode jdk_29_method_65_code 6 = .ok (.goto 4, 3) := by decide +kernel
theorem d2_9 : decode jdk_29_method_65_code 9 = .ok (.iload_n 1, 1) := by decide +kernel
theorem d2_10 : decode jdk_29_method_65_code 10 = .ok (.ireturn, 1) := by decide +kernel
theorem pn_rmMax : plainFor (⟨"java/lang/Math", "max", "(II)I"⟩ : MethodName) = true := Jvm.Free.JP.mathPlain rfl (by decide +kernel)
theorem pd_rmMax : parseMethodDescriptor "(II)I" = some ⟨[.int, .int], (some .int)⟩ := by decide +kernel
theorem ef_rmMax (m : MethodId) (xa xb : Int32) : entryFrame m #[(.int xa), (.int xb)] 2 = (mkF m 0 #[sI xa, sI xb] []) := by first | (simp [entryFrame, mkF, argsToLocals, Value.category, maxLocals]; done) | rfl
def Q_rmMax (Z : State) (xa xb : Int32) (h0 : Heap) (n0 : Nat) (v : Option Value) (h : Heap) (L : List Loc) : Prop := ∃ r, v = some (.int r) ∧ r.toInt = max xa.toInt xb.toInt ∧ Fr n0 L ∧ h = h0
set_option maxRecDepth 65536 in
set_option maxHeartbeats 40000000 in
theorem rmMax (l : Launch) (Z : State) (a0 : Array Value) (hw : ∀ d ∈ tables_1, d.before a0 Z = true) (ws : List Jvm.Cond) (xa xb : Int32) (h0 : Heap) (n0 : Nat) (Z0 : n0 ≤ h0.size)  :
    MetFree l (⟨"java/lang/Math", "max", "(II)I"⟩ : MethodName) (head1 (Jvm.Cond.code (⟨"java/lang/Math", "max", "(II)I"⟩ : MethodName) jdk_29_method_65_code 2 (some .int) :: ws) ({ frames := 0, cells := 0, slots := 0, locals := 0 } : Room)) (fun a U => a = #[(.int xa), (.int xb)] ∧ Z.Warmed39 U.vm ∧ U.heap = h0) (fun _ _ _ _ _ => True) (fun _ U oO U' => ∃ v L, oO = .returned v ∧ Q_rmMax Z xa xb h0 n0 v U'.heap L ∧ FrameEnd U oO U' L ({ frames := 0, cells := 0, slots := 0, locals := 0 } : Room).cells ({ frames := 0, cells := 0, slots := 0, locals := 0 } : Room).slots) := by
  refine MetFree.of_bodySF pn_rmMax hisR ?_
  intro p e s m args below meth c s₁ Bd hml0 hP hK
  obtain ⟨rfl, hZ, hh⟩ := hP
  have hx := Bd.exec
  have hby := Bd.bytes
  have hml : c.maxLocals = 2 := hml0
  have hown : s.vm.findClass "java/lang/Math" = some m.cls := findClass_of_methodNamed Bd.named
  have hnm := (name_of_methodNamed Bd.named Bd.method).1
  have hk := Bd.notSynchronized
  have hrt := Bd.returns
  have X0 : Stand p l e ({ frames := 0, cells := 0, slots := 0, locals := 0 } : Room) s m #[(.int xa), (.int xb)] below meth c s₁ [] 0 0 := Stand.of_body Bd
  have e0 : s₁.heap = h0 := by rw [← hh, Bd.state]; rfl
  have N0 := Fr.nil n0
  show OwnGo p.tables e below (OwnEnd s (Q_rmMax Z xa xb h0 n0) ({ frames := 0, cells := 0, slots := 0, locals := 0 } : Room).cells ({ frames := 0, cells := 0, slots := 0, locals := 0 } : Room).slots) _
  refine OwnGo.pre (fun t k => castTop (ef_rmMax m xa xb) k) ?_
  show OwnGo _ _ _ _ (s₁.setTop (mkF m 0 #[sI xa, sI xb] []))
  refine OwnGo.pre (fun t k => XS.iloadN X0.here hx rfl (hb hby d2_0) rfl (XS.iloadN X0.here hx rfl (hb hby d2_1) rfl k)) ?_
  show OwnGo _ _ _ _ (s₁.setTop (mkF m 2 #[sI xa, sI xb] [(.int xb), (.int xa)]))
  by_cases hq : xa.toInt < xb.toInt
  · skip
    refine OwnGo.pre (fun t k => XS.icmpYes X0.here hx rfl (pc0 := 2) (pc' := 9) rfl (hb hby d2_2) rfl ((own_br2 .lt _ _).trans (decide_eq_true (by omega))) (by decide) (by decide) (XS.iloadN X0.here hx rfl (hb hby d2_9) rfl k)) ?_
    show OwnGo _ _ _ _ (s₁.setTop (mkF m 10 #[sI xa, sI xb] [(.int xb)]))
    exact own_retI X0 hx hk hrt (hb hby d2_10) ⟨_, rfl, by omega, N0, e0⟩ (by decide) (by decide)
  · skip
    refine OwnGo.pre (fun t k => XS.icmpNo X0.here hx rfl (hb hby d2_2) rfl ((own_br2 .lt _ _).trans (decide_eq_false (by omega))) (XS.iloadN X0.here hx rfl (hb hby d2_5) rfl (XS.goto X0.here hx rfl (pc0 := 6) (pc' := 10) rfl (hb hby d2_6) (by decide) (by decide) k))) ?_
    show OwnGo _ _ _ _ (s₁.setTop (mkF m 10 #[sI xa, sI xb] [(.int xa)]))
    exact own_retI X0 hx hk hrt (hb hby d2_10) ⟨_, rfl, by omega, N0, e0⟩ (by decide) (by decide)
theorem d5_0 : decode jdk_117_method_8_code 0 = .ok (.dload_n 0, 1) := by decide +kernel
theorem d5_1 : decode jdk_117_method_8_code 1 = .ok (.invokestatic 38, 3) := by decide +kernel
theorem d5_4 : decode jdk_117_method_8_code 4 = .ok (.ldc2_w 111, 3) := by decide +kernel
theorem d5_7 : decode jdk_117_method_8_code 7 = .ok (.dcmp .g, 1) := by decide +kernel
theorem d5_8 : decode jdk_117_method_8_code 8 = .ok (.ifCond .gt 7, 3) := by decide +kernel
theorem d5_11 : decode jdk_117_method_8_code 11 = .ok (.iconst 1, 1) := by decide +kernel
theorem d5_12 : decode jdk_117_method_8_code 12 = .ok (.goto 4, 3) := by decide +kernel
theorem d5_15 : decode jdk_117_method_8_code 15 = .ok (.iconst 0, 1) := by decide +kernel
theorem d5_16 : decode jdk_117_method_8_code 16 = .ok (.ireturn, 1) := by decide +kernel
theorem pn_rmFin : plainName "java/lang/Double" = true := by first | (simp [plainName, overriddenIn]; done) | decide +kernel
theorem pd_rmFin : parseMethodDescriptor "(D)Z" = some ⟨[.double], (some .boolean)⟩ := by decide +kernel
theorem ef_rmFin (m : MethodId) (u : UInt64) : entryFrame m #[(.double u)] 2 = (mkF m 0 #[sD u, uS] []) := by first | (simp [entryFrame, mkF, argsToLocals, Value.category, maxLocals]; done) | rfl
def Q_rmFin (Z : State) (u : UInt64) (h0 : Heap) (n0 : Nat) (v : Option Value) (h : Heap) (L : List Loc) : Prop := v = some (.int 1) ∧ Fr n0 L ∧ h = h0
set_option maxRecDepth 65536 in
set_option maxHeartbeats 40000000 in
theorem rmFin (l : Launch) (Z : State) (a0 : Array Value) (hw : ∀ d ∈ tables_1, d.before a0 Z = true) (ws : List Jvm.Cond) (u : UInt64) (h0 : Heap) (n0 : Nat) (Z0 : n0 ≤ h0.size) (Fu : Jvm.FP.Core.DFin u) (Nu : Jvm.Free.Fl.NoNaN64 u) :
    MetFree l (⟨"java/lang/Double", "isFinite", "(D)Z"⟩ : MethodName) (head1 (Jvm.Cond.code (⟨"java/lang/Double", "isFinite", "(D)Z"⟩ : MethodName) jdk_117_method_8_code 2 (some .boolean) :: ws) ({ frames := 1, cells := 0, slots := 0, locals := 13 } : Room)) (fun a U => a = #[(.double u)] ∧ Z.Warmed39 U.vm ∧ U.heap = h0) (fun _ _ _ _ _ => True) (fun _ U oO U' => ∃ v L, oO = .returned v ∧ Q_rmFin Z u h0 n0 v U'.heap L ∧ FrameEnd U oO U' L ({ frames := 1, cells := 0, slots := 0, locals := 13 } : Room).cells ({ frames := 1, cells := 0, slots := 0, locals := 13 } : Room).slots) := by
  refine MetFree.of_bodySF (plainFor_of_name pn_rmFin) hisR ?_
  intro p e s m args below meth c s₁ Bd hml0 hP hK
  obtain ⟨rfl, hZ, hh⟩ := hP
  have hx := Bd.exec
  have hby := Bd.bytes
  have hml : c.maxLocals = 2 := hml0
  have hown : s.vm.findClass "java/lang/Double" = some m.cls := findClass_of_methodNamed Bd.named
  have hnm := (name_of_methodNamed Bd.named Bd.method).1
  have hk := Bd.notSynchronized
  have hrt := Bd.returns
  have X0 : Stand p l e ({ frames := 1, cells := 0, slots := 0, locals := 13 } : Room) s m #[(.double u)] below meth c s₁ [] 0 0 := Stand.of_body Bd
  have e0 : s₁.heap = h0 := by rw [← hh, Bd.state]; rfl
  have N0 := Fr.nil n0
  show OwnGo p.tables e below (OwnEnd s (Q_rmFin Z u h0 n0) ({ frames := 1, cells := 0, slots := 0, locals := 13 } : Room).cells ({ frames := 1, cells := 0, slots := 0, locals := 13 } : Room).slots) _
  refine OwnGo.pre (fun t k => castTop (ef_rmFin m u) k) ?_
  show OwnGo _ _ _ _ (s₁.setTop (mkF m 0 #[sD u, uS] []))
  refine OwnGo.pre (fun t k => XS.dloadN X0.here hx rfl (hb hby d5_0) rfl k) ?_
  show OwnGo _ _ _ _ (s₁.setTop (mkF m 1 #[sD u, uS] [(.double u)]))
  obtain ⟨T1, X1, e1, st1⟩ := natS X0 hx hZ (y := (⟨"java/lang/Math", "abs", "(D)D"⟩ : MethodName)) hown (hw _ (List.mem_of_getElem? (i := 23) rfl)) (hw _ (List.mem_of_getElem? (i := 24) rfl)) (hw _ (List.mem_of_getElem? (i := 3) rfl)) (hw _ (List.mem_of_getElem? (i := 25) rfl)) (by decide) e0 (W := 0) (F := (fun a' => a' = #[.double u] ∧ Jvm.Free.Fl.NoNaN64 u)) (val := (.double (u &&& 0x7fffffffffffffff))) (val' := (.double (u &&& 0x7fffffffffffffff))) (fun c4 => Jvm.Free.Fl.Abs.absD_pays u c4 (by decide) (by decide)) (g := (mkF m 1 #[sD u, uS] [(.double u)])) rfl (by rw [hml]; rfl) (argsL := [(.double u)]) (rest := []) (lenOf pd_absD rfl) rfl (by show 2 * 0 + _ ≤ _; exact Nat.le_of_eq rfl) (hb hby d5_1) (by decide) (by decide) ⟨rfl, Nu⟩ rfl
  refine OwnGo.pre (fun t k => st1 t k) ?_
  show OwnGo _ _ _ _ (T1.setTop (mkF m 4 #[sD u, uS] [(.double (u &&& 0x7fffffffffffffff))]))
  refine OwnGo.pre (fun t k => own_ldcD X1 hx hown (mvT hZ (hw _ (List.mem_of_getElem? (i := 26) rfl))) rfl (hb hby d5_4) (XS.dcmpS X1.here hx rfl (hb hby d5_7) rfl rfl (XS.ifNo X1.here hx rfl (hb hby d5_8) rfl (own_isfin Fu) (XS.iconst X1.here hx rfl (hb hby d5_11) (XS.goto X1.here hx rfl (pc0 := 12) (pc' := 16) rfl (hb hby d5_12) (by decide) (by decide) k))))) ?_
  show OwnGo _ _ _ _ (T1.setTop (mkF m 16 #[sD u, uS] [(.int (1 : Int32))]))
  exact own_retZ X1 hx hk hrt (hb hby d5_16) ⟨rfl, N0, e1⟩ (by decide) (by decide)
theorem d3_0 : decode prog_1_method_1_code 0 = .ok (.aload_n 0, 1) := by decide +kernel
theorem d3_1 : decode prog_1_method_1_code 1 = .ok (.invokespecial 1, 3) := by decide +kernel
theorem d3_4 : decode prog_1_method_1_code 4 = .ok (.dload_n 1, 1) := by decide +kernel
theorem d3_5 : decode prog_1_method_1_code 5 = .ok (.invokestatic 7, 3) := by decide +kernel
theorem d3_8 : decode prog_1_method_1_code 8 = .ok (.ifCond .eq 16, 3) := by decide +kernel
theorem d3_11 : decode prog_1_method_1_code 11 = .ok (.dload_n 3, 1) := by decide +kernel
theorem d3_12 : decode prog_1_method_1_code 12 = .ok (.invokestatic 7, 3) := by decide +kernel
theorem d3_15 : decode prog_1_method_1_code 15 = .ok (.ifCond .eq 9, 3) := by decide +kernel
theorem d3_18 : decode prog_1_method_1_code 18 = .ok (.dload_n 1, 1) := by decide +kernel
theorem d3_19 : decode prog_1_method_1_code 19 = .ok (.dload_n 3, 1) := by decide +kernel
theorem d3_20 : decode prog_1_method_1_code 20 = .ok (.dcmp .l, 1) := by decide +kernel
theorem d3_21 : decode prog_1_method_1_code 21 = .ok (.ifCond .le 18, 3) := by decide +kernel
theorem d3_24 : decode prog_1_method_1_code 24 = .ok (.new 13, 3) := by decide +kernel
theorem d3_27 : decode prog_1_method_1_code 27 = .ok (.dup, 1) := by decide +kernel
theorem d3_28 : decode prog_1_method_1_code 28 = .ok (.dload_n 1, 1) := by decide +kernel
theorem d3_29 : decode prog_1_method_1_code 29 = .ok (.dload_n 3, 1) := by decide +kernel
theorem d3_30 : decode prog_1_method_1_code 30 = .ok (.invokedynamic 15, 5) := by decide +kernel
theorem d3_35 : decode prog_1_method_1_code 35 = .ok (.invokespecial 19, 3) := by decide +kernel
theorem d3_38 : decode prog_1_method_1_code 38 = .ok (.athrow, 1) := by decide +kernel
theorem d3_39 : decode prog_1_method_1_code 39 = .ok (.aload_n 0, 1) := by decide +kernel
theorem d3_40 : decode prog_1_method_1_code 40 = .ok (.dload_n 1, 1) := by decide +kernel
theorem d3_41 : decode prog_1_method_1_code 41 = .ok (.putfield 22, 3) := by decide +kernel
theorem d3_44 : decode prog_1_method_1_code 44 = .ok (.aload_n 0, 1) := by decide +kernel
theorem d3_45 : decode prog_1_method_1_code 45 = .ok (.dload_n 3, 1) := by decide +kernel
theorem d3_46 : decode prog_1_method_1_code 46 = .ok (.putfield 28, 3) := by decide +kernel
theorem d3_49 : decode prog_1_method_1_code 49 = .ok (.return_, 1) := by decide +kernel
theorem pn_rmI : plainName "com/example/bellmin/bellmin/Interval" = true := by first | (simp [plainName, overriddenIn]; done) | decide +kernel
theorem pd_rmI : parseMethodDescriptor "(DD)V" = some ⟨[.double, .double], none⟩ := by decide +kernel
theorem ef_rmI (m : MethodId) (o : Addr) (ul uh : UInt64) (kk il ih : Int) : entryFrame m #[(.ref o), (.double ul), (.double uh)] 5 = (mkF m 0 #[sR o, sD ul, uS, sD uh, uS] []) := by first | (simp [entryFrame, mkF, argsToLocals, Value.category, maxLocals]; done) | rfl
def Q_rmI (Z : State) (o : Addr) (ul uh : UInt64) (kk il ih : Int) (h0 : Heap) (n0 : Nat) (v : Option Value) (h : Heap) (L : List Loc) : Prop := v = none ∧ Fr n0 L ∧ Keep h0 h [o] ∧ Exa Z h o "com/example/bellmin/bellmin/Interval" ∧ Fld Z h o "com/example/bellmin/bellmin/Interval" "lower" "D" (.double ul) ∧ Fld Z h o "com/example/bellmin/bellmin/Interval" "upper" "D" (.double uh)
set_option maxRecDepth 65536 in
set_option maxHeartbeats 40000000 in
theorem rmI (l : Launch) (Z : State) (a0 : Array Value) (hw : ∀ d ∈ tables_1, d.before a0 Z = true) (ws : List Jvm.Cond) (o : Addr) (ul uh : UInt64) (kk il ih : Int) (h0 : Heap) (n0 : Nat) (Z0 : n0 ≤ h0.size) (E : Exa Z h0 o "com/example/bellmin/bellmin/Interval") (F0 : Fld Z h0 o "com/example/bellmin/bellmin/Interval" "lower" "D" (.double 0)) (F1 : Fld Z h0 o "com/example/bellmin/bellmin/Interval" "upper" "D" (.double 0)) (g : n0 ≤ o) (Dl : OwnDS kk il ul) (Dh : OwnDS kk ih uh) (hle : il ≤ ih) :
    MetFree l (⟨"com/example/bellmin/bellmin/Interval", "<init>", "(DD)V"⟩ : MethodName) (head1 (Jvm.Cond.code (⟨"com/example/bellmin/bellmin/Interval", "<init>", "(DD)V"⟩ : MethodName) prog_1_method_1_code 5 none :: ws) ({ frames := 2, cells := 0, slots := 0, locals := 28 } : Room)) (fun a U => a = #[(.ref o), (.double ul), (.double uh)] ∧ Z.Warmed39 U.vm ∧ U.heap = h0) (fun _ _ _ _ _ => True) (fun _ U oO U' => ∃ v L, oO = .returned v ∧ Q_rmI Z o ul uh kk il ih h0 n0 v U'.heap L ∧ FrameEnd U oO U' L ({ frames := 2, cells := 0, slots := 0, locals := 28 } : Room).cells ({ frames := 2, cells := 0, slots := 0, locals := 28 } : Room).slots) := by
  refine MetFree.of_bodySF (plainFor_of_name pn_rmI) hisR ?_
  intro p e s m args below meth c s₁ Bd hml0 hP hK
  obtain ⟨rfl, hZ, hh⟩ := hP
  have hx := Bd.exec
  have hby := Bd.bytes
  have hml : c.maxLocals = 5 := hml0
  have hown : s.vm.findClass "com/example/bellmin/bellmin/Interval" = some m.cls := findClass_of_methodNamed Bd.named
  have hnm := (name_of_methodNamed Bd.named Bd.method).1
  have hk := Bd.notSynchronized
  have hrt := Bd.returns
  have X0 : Stand p l e ({ frames := 2, cells := 0, slots := 0, locals := 28 } : Room) s m #[(.ref o), (.double ul), (.double uh)] below meth c s₁ [] 0 0 := Stand.of_body Bd
  have e0 : s₁.heap = h0 := by rw [← hh, Bd.state]; rfl
  have N0 := Fr.nil n0
  show OwnGo p.tables e below (OwnEnd s (Q_rmI Z o ul uh kk il ih h0 n0) ({ frames := 2, cells := 0, slots := 0, locals := 28 } : Room).cells ({ frames := 2, cells := 0, slots := 0, locals := 28 } : Room).slots) _
  refine OwnGo.pre (fun t k => castTop (ef_rmI m o ul uh kk il ih) k) ?_
  show OwnGo _ _ _ _ (s₁.setTop (mkF m 0 #[sR o, sD ul, uS, sD uh, uS] []))
  refine OwnGo.pre (fun t k => XS.aloadN X0.here hx rfl (hb hby d3_0) rfl rfl k) ?_
  show OwnGo _ _ _ _ (s₁.setTop (mkF m 1 #[sR o, sD ul, uS, sD uh, uS] [(.ref o)]))
  obtain ⟨T2, X2, e2, st2⟩ := initO X0 hx hZ hown (hw _ (List.mem_of_getElem? (i := 16) rfl)) (hw _ (List.mem_of_getElem? (i := 17) rfl)) (hw _ (List.mem_of_getElem? (i := 18) rfl)) e0 (g := (mkF m 1 #[sR o, sD ul, uS, sD uh, uS] [(.ref o)])) rfl (by rw [hml]; rfl) rfl (hb hby d3_1) (by decide) (W := 0) (by show 2 * 0 + _ ≤ _; exact Nat.le_of_eq rfl) (by decide)
  refine OwnGo.pre (fun t k => st2 t k) ?_
  show OwnGo _ _ _ _ (T2.setTop (mkF m 4 #[sR o, sD ul, uS, sD uh, uS] []))
  refine OwnGo.pre (fun t k => XS.dloadN X2.here hx rfl (hb hby d3_4) rfl k) ?_
  show OwnGo _ _ _ _ (T2.setTop (mkF m 5 #[sR o, sD ul, uS, sD uh, uS] [(.double ul)]))
  obtain ⟨_, _, ⟨T3, L3, k3, n3⟩, -, X3, ⟨Lc3, hQ3, l3, y3, z3⟩, st3⟩ := Jvm.LawKit.callS X2 hx (y := (⟨"java/lang/Double", "isFinite", "(D)Z"⟩ : MethodName)) hown (mvT hZ (hw _ (List.mem_of_getElem? (i := 19) rfl))) (mvT hZ (hw _ (List.mem_of_getElem? (i := 20) rfl))) (mvT hZ (hw _ (List.mem_of_getElem? (i := 21) rfl))) (mvT hZ (hw _ (List.mem_of_getElem? (i := 22) rfl))) (by decide) (backOf (W := 0) (rmFin l Z a0 hw [] ul h0 n0 Z0 (own_fin Dl) (own_nn Dl)) hZ (hw _ (List.mem_of_getElem? (i := 22) rfl)) (hw _ (List.mem_of_getElem? (i := 21) rfl)) (by decide) (by decide)) (g := (mkF m 5 #[sR o, sD ul, uS, sD uh, uS] [(.double ul)])) rfl (by rw [hml]; rfl) (argsL := [(.double ul)]) (rest := []) (lenOf pd_rmFin rfl) rfl (by show 2 * 0 + _ ≤ _; exact Nat.le_of_eq rfl) (hb hby d3_5) (fun _ _ => ⟨rfl, e2, (by decide : 0 + 0 ≤ _), (by decide : 0 + 0 ≤ _)⟩)
  dsimp only [Pt.U, Pt.locs, Pt.cells, Pt.slots] at X3 l3 y3 z3 st3 hQ3
  subst l3 y3 z3
  obtain ⟨rfl, N3, e3⟩ := hQ3
  refine OwnGo.pre (fun t k => st3 t k) ?_
  show OwnGo _ _ _ _ (T3.setTop (mkF m 8 #[sR o, sD ul, uS, sD uh, uS] [(.int (1 : Int32))]))
  have M3 := Fr.app N0 N3
  refine OwnGo.pre (fun t k => XS.ifNo X3.here hx rfl (hb hby d3_8) rfl (by decide) (XS.dloadN X3.here hx rfl (hb hby d3_11) rfl k)) ?_
  show OwnGo _ _ _ _ (T3.setTop (mkF m 12 #[sR o, sD ul, uS, sD uh, uS] [(.double uh)]))
  obtain ⟨_, _, ⟨T4, L4, k4, n4⟩, -, X4, ⟨Lc4, hQ4, l4, y4, z4⟩, st4⟩ := Jvm.LawKit.callS X3 hx (y := (⟨"java/lang/Double", "isFinite", "(D)Z"⟩ : MethodName)) hown (mvT hZ (hw _ (List.mem_of_getElem? (i := 19) rfl))) (mvT hZ (hw _ (List.mem_of_getElem? (i := 20) rfl))) (mvT hZ (hw _ (List.mem_of_getElem? (i := 21) rfl))) (mvT hZ (hw _ (List.mem_of_getElem? (i := 22) rfl))) (by decide) (backOf (W := 0) (rmFin l Z a0 hw [] uh h0 n0 Z0 (own_fin Dh) (own_nn Dh)) hZ (hw _ (List.mem_of_getElem? (i := 22) rfl)) (hw _ (List.mem_of_getElem? (i := 21) rfl)) (by decide) (by decide)) (g := (mkF m 12 #[sR o, sD ul, uS, sD uh, uS] [(.double uh)])) rfl (by rw [hml]; rfl) (argsL := [(.double uh)]) (rest := []) (lenOf pd_rmFin rfl) rfl (by show 2 * 0 + _ ≤ _; exact Nat.le_of_eq rfl) (hb hby d3_12) (fun _ _ => ⟨rfl, e3, (by decide : 0 + 0 ≤ _), (by decide : 0 + 0 ≤ _)⟩)
  dsimp only [Pt.U, Pt.locs, Pt.cells, Pt.slots] at X4 l4 y4 z4 st4 hQ4
  subst l4 y4 z4
  obtain ⟨rfl, N4, e4⟩ := hQ4
  refine OwnGo.pre (fun t k => st4 t k) ?_
  show OwnGo _ _ _ _ (T4.setTop (mkF m 15 #[sR o, sD ul, uS, sD uh, uS] [(.int (1 : Int32))]))
  have M4 := Fr.app M3 N4
  refine OwnGo.pre (fun t k => XS.ifNo X4.here hx rfl (hb hby d3_15) rfl (by decide) (XS.dloadN X4.here hx rfl (hb hby d3_18) rfl (XS.dloadN X4.here hx rfl (hb hby d3_19) rfl (XS.dcmpS X4.here hx rfl (hb hby d3_20) rfl rfl (XS.ifYes X4.here hx rfl (pc0 := 21) (pc' := 39) rfl (hb hby d3_21) rfl ((own_brD .le Dl Dh _).trans (decide_eq_true (by omega))) (by decide) (by decide) (XS.aloadN X4.here hx rfl (hb hby d3_39) rfl rfl (XS.dloadN X4.here hx rfl (hb hby d3_40) rfl k))))))) ?_
  show OwnGo _ _ _ _ (T4.setTop (mkF m 41 #[sR o, sD ul, uS, sD uh, uS] [(.double ul), (.ref o)]))
  obtain ⟨T5, h5, X5, e5, W5, st5⟩ := putF X4 hx hZ hown (host := "") (Or.inl (hw _ (List.mem_of_getElem? (i := 27) rfl))) Via.refl e4 F0 E (Or.inr ⟨(hw _ (List.mem_of_getElem? (i := 28) rfl)), rfl, hnm⟩) (hw _ (List.mem_of_getElem? (i := 11) rfl)) (ty := .double) (by decide) rfl rfl (g := (mkF m 41 #[sR o, sD ul, uS, sD uh, uS] [(.double ul), (.ref o)])) rfl rfl (hb hby d3_41)
  have N5 := Fr.snoc X5 M4 g
  refine OwnGo.pre (fun t k => st5 t k) ?_
  show OwnGo _ _ _ _ (T5.setTop (mkF m 44 #[sR o, sD ul, uS, sD uh, uS] []))
  have F5_0 := (F0).same W5
  have F5_1 := (F1).other W5 (Or.inr (slot_ne (Or.inr (hw _ (List.mem_of_getElem? (i := 30) rfl))) (Or.inr (hw _ (List.mem_of_getElem? (i := 28) rfl))) (by decide) (t := .double) (by decide) (t' := .double) (by decide)))
  have E5 := (E).wr W5
  have P5 := (Keep.refl h0 [o]).wr W5 (Or.inl (List.mem_of_getElem? (i := 0) rfl))
  refine OwnGo.pre (fun t k => XS.aloadN X5.here hx rfl (hb hby d3_44) rfl rfl (XS.dloadN X5.here hx rfl (hb hby d3_45) rfl k)) ?_
  show OwnGo _ _ _ _ (T5.setTop (mkF m 46 #[sR o, sD ul, uS, sD uh, uS] [(.double uh), (.ref o)]))
  obtain ⟨T6, h6, X6, e6, W6, st6⟩ := putF X5 hx hZ hown (host := "") (Or.inl (hw _ (List.mem_of_getElem? (i := 29) rfl))) Via.refl e5 F5_1 E5 (Or.inr ⟨(hw _ (List.mem_of_getElem? (i := 30) rfl)), rfl, hnm⟩) (hw _ (List.mem_of_getElem? (i := 11) rfl)) (ty := .double) (by decide) rfl rfl (g := (mkF m 46 #[sR o, sD ul, uS, sD uh, uS] [(.double uh), (.ref o)])) rfl rfl (hb hby d3_46)
  have N6 := Fr.snoc X6 N5 g
  refine OwnGo.pre (fun t k => st6 t k) ?_
  show OwnGo _ _ _ _ (T6.setTop (mkF m 49 #[sR o, sD ul, uS, sD uh, uS] []))
  have F6_0 := (F5_0).other W6 (Or.inr (slot_ne (Or.inr (hw _ (List.mem_of_getElem? (i := 28) rfl))) (Or.inr (hw _ (List.mem_of_getElem? (i := 30) rfl))) (by decide) (t := .double) (by decide) (t' := .double) (by decide)))
  have F6_1 := (F5_1).same W6
  have E6 := (E5).wr W6
  have P6 := P5.wr W6 (Or.inl (List.mem_of_getElem? (i := 0) rfl))
  rw [← e6] at P6 E6 F6_0 F6_1
  exact own_ret0 X6 hx hk hrt (hb hby d3_49) ⟨rfl, N6, P6, E6, F6_0, F6_1⟩ (by decide) (by decide)
theorem d7_0 : decode prog_1_method_4_code 0 = .ok (.aload_n 0, 1) := by decide +kernel
theorem d7_1 : decode prog_1_method_4_code 1 = .ok (.getfield 22, 3) := by decide +kernel
theorem d7_4 : decode prog_1_method_4_code 4 = .ok (.aload_n 0, 1) := by decide +kernel
theorem d7_5 : decode prog_1_method_4_code 5 = .ok (.getfield 28, 3) := by decide +kernel
theorem d7_8 : decode prog_1_method_4_code 8 = .ok (.aload_n 0, 1) := by decide +kernel
theorem d7_9 : decode prog_1_method_4_code 9 = .ok (.getfield 22, 3) := by decide +kernel
theorem d7_12 : decode prog_1_method_4_code 12 = .ok (.dsub, 1) := by decide +kernel
theorem d7_13 : decode prog_1_method_4_code 13 = .ok (.ldc2_w 31, 3) := by decide +kernel
theorem d7_16 : decode prog_1_method_4_code 16 = .ok (.ddiv, 1) := by decide +kernel
theorem d7_17 : decode prog_1_method_4_code 17 = .ok (.dadd, 1) := by decide +kernel
theorem d7_18 : decode prog_1_method_4_code 18 = .ok (.dreturn, 1) := by decide +kernel
theorem pn_rmM0 : plainName "com/example/bellmin/bellmin/Interval" = true := by first | (simp [plainName, overriddenIn]; done) | decide +kernel
theorem pd_rmM0 : parseMethodDescriptor "()D" = some ⟨[], (some .double)⟩ := by decide +kernel
theorem ef_rmM0 (m : MethodId) (o : Addr) (ul uh : UInt64) (il ih : Int) : entryFrame m #[(.ref o)] 1 = (mkF m 0 #[sR o] []) := by first | (simp [entryFrame, mkF, argsToLocals, Value.category, maxLocals]; done) | rfl
def Q_rmM0 (Z : State) (o : Addr) (ul uh : UInt64) (il ih : Int) (h0 : Heap) (n0 : Nat) (v : Option Value) (h : Heap) (L : List Loc) : Prop := ∃ r, v = some (.double r) ∧ OwnDS (-1) (il + ih) r ∧ Fr n0 L ∧ h = h0
set_option maxRecDepth 65536 in
set_option maxHeartbeats 40000000 in
theorem rmM0 (l : Launch) (Z : State) (a0 : Array Value) (hw : ∀ d ∈ tables_1, d.before a0 Z = true) (ws : List Jvm.Cond) (o : Addr) (ul uh : UInt64) (il ih : Int) (h0 : Heap) (n0 : Nat) (Z0 : n0 ≤ h0.size) (F0 : Fld Z h0 o "com/example/bellmin/bellmin/Interval" "lower" "D" (.double ul)) (F1 : Fld Z h0 o "com/example/bellmin/bellmin/Interval" "upper" "D" (.double uh)) (Dl : OwnDS 0 il ul) (Dh : OwnDS 0 ih uh) (b1 : (ih - il).natAbs < 2 ^ 34) (b2 : (il + ih).natAbs < 2 ^ 34) :
    MetFree l (⟨"com/example/bellmin/bellmin/Interval", "midpoint", "()D"⟩ : MethodName) (head1 (Jvm.Cond.code (⟨"com/example/bellmin/bellmin/Interval", "midpoint", "()D"⟩ : MethodName) prog_1_method_4_code 1 (some .double) :: ws) ({ frames := 0, cells := 0, slots := 0, locals := 0 } : Room)) (fun a U => a = #[(.ref o)] ∧ Z.Warmed39 U.vm ∧ U.heap = h0) (fun _ _ _ _ _ => True) (fun _ U oO U' => ∃ v L, oO = .returned v ∧ Q_rmM0 Z o ul uh il ih h0 n0 v U'.heap L ∧ FrameEnd U oO U' L ({ frames := 0, cells := 0, slots := 0, locals := 0 } : Room).cells ({ frames := 0, cells := 0, slots := 0, locals := 0 } : Room).slots) := by
  refine MetFree.of_bodySF (plainFor_of_name pn_rmM0) hisR ?_
  intro p e s m args below meth c s₁ Bd hml0 hP hK
  obtain ⟨rfl, hZ, hh⟩ := hP
  have hx := Bd.exec
  have hby := Bd.bytes
  have hml : c.maxLocals = 1 := hml0
  have hown : s.vm.findClass "com/example/bellmin/bellmin/Interval" = some m.cls := findClass_of_methodNamed Bd.named
  have hnm := (name_of_methodNamed Bd.named Bd.method).1
  have hk := Bd.notSynchronized
  have hrt := Bd.returns
  have X0 : Stand p l e ({ frames := 0, cells := 0, slots := 0, locals := 0 } : Room) s m #[(.ref o)] below meth c s₁ [] 0 0 := Stand.of_body Bd
  have e0 : s₁.heap = h0 := by rw [← hh, Bd.state]; rfl
  have N0 := Fr.nil n0
  show OwnGo p.tables e below (OwnEnd s (Q_rmM0 Z o ul uh il ih h0 n0) ({ frames := 0, cells := 0, slots := 0, locals := 0 } : Room).cells ({ frames := 0, cells := 0, slots := 0, locals := 0 } : Room).slots) _
  refine OwnGo.pre (fun t k => castTop (ef_rmM0 m o ul uh il ih) k) ?_
  show OwnGo _ _ _ _ (s₁.setTop (mkF m 0 #[sR o] []))
  refine OwnGo.pre (fun t k => XS.aloadN X0.here hx rfl (hb hby d7_0) rfl rfl k) ?_
  show OwnGo _ _ _ _ (s₁.setTop (mkF m 1 #[sR o] [(.ref o)]))
  obtain ⟨T7, X7, e7, st7⟩ := getF X0 hx hZ hown (host := "") (Or.inl (hw _ (List.mem_of_getElem? (i := 27) rfl))) Via.refl e0 F0 (g := (mkF m 1 #[sR o] [(.ref o)])) rfl rfl (hb hby d7_1)
  refine OwnGo.pre (fun t k => st7 t k) ?_
  show OwnGo _ _ _ _ (T7.setTop (mkF m 4 #[sR o] [(.double ul)]))
  refine OwnGo.pre (fun t k => XS.aloadN X7.here hx rfl (hb hby d7_4) rfl rfl k) ?_
  show OwnGo _ _ _ _ (T7.setTop (mkF m 5 #[sR o] [(.ref o), (.double ul)]))
  obtain ⟨T8, X8, e8, st8⟩ := getF X7 hx hZ hown (host := "") (Or.inl (hw _ (List.mem_of_getElem? (i := 29) rfl))) Via.refl e7 F1 (g := (mkF m 5 #[sR o] [(.ref o), (.double ul)])) rfl rfl (hb hby d7_5)
  refine OwnGo.pre (fun t k => st8 t k) ?_
  show OwnGo _ _ _ _ (T8.setTop (mkF m 8 #[sR o] [(.double uh), (.double ul)]))
  refine OwnGo.pre (fun t k => XS.aloadN X8.here hx rfl (hb hby d7_8) rfl rfl k) ?_
  show OwnGo _ _ _ _ (T8.setTop (mkF m 9 #[sR o] [(.ref o), (.double uh), (.double ul)]))
  obtain ⟨T9, X9, e9, st9⟩ := getF X8 hx hZ hown (host := "") (Or.inl (hw _ (List.mem_of_getElem? (i := 27) rfl))) Via.refl e8 F0 (g := (mkF m 9 #[sR o] [(.ref o), (.double uh), (.double ul)])) rfl rfl (hb hby d7_9)
  refine OwnGo.pre (fun t k => st9 t k) ?_
  show OwnGo _ _ _ _ (T9.setTop (mkF m 12 #[sR o] [(.double ul), (.double uh), (.double ul)]))
  have D1 : OwnDS 0 (ih - il) (FP.dsub uh ul) := own_ds_sub (n := 34) Dh Dl b1
  obtain ⟨d1, hd1⟩ : ∃ v, FP.dsub uh ul = v := ⟨_, rfl⟩
  refine OwnGo.pre (fun t k => XS.dsubS X9.here hx rfl (hb hby d7_12) rfl (own_nn D1) hd1 k) ?_
  show OwnGo _ _ _ _ (T9.setTop (mkF m 13 #[sR o] [(.double d1), (.double ul)]))
  rw [hd1] at D1
  have D2 : OwnDS (-1) (ih - il) (FP.ddiv d1 4611686018427387904) := own_ds_div (n := 34) D1 own_two (by decide) (Int.mul_one _).symm b1
  obtain ⟨d2, hd2⟩ : ∃ v, FP.ddiv d1 (4611686018427387904 : UInt64) = v := ⟨_, rfl⟩
  refine OwnGo.pre (fun t k => own_ldcD X9 hx hown (mvT hZ (hw _ (List.mem_of_getElem? (i := 36) rfl))) rfl (hb hby d7_13) (XS.ddivS X9.here hx rfl (hb hby d7_16) rfl (own_nn D2) hd2 k)) ?_
  show OwnGo _ _ _ _ (T9.setTop (mkF m 17 #[sR o] [(.double d2), (.double ul)]))
  rw [hd2] at D2
  have D3 : OwnDS (-1) (il * ((2 ^ 1 : Nat) : Int)) ul := own_ds_down (k := -1) 1 Dl
  have D4 : OwnDS (-1) (il + ih) (FP.dadd ul d2) := by have q := own_ds_add (n := 34) D3 D2 (by omega); rw [show il * ((2 ^ 1 : Nat) : Int) + (ih - il) = il + ih by omega] at q; exact q
  obtain ⟨d4, hd4⟩ : ∃ v, FP.dadd ul d2 = v := ⟨_, rfl⟩
  refine OwnGo.pre (fun t k => XS.daddS X9.here hx rfl (hb hby d7_17) rfl (own_nn D4) hd4 k) ?_
  show OwnGo _ _ _ _ (T9.setTop (mkF m 18 #[sR o] [(.double d4)]))
  rw [hd4] at D4
  exact own_retD X9 hx hk hrt (hb hby d7_18) ⟨_, rfl, D4, N0, e9⟩ (by decide) (by decide)
theorem pn_rmM1 : plainName "com/example/bellmin/bellmin/Interval" = true := by first | (simp [plainName, overriddenIn]; done) | decide +kernel
theorem pd_rmM1 : parseMethodDescriptor "()D" = some ⟨[], (some .double)⟩ := by decide +kernel
theorem ef_rmM1 (m : MethodId) (o : Addr) (ul uh : UInt64) (il ih : Int) : entryFrame m #[(.ref o)] 1 = (mkF m 0 #[sR o] []) := by first | (simp [entryFrame, mkF, argsToLocals, Value.category, maxLocals]; done) | rfl
def Q_rmM1 (Z : State) (o : Addr) (ul uh : UInt64) (il ih : Int) (h0 : Heap) (n0 : Nat) (v : Option Value) (h : Heap) (L : List Loc) : Prop := ∃ r, v = some (.double r) ∧ OwnDS 992 (il + ih) r ∧ Fr n0 L ∧ h = h0
set_option maxRecDepth 65536 in
set_option maxHeartbeats 40000000 in
theorem rmM1 (l : Launch) (Z : State) (a0 : Array Value) (hw : ∀ d ∈ tables_1, d.before a0 Z = true) (ws : List Jvm.Cond) (o : Addr) (ul uh : UInt64) (il ih : Int) (h0 : Heap) (n0 : Nat) (Z0 : n0 ≤ h0.size) (F0 : Fld Z h0 o "com/example/bellmin/bellmin/Interval" "lower" "D" (.double ul)) (F1 : Fld Z h0 o "com/example/bellmin/bellmin/Interval" "upper" "D" (.double uh)) (Dl : OwnDS 993 il ul) (Dh : OwnDS 993 ih uh) (b1 : (ih - il).natAbs < 2 ^ 31) (b2 : (il + ih).natAbs < 2 ^ 32) :
    MetFree l (⟨"com/example/bellmin/bellmin/Interval", "midpoint", "()D"⟩ : MethodName) (head1 (Jvm.Cond.code (⟨"com/example/bellmin/bellmin/Interval", "midpoint", "()D"⟩ : MethodName) prog_1_method_4_code 1 (some .double) :: ws) ({ frames := 0, cells := 0, slots := 0, locals := 0 } : Room)) (fun a U => a = #[(.ref o)] ∧ Z.Warmed39 U.vm ∧ U.heap = h0) (fun _ _ _ _ _ => True) (fun _ U oO U' => ∃ v L, oO = .returned v ∧ Q_rmM1 Z o ul uh il ih h0 n0 v U'.heap L ∧ FrameEnd U oO U' L ({ frames := 0, cells := 0, slots := 0, locals := 0 } : Room).cells ({ frames := 0, cells := 0, slots := 0, locals := 0 } : Room).slots) := by
  refine MetFree.of_bodySF (plainFor_of_name pn_rmM1) hisR ?_
  intro p e s m args below meth c s₁ Bd hml0 hP hK
  obtain ⟨rfl, hZ, hh⟩ := hP
  have hx := Bd.exec
  have hby := Bd.bytes
  have hml : c.maxLocals = 1 := hml0
  have hown : s.vm.findClass "com/example/bellmin/bellmin/Interval" = some m.cls := findClass_of_methodNamed Bd.named
  have hnm := (name_of_methodNamed Bd.named Bd.method).1
  have hk := Bd.notSynchronized
  have hrt := Bd.returns
  have X0 : Stand p l e ({ frames := 0, cells := 0, slots := 0, locals := 0 } : Room) s m #[(.ref o)] below meth c s₁ [] 0 0 := Stand.of_body Bd
  have e0 : s₁.heap = h0 := by rw [← hh, Bd.state]; rfl
  have N0 := Fr.nil n0
  show OwnGo p.tables e below (OwnEnd s (Q_rmM1 Z o ul uh il ih h0 n0) ({ frames := 0, cells := 0, slots := 0, locals := 0 } : Room).cells ({ frames := 0, cells := 0, slots := 0, locals := 0 } : Room).slots) _
  refine OwnGo.pre (fun t k => castTop (ef_rmM1 m o ul uh il ih) k) ?_
  show OwnGo _ _ _ _ (s₁.setTop (mkF m 0 #[sR o] []))
  refine OwnGo.pre (fun t k => XS.aloadN X0.here hx rfl (hb hby d7_0) rfl rfl k) ?_
  show OwnGo _ _ _ _ (s₁.setTop (mkF m 1 #[sR o] [(.ref o)]))
  obtain ⟨T10, X10, e10, st10⟩ := getF X0 hx hZ hown (host := "") (Or.inl (hw _ (List.mem_of_getElem? (i := 27) rfl))) Via.refl e0 F0 (g := (mkF m 1 #[sR o] [(.ref o)])) rfl rfl (hb hby d7_1)
  refine OwnGo.pre (fun t k => st10 t k) ?_
  show OwnGo _ _ _ _ (T10.setTop (mkF m 4 #[sR o] [(.double ul)]))
  refine OwnGo.pre (fun t k => XS.aloadN X10.here hx rfl (hb hby d7_4) rfl rfl k) ?_
  show OwnGo _ _ _ _ (T10.setTop (mkF m 5 #[sR o] [(.ref o), (.double ul)]))
  obtain ⟨T11, X11, e11, st11⟩ := getF X10 hx hZ hown (host := "") (Or.inl (hw _ (List.mem_of_getElem? (i := 29) rfl))) Via.refl e10 F1 (g := (mkF m 5 #[sR o] [(.ref o), (.double ul)])) rfl rfl (hb hby d7_5)
  refine OwnGo.pre (fun t k => st11 t k) ?_
  show OwnGo _ _ _ _ (T11.setTop (mkF m 8 #[sR o] [(.double uh), (.double ul)]))
  refine OwnGo.pre (fun t k => XS.aloadN X11.here hx rfl (hb hby d7_8) rfl rfl k) ?_
  show OwnGo _ _ _ _ (T11.setTop (mkF m 9 #[sR o] [(.ref o), (.double uh), (.double ul)]))
  obtain ⟨T12, X12, e12, st12⟩ := getF X11 hx hZ hown (host := "") (Or.inl (hw _ (List.mem_of_getElem? (i := 27) rfl))) Via.refl e11 F0 (g := (mkF m 9 #[sR o] [(.ref o), (.double uh), (.double ul)])) rfl rfl (hb hby d7_9)
  refine OwnGo.pre (fun t k => st12 t k) ?_
  show OwnGo _ _ _ _ (T12.setTop (mkF m 12 #[sR o] [(.double ul), (.double uh), (.double ul)]))
  have D1 : OwnDS 993 (ih - il) (FP.dsub uh ul) := own_ds_sub (n := 31) Dh Dl b1
  obtain ⟨d1, hd1⟩ : ∃ v, FP.dsub uh ul = v := ⟨_, rfl⟩
  refine OwnGo.pre (fun t k => XS.dsubS X12.here hx rfl (hb hby d7_12) rfl (own_nn D1) hd1 k) ?_
  show OwnGo _ _ _ _ (T12.setTop (mkF m 13 #[sR o] [(.double d1), (.double ul)]))
  rw [hd1] at D1
  have D2 : OwnDS 992 (ih - il) (FP.ddiv d1 4611686018427387904) := own_ds_div (n := 31) D1 own_two (by decide) (Int.mul_one _).symm b1
  obtain ⟨d2, hd2⟩ : ∃ v, FP.ddiv d1 (4611686018427387904 : UInt64) = v := ⟨_, rfl⟩
  refine OwnGo.pre (fun t k => own_ldcD X12 hx hown (mvT hZ (hw _ (List.mem_of_getElem? (i := 36) rfl))) rfl (hb hby d7_13) (XS.ddivS X12.here hx rfl (hb hby d7_16) rfl (own_nn D2) hd2 k)) ?_
  show OwnGo _ _ _ _ (T12.setTop (mkF m 17 #[sR o] [(.double d2), (.double ul)]))
  rw [hd2] at D2
  have D3 : OwnDS 992 (il * ((2 ^ 1 : Nat) : Int)) ul := own_ds_down (k := 992) 1 Dl
  have D4 : OwnDS 992 (il + ih) (FP.dadd ul d2) := by have q := own_ds_add (n := 32) D3 D2 (by omega); rw [show il * ((2 ^ 1 : Nat) : Int) + (ih - il) = il + ih by omega] at q; exact q
  obtain ⟨d4, hd4⟩ : ∃ v, FP.dadd ul d2 = v := ⟨_, rfl⟩
  refine OwnGo.pre (fun t k => XS.daddS X12.here hx rfl (hb hby d7_17) rfl (own_nn D4) hd4 k) ?_
  show OwnGo _ _ _ _ (T12.setTop (mkF m 18 #[sR o] [(.double d4)]))
  rw [hd4] at D4
  exact own_retD X12 hx hk hrt (hb hby d7_18) ⟨_, rfl, D4, N0, e12⟩ (by decide) (by decide)
theorem pn_rmL : plainName "com/example/bellmin/bellmin/IntervalMidpointPinLaw" = true := by first | (simp [plainName, overriddenIn]; done) | decide +kernel
theorem ef_rmL (m : MethodId) (p0 p1 p2 : Int32) : entryFrame m #[(.int p0), (.int p1), (.int p2)] maxLocals = (mkF m 0 #[sI p0, sI p1, sI p2, uU, uU, uU, uU, uU, uU, uU, uU, uU, uU] []) := by first | (simp [entryFrame, mkF, argsToLocals, Value.category, maxLocals]; done) | rfl
def Q_rmL (Z : State) (p0 p1 p2 : Int32) (h0 : Heap) (n0 : Nat) (v : Option Value) (h : Heap) (L : List Loc) : Prop := v = some (.int 1) ∧ Fr n0 L
set_option maxRecDepth 65536 in
set_option maxHeartbeats 40000000 in
theorem rmL (l : Launch) (Z : State) (a0 : Array Value) (hw : ∀ d ∈ tables_1, d.before a0 Z = true) (ws : List Jvm.Cond) (p0 p1 p2 : Int32) (h0 : Heap) (n0 : Nat) (Z0 : n0 ≤ h0.size)  :
    MetFree l x (head1 (Jvm.Cond.code x code maxLocals ret :: ws) room_1) (fun a U => a = #[(.int p0), (.int p1), (.int p2)] ∧ Z.Warmed39 U.vm ∧ U.heap = h0) (fun _ _ _ _ _ => True) (fun _ U oO U' => ∃ v L, oO = .returned v ∧ Q_rmL Z p0 p1 p2 h0 n0 v U'.heap L ∧ FrameEnd U oO U' L room_1.cells room_1.slots) := by
  refine MetFree.of_bodySF (plainFor_of_name pn_rmL) hisR ?_
  intro p e s m args below meth c s₁ Bd hml0 hP hK
  obtain ⟨rfl, hZ, hh⟩ := hP
  have hx := Bd.exec
  have hby := Bd.bytes
  have hml : c.maxLocals = 13 := hml0
  have hown : s.vm.findClass "com/example/bellmin/bellmin/IntervalMidpointPinLaw" = some m.cls := findClass_of_methodNamed Bd.named
  have hnm := (name_of_methodNamed Bd.named Bd.method).1
  have hk := Bd.notSynchronized
  have hrt := Bd.returns
  have X0 : Stand p l e room_1 s m #[(.int p0), (.int p1), (.int p2)] below meth c s₁ [] 0 0 := Stand.of_body Bd
  have e0 : s₁.heap = h0 := by rw [← hh, Bd.state]; rfl
  have N0 := Fr.nil n0
  show OwnGo p.tables e below (OwnEnd s (Q_rmL Z p0 p1 p2 h0 n0) room_1.cells room_1.slots) _
  refine OwnGo.pre (fun t k => castTop (ef_rmL m p0 p1 p2) k) ?_
  show OwnGo _ _ _ _ (s₁.setTop (mkF m 0 #[sI p0, sI p1, sI p2, uU, uU, uU, uU, uU, uU, uU, uU, uU, uU] []))
  obtain ⟨sel, hsel⟩ : ∃ v, (p2 &&& (2147483647 : Int32)) - (p2 &&& (2147483647 : Int32)) / (3 : Int32) * (3 : Int32) = v := ⟨_, rfl⟩
  refine OwnGo.pre (fun t k => XS.iloadN X0.here hx rfl (hb hby at_0) rfl (own_ldcI X0 hx hown (mvT hZ (hw _ (List.mem_of_getElem? (i := 0) rfl))) rfl (hb hby at_1) (own_iand X0.here hx rfl (hb hby at_3) rfl rfl (XS.iconst X0.here hx rfl (hb hby at_4) (own_irem X0.here hx rfl (hb hby at_5) rfl (by decide) hsel (XS.istoreN X0.here hx rfl (hb hby at_6) rfl (l' := #[sI p0, sI p1, sI p2, sI sel, uU, uU, uU, uU, uU, uU, uU, uU, uU]) rfl (XS.iloadN X0.here hx rfl (hb hby at_7) rfl k))))))) ?_
  show OwnGo _ _ _ _ (s₁.setTop (mkF m 8 #[sI p0, sI p1, sI p2, sI sel, uU, uU, uU, uU, uU, uU, uU, uU, uU] [(.int sel)]))
  by_cases hs0 : ifCond.holds .ne sel = true
  · skip
    obtain ⟨ma, hma⟩ : ∃ v, p0 &&& (2147483647 : Int32) = v := ⟨_, rfl⟩
    obtain ⟨mb, hmb⟩ : ∃ v, p1 &&& (2147483647 : Int32) = v := ⟨_, rfl⟩
    obtain ⟨jma, Fma⟩ : ∃ i : Int, ma.toInt = i := ⟨_, rfl⟩
    have Bma : 0 ≤ jma ∧ jma ≤ 2147483647 := by have q := Jvm.Kit.i32_mask p0 2147483647 (k := 31) (by decide) (by decide); rw [hma, Fma] at q; omega
    obtain ⟨jmb, Fmb⟩ : ∃ i : Int, mb.toInt = i := ⟨_, rfl⟩
    have Bmb : 0 ≤ jmb ∧ jmb ≤ 2147483647 := by have q := Jvm.Kit.i32_mask p1 2147483647 (k := 31) (by decide) (by decide); rw [hmb, Fmb] at q; omega
    refine OwnGo.pre (fun t k => XS.ifYes X0.here hx rfl (pc0 := 8) (pc' := 69) rfl (hb hby at_8) rfl hs0 (by decide) (by decide) (XS.iloadN X0.here hx rfl (hb hby at_69) rfl (own_ldcI X0 hx hown (mvT hZ (hw _ (List.mem_of_getElem? (i := 0) rfl))) rfl (hb hby at_70) (own_iand X0.here hx rfl (hb hby at_72) rfl hma (XS.iloadN X0.here hx rfl (hb hby at_73) rfl (own_ldcI X0 hx hown (mvT hZ (hw _ (List.mem_of_getElem? (i := 0) rfl))) rfl (hb hby at_74) (own_iand X0.here hx rfl (hb hby at_76) rfl hmb k))))))) ?_
    show OwnGo _ _ _ _ (s₁.setTop (mkF m 77 #[sI p0, sI p1, sI p2, sI sel, uU, uU, uU, uU, uU, uU, uU, uU, uU] [(.int mb), (.int ma)]))
    obtain ⟨_, _, ⟨T13, L13, k13, n13⟩, -, X13, ⟨Lc13, hQ13, l13, y13, z13⟩, st13⟩ := Jvm.LawKit.callS X0 hx (y := (⟨"java/lang/Math", "min", "(II)I"⟩ : MethodName)) hown (mvT hZ (hw _ (List.mem_of_getElem? (i := 1) rfl))) (mvT hZ (hw _ (List.mem_of_getElem? (i := 2) rfl))) (mvT hZ (hw _ (List.mem_of_getElem? (i := 3) rfl))) (mvT hZ (hw _ (List.mem_of_getElem? (i := 4) rfl))) (by decide) (backOf (W := 0) (rmMin l Z a0 hw [] ma mb h0 n0 Z0 ) hZ (hw _ (List.mem_of_getElem? (i := 4) rfl)) (hw _ (List.mem_of_getElem? (i := 3) rfl)) (by decide) (by decide)) (g := (mkF m 77 #[sI p0, sI p1, sI p2, sI sel, uU, uU, uU, uU, uU, uU, uU, uU, uU] [(.int mb), (.int ma)])) rfl (by rw [hml]; rfl) (argsL := [(.int ma), (.int mb)]) (rest := []) (lenOf pd_rmMin rfl) rfl (by show 2 * 0 + _ ≤ _; exact Nat.le_of_eq rfl) (hb hby at_77) (fun _ _ => ⟨rfl, e0, (by decide : 0 + 0 ≤ _), (by decide : 0 + 0 ≤ _)⟩)
    dsimp only [Pt.U, Pt.locs, Pt.cells, Pt.slots] at X13 l13 y13 z13 st13 hQ13
    subst l13 y13 z13
    obtain ⟨lo, rfl, Flo, N13, e13⟩ := hQ13
    refine OwnGo.pre (fun t k => st13 t k) ?_
    show OwnGo _ _ _ _ (T13.setTop (mkF m 80 #[sI p0, sI p1, sI p2, sI sel, uU, uU, uU, uU, uU, uU, uU, uU, uU] [(.int lo)]))
    have M13 := Fr.app N0 N13
    obtain ⟨jlo, hjlo⟩ : ∃ i : Int, lo.toInt = i := ⟨_, rfl⟩
    rw [hjlo] at Flo
    have Blo : -2147483647 ≤ jlo ∧ jlo ≤ 2147483647 := by omega
    obtain ⟨maq, hmaq⟩ : ∃ v, p0 &&& (2147483647 : Int32) = v := ⟨_, rfl⟩
    obtain ⟨mbq, hmbq⟩ : ∃ v, p1 &&& (2147483647 : Int32) = v := ⟨_, rfl⟩
    obtain ⟨jmaq, Fmaq⟩ : ∃ i : Int, maq.toInt = i := ⟨_, rfl⟩
    have Bmaq : 0 ≤ jmaq ∧ jmaq ≤ 2147483647 := by have q := Jvm.Kit.i32_mask p0 2147483647 (k := 31) (by decide) (by decide); rw [hmaq, Fmaq] at q; omega
    obtain ⟨jmbq, Fmbq⟩ : ∃ i : Int, mbq.toInt = i := ⟨_, rfl⟩
    have Bmbq : 0 ≤ jmbq ∧ jmbq ≤ 2147483647 := by have q := Jvm.Kit.i32_mask p1 2147483647 (k := 31) (by decide) (by decide); rw [hmbq, Fmbq] at q; omega
    have eab : jma = jmaq ∧ jmb = jmbq := ⟨by rw [← Fma, ← Fmaq, ← hma, ← hmaq], by rw [← Fmb, ← Fmbq, ← hmb, ← hmbq]⟩
    refine OwnGo.pre (fun t k => XS.istore X13.here hx rfl (hb hby at_80) rfl (l' := #[sI p0, sI p1, sI p2, sI sel, sI lo, uU, uU, uU, uU, uU, uU, uU, uU]) rfl (XS.iloadN X13.here hx rfl (hb hby at_82) rfl (own_ldcI X13 hx hown (mvT hZ (hw _ (List.mem_of_getElem? (i := 0) rfl))) rfl (hb hby at_83) (own_iand X13.here hx rfl (hb hby at_85) rfl hmaq (XS.iloadN X13.here hx rfl (hb hby at_86) rfl (own_ldcI X13 hx hown (mvT hZ (hw _ (List.mem_of_getElem? (i := 0) rfl))) rfl (hb hby at_87) (own_iand X13.here hx rfl (hb hby at_89) rfl hmbq k))))))) ?_
    show OwnGo _ _ _ _ (T13.setTop (mkF m 90 #[sI p0, sI p1, sI p2, sI sel, sI lo, uU, uU, uU, uU, uU, uU, uU, uU] [(.int mbq), (.int maq)]))
    obtain ⟨_, _, ⟨T14, L14, k14, n14⟩, -, X14, ⟨Lc14, hQ14, l14, y14, z14⟩, st14⟩ := Jvm.LawKit.callS X13 hx (y := (⟨"java/lang/Math", "max", "(II)I"⟩ : MethodName)) hown (mvT hZ (hw _ (List.mem_of_getElem? (i := 5) rfl))) (mvT hZ (hw _ (List.mem_of_getElem? (i := 6) rfl))) (mvT hZ (hw _ (List.mem_of_getElem? (i := 3) rfl))) (mvT hZ (hw _ (List.mem_of_getElem? (i := 7) rfl))) (by decide) (backOf (W := 0) (rmMax l Z a0 hw [] maq mbq h0 n0 Z0 ) hZ (hw _ (List.mem_of_getElem? (i := 7) rfl)) (hw _ (List.mem_of_getElem? (i := 3) rfl)) (by decide) (by decide)) (g := (mkF m 90 #[sI p0, sI p1, sI p2, sI sel, sI lo, uU, uU, uU, uU, uU, uU, uU, uU] [(.int mbq), (.int maq)])) rfl (by rw [hml]; rfl) (argsL := [(.int maq), (.int mbq)]) (rest := []) (lenOf pd_rmMax rfl) rfl (by show 2 * 0 + _ ≤ _; exact Nat.le_of_eq rfl) (hb hby at_90) (fun _ _ => ⟨rfl, e13, (by decide : 0 + 0 ≤ _), (by decide : 0 + 0 ≤ _)⟩)
    dsimp only [Pt.U, Pt.locs, Pt.cells, Pt.slots] at X14 l14 y14 z14 st14 hQ14
    subst l14 y14 z14
    obtain ⟨hi, rfl, Fhi, N14, e14⟩ := hQ14
    refine OwnGo.pre (fun t k => st14 t k) ?_
    show OwnGo _ _ _ _ (T14.setTop (mkF m 93 #[sI p0, sI p1, sI p2, sI sel, sI lo, uU, uU, uU, uU, uU, uU, uU, uU] [(.int hi)]))
    have M14 := Fr.app M13 N14
    obtain ⟨jhi, hjhi⟩ : ∃ i : Int, hi.toInt = i := ⟨_, rfl⟩
    rw [hjhi] at Fhi
    have Bhi : -2147483647 ≤ jhi ∧ jhi ≤ 2147483647 := by omega
    have pos : 0 ≤ jlo ∧ jlo ≤ jhi := by omega
    obtain ⟨v15, hv15⟩ : ∃ v, lo.toInt64 = v := ⟨_, rfl⟩
    have F15 : v15.toInt = jlo := by rw [← hv15, Jvm.Kit.i64_of_i32, hjlo]
    refine OwnGo.pre (fun t k => XS.istore X14.here hx rfl (hb hby at_93) rfl (l' := #[sI p0, sI p1, sI p2, sI sel, sI lo, sI hi, uU, uU, uU, uU, uU, uU, uU]) rfl (own_ldcD X14 hx hown (mvT hZ (hw _ (List.mem_of_getElem? (i := 8) rfl))) rfl (hb hby at_95) (XS.dstore X14.here hx rfl (hb hby at_98) rfl (l' := #[sI p0, sI p1, sI p2, sI sel, sI lo, sI hi, sD (9079256848778919936 : UInt64), uS, uU, uU, uU, uU, uU]) rfl (own_ldcD X14 hx hown (mvT hZ (hw _ (List.mem_of_getElem? (i := 9) rfl))) rfl (hb hby at_100) (XS.dstore X14.here hx rfl (hb hby at_103) rfl (l' := #[sI p0, sI p1, sI p2, sI sel, sI lo, sI hi, sD (9079256848778919936 : UInt64), uS, sD (9074753249151549440 : UInt64), uS, uU, uU, uU]) rfl (XS.iload X14.here hx rfl (hb hby at_105) rfl (own_i2l X14.here hx rfl (hb hby at_107) rfl hv15 (XS.iload X14.here hx rfl (hb hby at_108) rfl k)))))))) ?_
    show OwnGo _ _ _ _ (T14.setTop (mkF m 110 #[sI p0, sI p1, sI p2, sI sel, sI lo, sI hi, sD (9079256848778919936 : UInt64), uS, sD (9074753249151549440 : UInt64), uS, uU, uU, uU] [(.int hi), (.long v15)]))
    obtain ⟨v16, hv16⟩ : ∃ v, hi.toInt64 = v := ⟨_, rfl⟩
    have F16 : v16.toInt = jhi := by rw [← hv16, Jvm.Kit.i64_of_i32, hjhi]
    obtain ⟨v17, hv17⟩ : ∃ v, v15 + v16 = v := ⟨_, rfl⟩
    obtain ⟨j17, hj17⟩ : ∃ i : Int, i = jlo + jhi := ⟨_, rfl⟩
    have B17 : -4294967294 ≤ j17 ∧ j17 ≤ 4294967294 := by rw [hj17]; exact own_bd_add Blo Bhi (by decide)
    have F17 : v17.toInt = j17 := own_lf_add hv17 F15 F16 Blo Bhi (by decide) hj17
    obtain ⟨d18, hd18⟩ : ∃ v, FP.l2d v17 = v := ⟨_, rfl⟩
    have D18 : OwnDS 0 j17 d18 := by rw [← hd18]; exact own_l2db F17 B17 (by decide)
    refine OwnGo.pre (fun t k => own_i2l X14.here hx rfl (hb hby at_110) rfl hv16 (own_ladd X14.here hx rfl (hb hby at_111) rfl hv17 (XS.l2dS X14.here hx rfl (hb hby at_112) rfl hd18 (XS.dstore X14.here hx rfl (hb hby at_113) rfl (l' := #[sI p0, sI p1, sI p2, sI sel, sI lo, sI hi, sD (9079256848778919936 : UInt64), uS, sD (9074753249151549440 : UInt64), uS, sD d18, uS, uU]) rfl (XS.iloadN X14.here hx rfl (hb hby at_115) rfl (XS.iconst X14.here hx rfl (hb hby at_116) k)))))) ?_
    show OwnGo _ _ _ _ (T14.setTop (mkF m 117 #[sI p0, sI p1, sI p2, sI sel, sI lo, sI hi, sD (9079256848778919936 : UInt64), uS, sD (9074753249151549440 : UInt64), uS, sD d18, uS, uU] [(.int (1 : Int32)), (.int sel)]))
    by_cases hs1 : if_icmp.holds .ne sel 1 = true
    · skip
      refine OwnGo.pre (fun t k => XS.icmpYes X14.here hx rfl (pc0 := 117) (pc' := 161) rfl (hb hby at_117) rfl hs1 (by decide) (by decide) k) ?_
      show OwnGo _ _ _ _ (T14.setTop (mkF m 161 #[sI p0, sI p1, sI p2, sI sel, sI lo, sI hi, sD (9079256848778919936 : UInt64), uS, sD (9074753249151549440 : UInt64), uS, sD d18, uS, uU] []))
      obtain ⟨T19, h19, X19, e19, E19, A19, D19, -, st19⟩ := newO X14 hx hZ hown (hw _ (List.mem_of_getElem? (i := 10) rfl)) (hw _ (List.mem_of_getElem? (i := 11) rfl)) (hw _ (List.mem_of_getElem? (i := 12) rfl)) e14 (g := (mkF m 161 #[sI p0, sI p1, sI p2, sI sel, sI lo, sI hi, sD (9079256848778919936 : UInt64), uS, sD (9074753249151549440 : UInt64), uS, sD d18, uS, uU] [])) rfl (hb hby at_161) (by decide) (by decide)
      obtain ⟨a19, g19⟩ : ∃ z, z = h0.size := ⟨_, rfl⟩
      rw [← g19] at A19 D19 st19
      have G19 : n0 ≤ a19 := Nat.le_trans Z0 (Nat.le_of_eq g19.symm)
      have Z19 : n0 ≤ h19.size := Nat.le_trans Z0 E19.1
      refine OwnGo.pre (fun t k => st19 t k) ?_
      show OwnGo _ _ _ _ (T19.setTop (mkF m 164 #[sI p0, sI p1, sI p2, sI sel, sI lo, sI hi, sD (9079256848778919936 : UInt64), uS, sD (9074753249151549440 : UInt64), uS, sD d18, uS, uU] [(.ref a19)]))
      obtain ⟨d20, hd20⟩ : ∃ v, FP.i2d hi = v := ⟨_, rfl⟩
      have D20 : OwnDS 0 jhi d20 := by rw [← hd20, ← hjhi]; exact own_i2d _
      obtain ⟨j21, hj21⟩ : ∃ i : Int, i = jhi * (1 : Int) := ⟨_, rfl⟩
      have B21 : -2147483647 ≤ j21 ∧ j21 ≤ 2147483647 := by rw [hj21]; exact own_bd_mul Bhi own_b1 (by decide)
      have Dq21 : OwnDS 993 j21 (FP.dmul d20 (9079256848778919936 : UInt64)) := by rw [hj21]; exact own_ds_mul (n := 31) D20 own_big (own_bd_nat (C := 2147483647) (own_bd_mul Bhi own_b1 (by decide)) (by decide))
      obtain ⟨d21, hd21⟩ : ∃ v, FP.dmul d20 (9079256848778919936 : UInt64) = v := ⟨_, rfl⟩
      have D21 : OwnDS 993 j21 d21 := by rw [← hd21]; exact Dq21
      obtain ⟨d22, hd22⟩ : ∃ v, FP.dneg d21 = v := ⟨_, rfl⟩
      obtain ⟨j22, hj22⟩ : ∃ i : Int, i = -j21 := ⟨_, rfl⟩
      have B22 : -2147483647 ≤ j22 ∧ j22 ≤ 2147483647 := by rw [hj22]; exact own_bd_neg B21
      have D22 : OwnDS 993 j22 d22 := by rw [hj22, ← hd22]; exact own_ds_neg D21
      obtain ⟨d23, hd23⟩ : ∃ v, FP.i2d lo = v := ⟨_, rfl⟩
      refine OwnGo.pre (fun t k => XS.dup X19.here hx rfl (hb hby at_164) rfl rfl (XS.iload X19.here hx rfl (hb hby at_165) rfl (XS.i2dS X19.here hx rfl (hb hby at_167) rfl hd20 (XS.dload X19.here hx rfl (hb hby at_168) rfl (XS.dmulS X19.here hx rfl (hb hby at_170) rfl (own_nn Dq21) hd21 (XS.dnegS X19.here hx rfl (hb hby at_171) rfl hd22 (XS.iload X19.here hx rfl (hb hby at_172) rfl (XS.i2dS X19.here hx rfl (hb hby at_174) rfl hd23 k)))))))) ?_
      show OwnGo _ _ _ _ (T19.setTop (mkF m 175 #[sI p0, sI p1, sI p2, sI sel, sI lo, sI hi, sD (9079256848778919936 : UInt64), uS, sD (9074753249151549440 : UInt64), uS, sD d18, uS, uU] [(.double d23), (.double d22), (.ref a19), (.ref a19)]))
      have D23 : OwnDS 0 jlo d23 := by rw [← hd23, ← hjlo]; exact own_i2d _
      obtain ⟨j24, hj24⟩ : ∃ i : Int, i = jlo * (1 : Int) := ⟨_, rfl⟩
      have B24 : -2147483647 ≤ j24 ∧ j24 ≤ 2147483647 := by rw [hj24]; exact own_bd_mul Blo own_b1 (by decide)
      have Dq24 : OwnDS 993 j24 (FP.dmul d23 (9079256848778919936 : UInt64)) := by rw [hj24]; exact own_ds_mul (n := 31) D23 own_big (own_bd_nat (C := 2147483647) (own_bd_mul Blo own_b1 (by decide)) (by decide))
      obtain ⟨d24, hd24⟩ : ∃ v, FP.dmul d23 (9079256848778919936 : UInt64) = v := ⟨_, rfl⟩
      have D24 : OwnDS 993 j24 d24 := by rw [← hd24]; exact Dq24
      obtain ⟨d25, hd25⟩ : ∃ v, FP.dneg d24 = v := ⟨_, rfl⟩
      obtain ⟨j25, hj25⟩ : ∃ i : Int, i = -j24 := ⟨_, rfl⟩
      have B25 : -2147483647 ≤ j25 ∧ j25 ≤ 2147483647 := by rw [hj25]; exact own_bd_neg B24
      have D25 : OwnDS 993 j25 d25 := by rw [hj25, ← hd25]; exact own_ds_neg D24
      refine OwnGo.pre (fun t k => XS.dload X19.here hx rfl (hb hby at_175) rfl (XS.dmulS X19.here hx rfl (hb hby at_177) rfl (own_nn Dq24) hd24 (XS.dnegS X19.here hx rfl (hb hby at_178) rfl hd25 k))) ?_
      show OwnGo _ _ _ _ (T19.setTop (mkF m 179 #[sI p0, sI p1, sI p2, sI sel, sI lo, sI hi, sD (9079256848778919936 : UInt64), uS, sD (9074753249151549440 : UInt64), uS, sD d18, uS, uU] [(.double d25), (.double d22), (.ref a19), (.ref a19)]))
      obtain ⟨_, _, ⟨T26, L26, k26, n26⟩, -, X26, ⟨Lc26, hQ26, l26, y26, z26⟩, st26⟩ := X19.specialBack hx (y := (⟨"com/example/bellmin/bellmin/Interval", "<init>", "(DD)V"⟩ : MethodName)) rfl hown (mvT hZ (hw _ (List.mem_of_getElem? (i := 13) rfl))) (mvT hZ (hw _ (List.mem_of_getElem? (i := 14) rfl))) (mvT hZ (hw _ (List.mem_of_getElem? (i := 15) rfl))) (by decide) (backOf (W := 1) (rmI l Z a0 hw [] a19 d22 d25 993 j22 j25 h19 n0 Z19 A19 (D19 (Or.inr (hw _ (List.mem_of_getElem? (i := 28) rfl))) (ty := .double) (by decide)) (D19 (Or.inr (hw _ (List.mem_of_getElem? (i := 30) rfl))) (ty := .double) (by decide)) G19 D22 D25 (by omega)) hZ (hw _ (List.mem_of_getElem? (i := 15) rfl)) (hw _ (List.mem_of_getElem? (i := 12) rfl)) (by decide) (by decide)) (g := (mkF m 179 #[sI p0, sI p1, sI p2, sI sel, sI lo, sI hi, sD (9079256848778919936 : UInt64), uS, sD (9074753249151549440 : UInt64), uS, sD d18, uS, uU] [(.double d25), (.double d22), (.ref a19), (.ref a19)])) rfl (by rw [hml]; rfl) (Steps.refl _) (a := a19) (argsL := [(.double d22), (.double d25)]) (rest := [(.ref a19)]) (lenOf pd_rmI rfl) rfl (by show 2 * 0 + _ ≤ _; exact Nat.le_of_eq rfl) (hb hby at_179) (fun _ _ => ⟨rfl, e19, (by decide : 1 + 0 ≤ _), (by decide : 2 + 0 ≤ _)⟩)
      dsimp only [Pt.U, Pt.locs, Pt.cells, Pt.slots] at X26 l26 y26 z26 st26 hQ26
      subst l26 y26 z26
      obtain ⟨rfl, N26, K26, E26, FL26, FU26⟩ := hQ26
      refine OwnGo.pre (fun t k => st26.trans k) ?_
      show OwnGo _ _ _ _ (T26.setTop (mkF m 182 #[sI p0, sI p1, sI p2, sI sel, sI lo, sI hi, sD (9079256848778919936 : UInt64), uS, sD (9074753249151549440 : UInt64), uS, sD d18, uS, uU] [(.ref a19)]))
      have M26 := Fr.app M14 N26
      have Z26 : n0 ≤ T26.heap.size := Nat.le_trans Z19 K26.1
      refine OwnGo.pre (fun t k => XS.astore X26.here hx rfl (hb hby at_182) rfl rfl (l' := #[sI p0, sI p1, sI p2, sI sel, sI lo, sI hi, sD (9079256848778919936 : UInt64), uS, sD (9074753249151549440 : UInt64), uS, sD d18, uS, sR a19]) rfl (XS.aload X26.here hx rfl (hb hby at_184) rfl rfl k)) ?_
      show OwnGo _ _ _ _ (T26.setTop (mkF m 186 #[sI p0, sI p1, sI p2, sI sel, sI lo, sI hi, sD (9079256848778919936 : UInt64), uS, sD (9074753249151549440 : UInt64), uS, sD d18, uS, sR a19] [(.ref a19)]))
      obtain ⟨cq27, kq27, qa27, qb27, qc27⟩ := isOf hZ rfl E26
      obtain ⟨_, _, ⟨T27, L27, k27, n27⟩, -, X27, ⟨Lc27, hQ27, l27, y27, z27⟩, st27⟩ := X26.virtualBack hx (y := (⟨"com/example/bellmin/bellmin/Interval", "midpoint", "()D"⟩ : MethodName)) (z := (⟨"com/example/bellmin/bellmin/Interval", "midpoint", "()D"⟩ : MethodName)) hown (mvT hZ (hw _ (List.mem_of_getElem? (i := 31) rfl))) (mvT hZ (hw _ (List.mem_of_getElem? (i := 32) rfl))) (notFace_of_selects (args := #[]) (mvT hZ (hw _ (List.mem_of_getElem? (i := 34) rfl)))) (mvT hZ (hw _ (List.mem_of_getElem? (i := 34) rfl))) (mvT hZ (hw _ (List.mem_of_getElem? (i := 33) rfl))) (by decide) (backOf (W := 0) (rmM1 l Z a0 hw [] a19 d22 d25 j22 j25 T26.heap n0 Z26 FL26 FU26 D22 D25 (by omega) (by omega)) hZ (hw _ (List.mem_of_getElem? (i := 35) rfl)) (hw _ (List.mem_of_getElem? (i := 12) rfl)) (by decide) (by decide)) qa27 qc27 (g := (mkF m 186 #[sI p0, sI p1, sI p2, sI sel, sI lo, sI hi, sD (9079256848778919936 : UInt64), uS, sD (9074753249151549440 : UInt64), uS, sD d18, uS, sR a19] [(.ref a19)])) rfl (by rw [hml]; rfl) (Steps.refl _) (argsL := []) (rest := []) (lenOf pd_rmM1 rfl) rfl (by show 2 * 0 + _ ≤ _; exact Nat.le_of_eq rfl) (hb hby at_186) (fun _ _ => ⟨rfl, rfl, (by decide : 1 + 0 ≤ _), (by decide : 2 + 0 ≤ _)⟩)
      dsimp only [Pt.U, Pt.locs, Pt.cells, Pt.slots] at X27 l27 y27 z27 st27 hQ27
      subst l27 y27 z27
      obtain ⟨rr, rfl, Dr, N27, e27⟩ := hQ27
      refine OwnGo.pre (fun t k => st27.trans k) ?_
      show OwnGo _ _ _ _ (T27.setTop (mkF m 189 #[sI p0, sI p1, sI p2, sI sel, sI lo, sI hi, sD (9079256848778919936 : UInt64), uS, sD (9074753249151549440 : UInt64), uS, sD d18, uS, sR a19] [(.double rr)]))
      have M27 := Fr.app M26 N27
      obtain ⟨j28, hj28⟩ : ∃ i : Int, i = j17 * (1 : Int) := ⟨_, rfl⟩
      have B28 : -4294967294 ≤ j28 ∧ j28 ≤ 4294967294 := by rw [hj28]; exact own_bd_mul B17 own_b1 (by decide)
      have Dq28 : OwnDS 992 j28 (FP.dmul d18 (9074753249151549440 : UInt64)) := by rw [hj28]; exact own_ds_mul (n := 32) D18 own_hlf (own_bd_nat (C := 4294967294) (own_bd_mul B17 own_b1 (by decide)) (by decide))
      obtain ⟨d28, hd28⟩ : ∃ v, FP.dmul d18 (9074753249151549440 : UInt64) = v := ⟨_, rfl⟩
      have D28 : OwnDS 992 j28 d28 := by rw [← hd28]; exact Dq28
      obtain ⟨d29, hd29⟩ : ∃ v, FP.dneg d28 = v := ⟨_, rfl⟩
      obtain ⟨j29, hj29⟩ : ∃ i : Int, i = -j28 := ⟨_, rfl⟩
      have B29 : -4294967294 ≤ j29 ∧ j29 ≤ 4294967294 := by rw [hj29]; exact own_bd_neg B28
      have D29 : OwnDS 992 j29 d29 := by rw [hj29, ← hd29]; exact own_ds_neg D28
      refine OwnGo.pre (fun t k => XS.dload X27.here hx rfl (hb hby at_189) rfl (XS.dload X27.here hx rfl (hb hby at_191) rfl (XS.dmulS X27.here hx rfl (hb hby at_193) rfl (own_nn Dq28) hd28 (XS.dnegS X27.here hx rfl (hb hby at_194) rfl hd29 (XS.dcmpS X27.here hx rfl (hb hby at_195) rfl rfl (XS.ifNo X27.here hx rfl (hb hby at_196) rfl ((own_brD .ne Dr D29 _).trans (decide_eq_false (by omega))) (XS.iconst X27.here hx rfl (hb hby at_199) (XS.goto X27.here hx rfl (pc0 := 200) (pc' := 204) rfl (hb hby at_200) (by decide) (by decide) k)))))))) ?_
      show OwnGo _ _ _ _ (T27.setTop (mkF m 204 #[sI p0, sI p1, sI p2, sI sel, sI lo, sI hi, sD (9079256848778919936 : UInt64), uS, sD (9074753249151549440 : UInt64), uS, sD d18, uS, sR a19] [(.int (1 : Int32))]))
      exact own_retZ X27 hx hk hrt (hb hby at_204) ⟨rfl, M27⟩ (by decide) (by decide)
    · skip
      refine OwnGo.pre (fun t k => XS.icmpNo X14.here hx rfl (hb hby at_117) rfl (eq_false_of_ne_true hs1) k) ?_
      show OwnGo _ _ _ _ (T14.setTop (mkF m 120 #[sI p0, sI p1, sI p2, sI sel, sI lo, sI hi, sD (9079256848778919936 : UInt64), uS, sD (9074753249151549440 : UInt64), uS, sD d18, uS, uU] []))
      obtain ⟨T30, h30, X30, e30, E30, A30, D30, -, st30⟩ := newO X14 hx hZ hown (hw _ (List.mem_of_getElem? (i := 10) rfl)) (hw _ (List.mem_of_getElem? (i := 11) rfl)) (hw _ (List.mem_of_getElem? (i := 12) rfl)) e14 (g := (mkF m 120 #[sI p0, sI p1, sI p2, sI sel, sI lo, sI hi, sD (9079256848778919936 : UInt64), uS, sD (9074753249151549440 : UInt64), uS, sD d18, uS, uU] [])) rfl (hb hby at_120) (by decide) (by decide)
      obtain ⟨a30, g30⟩ : ∃ z, z = h0.size := ⟨_, rfl⟩
      rw [← g30] at A30 D30 st30
      have G30 : n0 ≤ a30 := Nat.le_trans Z0 (Nat.le_of_eq g30.symm)
      have Z30 : n0 ≤ h30.size := Nat.le_trans Z0 E30.1
      refine OwnGo.pre (fun t k => st30 t k) ?_
      show OwnGo _ _ _ _ (T30.setTop (mkF m 123 #[sI p0, sI p1, sI p2, sI sel, sI lo, sI hi, sD (9079256848778919936 : UInt64), uS, sD (9074753249151549440 : UInt64), uS, sD d18, uS, uU] [(.ref a30)]))
      obtain ⟨d31, hd31⟩ : ∃ v, FP.i2d lo = v := ⟨_, rfl⟩
      have D31 : OwnDS 0 jlo d31 := by rw [← hd31, ← hjlo]; exact own_i2d _
      obtain ⟨j32, hj32⟩ : ∃ i : Int, i = jlo * (1 : Int) := ⟨_, rfl⟩
      have B32 : -2147483647 ≤ j32 ∧ j32 ≤ 2147483647 := by rw [hj32]; exact own_bd_mul Blo own_b1 (by decide)
      have Dq32 : OwnDS 993 j32 (FP.dmul d31 (9079256848778919936 : UInt64)) := by rw [hj32]; exact own_ds_mul (n := 31) D31 own_big (own_bd_nat (C := 2147483647) (own_bd_mul Blo own_b1 (by decide)) (by decide))
      obtain ⟨d32, hd32⟩ : ∃ v, FP.dmul d31 (9079256848778919936 : UInt64) = v := ⟨_, rfl⟩
      have D32 : OwnDS 993 j32 d32 := by rw [← hd32]; exact Dq32
      obtain ⟨d33, hd33⟩ : ∃ v, FP.i2d hi = v := ⟨_, rfl⟩
      have D33 : OwnDS 0 jhi d33 := by rw [← hd33, ← hjhi]; exact own_i2d _
      refine OwnGo.pre (fun t k => XS.dup X30.here hx rfl (hb hby at_123) rfl rfl (XS.iload X30.here hx rfl (hb hby at_124) rfl (XS.i2dS X30.here hx rfl (hb hby at_126) rfl hd31 (XS.dload X30.here hx rfl (hb hby at_127) rfl (XS.dmulS X30.here hx rfl (hb hby at_129) rfl (own_nn Dq32) hd32 (XS.iload X30.here hx rfl (hb hby at_130) rfl (XS.i2dS X30.here hx rfl (hb hby at_132) rfl hd33 (XS.dload X30.here hx rfl (hb hby at_133) rfl k)))))))) ?_
      show OwnGo _ _ _ _ (T30.setTop (mkF m 135 #[sI p0, sI p1, sI p2, sI sel, sI lo, sI hi, sD (9079256848778919936 : UInt64), uS, sD (9074753249151549440 : UInt64), uS, sD d18, uS, uU] [(.double (9079256848778919936 : UInt64)), (.double d33), (.double d32), (.ref a30), (.ref a30)]))
      obtain ⟨j34, hj34⟩ : ∃ i : Int, i = jhi * (1 : Int) := ⟨_, rfl⟩
      have B34 : -2147483647 ≤ j34 ∧ j34 ≤ 2147483647 := by rw [hj34]; exact own_bd_mul Bhi own_b1 (by decide)
      have Dq34 : OwnDS 993 j34 (FP.dmul d33 (9079256848778919936 : UInt64)) := by rw [hj34]; exact own_ds_mul (n := 31) D33 own_big (own_bd_nat (C := 2147483647) (own_bd_mul Bhi own_b1 (by decide)) (by decide))
      obtain ⟨d34, hd34⟩ : ∃ v, FP.dmul d33 (9079256848778919936 : UInt64) = v := ⟨_, rfl⟩
      have D34 : OwnDS 993 j34 d34 := by rw [← hd34]; exact Dq34
      refine OwnGo.pre (fun t k => XS.dmulS X30.here hx rfl (hb hby at_135) rfl (own_nn Dq34) hd34 k) ?_
      show OwnGo _ _ _ _ (T30.setTop (mkF m 136 #[sI p0, sI p1, sI p2, sI sel, sI lo, sI hi, sD (9079256848778919936 : UInt64), uS, sD (9074753249151549440 : UInt64), uS, sD d18, uS, uU] [(.double d34), (.double d32), (.ref a30), (.ref a30)]))
      obtain ⟨_, _, ⟨T35, L35, k35, n35⟩, -, X35, ⟨Lc35, hQ35, l35, y35, z35⟩, st35⟩ := X30.specialBack hx (y := (⟨"com/example/bellmin/bellmin/Interval", "<init>", "(DD)V"⟩ : MethodName)) rfl hown (mvT hZ (hw _ (List.mem_of_getElem? (i := 13) rfl))) (mvT hZ (hw _ (List.mem_of_getElem? (i := 14) rfl))) (mvT hZ (hw _ (List.mem_of_getElem? (i := 15) rfl))) (by decide) (backOf (W := 1) (rmI l Z a0 hw [] a30 d32 d34 993 j32 j34 h30 n0 Z30 A30 (D30 (Or.inr (hw _ (List.mem_of_getElem? (i := 28) rfl))) (ty := .double) (by decide)) (D30 (Or.inr (hw _ (List.mem_of_getElem? (i := 30) rfl))) (ty := .double) (by decide)) G30 D32 D34 (by omega)) hZ (hw _ (List.mem_of_getElem? (i := 15) rfl)) (hw _ (List.mem_of_getElem? (i := 12) rfl)) (by decide) (by decide)) (g := (mkF m 136 #[sI p0, sI p1, sI p2, sI sel, sI lo, sI hi, sD (9079256848778919936 : UInt64), uS, sD (9074753249151549440 : UInt64), uS, sD d18, uS, uU] [(.double d34), (.double d32), (.ref a30), (.ref a30)])) rfl (by rw [hml]; rfl) (Steps.refl _) (a := a30) (argsL := [(.double d32), (.double d34)]) (rest := [(.ref a30)]) (lenOf pd_rmI rfl) rfl (by show 2 * 0 + _ ≤ _; exact Nat.le_of_eq rfl) (hb hby at_136) (fun _ _ => ⟨rfl, e30, (by decide : 1 + 0 ≤ _), (by decide : 2 + 0 ≤ _)⟩)
      dsimp only [Pt.U, Pt.locs, Pt.cells, Pt.slots] at X35 l35 y35 z35 st35 hQ35
      subst l35 y35 z35
      obtain ⟨rfl, N35, K35, E35, FL35, FU35⟩ := hQ35
      refine OwnGo.pre (fun t k => st35.trans k) ?_
      show OwnGo _ _ _ _ (T35.setTop (mkF m 139 #[sI p0, sI p1, sI p2, sI sel, sI lo, sI hi, sD (9079256848778919936 : UInt64), uS, sD (9074753249151549440 : UInt64), uS, sD d18, uS, uU] [(.ref a30)]))
      have M35 := Fr.app M14 N35
      have Z35 : n0 ≤ T35.heap.size := Nat.le_trans Z30 K35.1
      refine OwnGo.pre (fun t k => XS.astore X35.here hx rfl (hb hby at_139) rfl rfl (l' := #[sI p0, sI p1, sI p2, sI sel, sI lo, sI hi, sD (9079256848778919936 : UInt64), uS, sD (9074753249151549440 : UInt64), uS, sD d18, uS, sR a30]) rfl (XS.aload X35.here hx rfl (hb hby at_141) rfl rfl k)) ?_
      show OwnGo _ _ _ _ (T35.setTop (mkF m 143 #[sI p0, sI p1, sI p2, sI sel, sI lo, sI hi, sD (9079256848778919936 : UInt64), uS, sD (9074753249151549440 : UInt64), uS, sD d18, uS, sR a30] [(.ref a30)]))
      obtain ⟨cq36, kq36, qa36, qb36, qc36⟩ := isOf hZ rfl E35
      obtain ⟨_, _, ⟨T36, L36, k36, n36⟩, -, X36, ⟨Lc36, hQ36, l36, y36, z36⟩, st36⟩ := X35.virtualBack hx (y := (⟨"com/example/bellmin/bellmin/Interval", "midpoint", "()D"⟩ : MethodName)) (z := (⟨"com/example/bellmin/bellmin/Interval", "midpoint", "()D"⟩ : MethodName)) hown (mvT hZ (hw _ (List.mem_of_getElem? (i := 31) rfl))) (mvT hZ (hw _ (List.mem_of_getElem? (i := 32) rfl))) (notFace_of_selects (args := #[]) (mvT hZ (hw _ (List.mem_of_getElem? (i := 34) rfl)))) (mvT hZ (hw _ (List.mem_of_getElem? (i := 34) rfl))) (mvT hZ (hw _ (List.mem_of_getElem? (i := 33) rfl))) (by decide) (backOf (W := 0) (rmM1 l Z a0 hw [] a30 d32 d34 j32 j34 T35.heap n0 Z35 FL35 FU35 D32 D34 (by omega) (by omega)) hZ (hw _ (List.mem_of_getElem? (i := 35) rfl)) (hw _ (List.mem_of_getElem? (i := 12) rfl)) (by decide) (by decide)) qa36 qc36 (g := (mkF m 143 #[sI p0, sI p1, sI p2, sI sel, sI lo, sI hi, sD (9079256848778919936 : UInt64), uS, sD (9074753249151549440 : UInt64), uS, sD d18, uS, sR a30] [(.ref a30)])) rfl (by rw [hml]; rfl) (Steps.refl _) (argsL := []) (rest := []) (lenOf pd_rmM1 rfl) rfl (by show 2 * 0 + _ ≤ _; exact Nat.le_of_eq rfl) (hb hby at_143) (fun _ _ => ⟨rfl, rfl, (by decide : 1 + 0 ≤ _), (by decide : 2 + 0 ≤ _)⟩)
      dsimp only [Pt.U, Pt.locs, Pt.cells, Pt.slots] at X36 l36 y36 z36 st36 hQ36
      subst l36 y36 z36
      obtain ⟨rr, rfl, Dr, N36, e36⟩ := hQ36
      refine OwnGo.pre (fun t k => st36.trans k) ?_
      show OwnGo _ _ _ _ (T36.setTop (mkF m 146 #[sI p0, sI p1, sI p2, sI sel, sI lo, sI hi, sD (9079256848778919936 : UInt64), uS, sD (9074753249151549440 : UInt64), uS, sD d18, uS, sR a30] [(.double rr)]))
      have M36 := Fr.app M35 N36
      obtain ⟨j37, hj37⟩ : ∃ i : Int, i = j17 * (1 : Int) := ⟨_, rfl⟩
      have B37 : -4294967294 ≤ j37 ∧ j37 ≤ 4294967294 := by rw [hj37]; exact own_bd_mul B17 own_b1 (by decide)
      have Dq37 : OwnDS 992 j37 (FP.dmul d18 (9074753249151549440 : UInt64)) := by rw [hj37]; exact own_ds_mul (n := 32) D18 own_hlf (own_bd_nat (C := 4294967294) (own_bd_mul B17 own_b1 (by decide)) (by decide))
      obtain ⟨d37, hd37⟩ : ∃ v, FP.dmul d18 (9074753249151549440 : UInt64) = v := ⟨_, rfl⟩
      have D37 : OwnDS 992 j37 d37 := by rw [← hd37]; exact Dq37
      refine OwnGo.pre (fun t k => XS.dload X36.here hx rfl (hb hby at_146) rfl (XS.dload X36.here hx rfl (hb hby at_148) rfl (XS.dmulS X36.here hx rfl (hb hby at_150) rfl (own_nn Dq37) hd37 (XS.dcmpS X36.here hx rfl (hb hby at_151) rfl rfl (XS.ifNo X36.here hx rfl (hb hby at_152) rfl ((own_brD .ne Dr D37 _).trans (decide_eq_false (by omega))) (XS.iconst X36.here hx rfl (hb hby at_155) (XS.goto X36.here hx rfl (pc0 := 156) (pc' := 160) rfl (hb hby at_156) (by decide) (by decide) k))))))) ?_
      show OwnGo _ _ _ _ (T36.setTop (mkF m 160 #[sI p0, sI p1, sI p2, sI sel, sI lo, sI hi, sD (9079256848778919936 : UInt64), uS, sD (9074753249151549440 : UInt64), uS, sD d18, uS, sR a30] [(.int (1 : Int32))]))
      exact own_retZ X36 hx hk hrt (hb hby at_160) ⟨rfl, M36⟩ (by decide) (by decide)
  · skip
    obtain ⟨j38, F38⟩ : ∃ i : Int, p0.toInt = i := ⟨_, rfl⟩
    have B38 : -2147483648 ≤ j38 ∧ j38 ≤ 2147483648 := F38 ▸ own_i32 p0
    obtain ⟨j39, F39⟩ : ∃ i : Int, p1.toInt = i := ⟨_, rfl⟩
    have B39 : -2147483648 ≤ j39 ∧ j39 ≤ 2147483648 := F39 ▸ own_i32 p1
    refine OwnGo.pre (fun t k => XS.ifNo X0.here hx rfl (hb hby at_8) rfl (eq_false_of_ne_true hs0) (XS.iloadN X0.here hx rfl (hb hby at_11) rfl (XS.iloadN X0.here hx rfl (hb hby at_12) rfl k))) ?_
    show OwnGo _ _ _ _ (s₁.setTop (mkF m 13 #[sI p0, sI p1, sI p2, sI sel, uU, uU, uU, uU, uU, uU, uU, uU, uU] [(.int p1), (.int p0)]))
    obtain ⟨_, _, ⟨T40, L40, k40, n40⟩, -, X40, ⟨Lc40, hQ40, l40, y40, z40⟩, st40⟩ := Jvm.LawKit.callS X0 hx (y := (⟨"java/lang/Math", "min", "(II)I"⟩ : MethodName)) hown (mvT hZ (hw _ (List.mem_of_getElem? (i := 1) rfl))) (mvT hZ (hw _ (List.mem_of_getElem? (i := 2) rfl))) (mvT hZ (hw _ (List.mem_of_getElem? (i := 3) rfl))) (mvT hZ (hw _ (List.mem_of_getElem? (i := 4) rfl))) (by decide) (backOf (W := 0) (rmMin l Z a0 hw [] p0 p1 h0 n0 Z0 ) hZ (hw _ (List.mem_of_getElem? (i := 4) rfl)) (hw _ (List.mem_of_getElem? (i := 3) rfl)) (by decide) (by decide)) (g := (mkF m 13 #[sI p0, sI p1, sI p2, sI sel, uU, uU, uU, uU, uU, uU, uU, uU, uU] [(.int p1), (.int p0)])) rfl (by rw [hml]; rfl) (argsL := [(.int p0), (.int p1)]) (rest := []) (lenOf pd_rmMin rfl) rfl (by show 2 * 0 + _ ≤ _; exact Nat.le_of_eq rfl) (hb hby at_13) (fun _ _ => ⟨rfl, e0, (by decide : 0 + 0 ≤ _), (by decide : 0 + 0 ≤ _)⟩)
    dsimp only [Pt.U, Pt.locs, Pt.cells, Pt.slots] at X40 l40 y40 z40 st40 hQ40
    subst l40 y40 z40
    obtain ⟨lo, rfl, Flo, N40, e40⟩ := hQ40
    refine OwnGo.pre (fun t k => st40 t k) ?_
    show OwnGo _ _ _ _ (T40.setTop (mkF m 16 #[sI p0, sI p1, sI p2, sI sel, uU, uU, uU, uU, uU, uU, uU, uU, uU] [(.int lo)]))
    have M40 := Fr.app N0 N40
    obtain ⟨jlo, hjlo⟩ : ∃ i : Int, lo.toInt = i := ⟨_, rfl⟩
    rw [hjlo] at Flo
    have Blo : -2147483648 ≤ jlo ∧ jlo ≤ 2147483648 := by omega
    refine OwnGo.pre (fun t k => XS.istore X40.here hx rfl (hb hby at_16) rfl (l' := #[sI p0, sI p1, sI p2, sI sel, sI lo, uU, uU, uU, uU, uU, uU, uU, uU]) rfl (XS.iloadN X40.here hx rfl (hb hby at_18) rfl (XS.iloadN X40.here hx rfl (hb hby at_19) rfl k))) ?_
    show OwnGo _ _ _ _ (T40.setTop (mkF m 20 #[sI p0, sI p1, sI p2, sI sel, sI lo, uU, uU, uU, uU, uU, uU, uU, uU] [(.int p1), (.int p0)]))
    obtain ⟨_, _, ⟨T41, L41, k41, n41⟩, -, X41, ⟨Lc41, hQ41, l41, y41, z41⟩, st41⟩ := Jvm.LawKit.callS X40 hx (y := (⟨"java/lang/Math", "max", "(II)I"⟩ : MethodName)) hown (mvT hZ (hw _ (List.mem_of_getElem? (i := 5) rfl))) (mvT hZ (hw _ (List.mem_of_getElem? (i := 6) rfl))) (mvT hZ (hw _ (List.mem_of_getElem? (i := 3) rfl))) (mvT hZ (hw _ (List.mem_of_getElem? (i := 7) rfl))) (by decide) (backOf (W := 0) (rmMax l Z a0 hw [] p0 p1 h0 n0 Z0 ) hZ (hw _ (List.mem_of_getElem? (i := 7) rfl)) (hw _ (List.mem_of_getElem? (i := 3) rfl)) (by decide) (by decide)) (g := (mkF m 20 #[sI p0, sI p1, sI p2, sI sel, sI lo, uU, uU, uU, uU, uU, uU, uU, uU] [(.int p1), (.int p0)])) rfl (by rw [hml]; rfl) (argsL := [(.int p0), (.int p1)]) (rest := []) (lenOf pd_rmMax rfl) rfl (by show 2 * 0 + _ ≤ _; exact Nat.le_of_eq rfl) (hb hby at_20) (fun _ _ => ⟨rfl, e40, (by decide : 0 + 0 ≤ _), (by decide : 0 + 0 ≤ _)⟩)
    dsimp only [Pt.U, Pt.locs, Pt.cells, Pt.slots] at X41 l41 y41 z41 st41 hQ41
    subst l41 y41 z41
    obtain ⟨hi, rfl, Fhi, N41, e41⟩ := hQ41
    refine OwnGo.pre (fun t k => st41 t k) ?_
    show OwnGo _ _ _ _ (T41.setTop (mkF m 23 #[sI p0, sI p1, sI p2, sI sel, sI lo, uU, uU, uU, uU, uU, uU, uU, uU] [(.int hi)]))
    have M41 := Fr.app M40 N41
    obtain ⟨jhi, hjhi⟩ : ∃ i : Int, hi.toInt = i := ⟨_, rfl⟩
    rw [hjhi] at Fhi
    have Bhi : -2147483648 ≤ jhi ∧ jhi ≤ 2147483648 := by omega
    refine OwnGo.pre (fun t k => XS.istore X41.here hx rfl (hb hby at_23) rfl (l' := #[sI p0, sI p1, sI p2, sI sel, sI lo, sI hi, uU, uU, uU, uU, uU, uU, uU]) rfl k) ?_
    show OwnGo _ _ _ _ (T41.setTop (mkF m 25 #[sI p0, sI p1, sI p2, sI sel, sI lo, sI hi, uU, uU, uU, uU, uU, uU, uU] []))
    obtain ⟨T42, h42, X42, e42, E42, A42, D42, -, st42⟩ := newO X41 hx hZ hown (hw _ (List.mem_of_getElem? (i := 10) rfl)) (hw _ (List.mem_of_getElem? (i := 11) rfl)) (hw _ (List.mem_of_getElem? (i := 12) rfl)) e41 (g := (mkF m 25 #[sI p0, sI p1, sI p2, sI sel, sI lo, sI hi, uU, uU, uU, uU, uU, uU, uU] [])) rfl (hb hby at_25) (by decide) (by decide)
    obtain ⟨a42, g42⟩ : ∃ z, z = h0.size := ⟨_, rfl⟩
    rw [← g42] at A42 D42 st42
    have G42 : n0 ≤ a42 := Nat.le_trans Z0 (Nat.le_of_eq g42.symm)
    have Z42 : n0 ≤ h42.size := Nat.le_trans Z0 E42.1
    refine OwnGo.pre (fun t k => st42 t k) ?_
    show OwnGo _ _ _ _ (T42.setTop (mkF m 28 #[sI p0, sI p1, sI p2, sI sel, sI lo, sI hi, uU, uU, uU, uU, uU, uU, uU] [(.ref a42)]))
    obtain ⟨d43, hd43⟩ : ∃ v, FP.i2d lo = v := ⟨_, rfl⟩
    have D43 : OwnDS 0 jlo d43 := by rw [← hd43, ← hjlo]; exact own_i2d _
    obtain ⟨d44, hd44⟩ : ∃ v, FP.i2d hi = v := ⟨_, rfl⟩
    have D44 : OwnDS 0 jhi d44 := by rw [← hd44, ← hjhi]; exact own_i2d _
    refine OwnGo.pre (fun t k => XS.dup X42.here hx rfl (hb hby at_28) rfl rfl (XS.iload X42.here hx rfl (hb hby at_29) rfl (XS.i2dS X42.here hx rfl (hb hby at_31) rfl hd43 (XS.iload X42.here hx rfl (hb hby at_32) rfl (XS.i2dS X42.here hx rfl (hb hby at_34) rfl hd44 k))))) ?_
    show OwnGo _ _ _ _ (T42.setTop (mkF m 35 #[sI p0, sI p1, sI p2, sI sel, sI lo, sI hi, uU, uU, uU, uU, uU, uU, uU] [(.double d44), (.double d43), (.ref a42), (.ref a42)]))
    obtain ⟨_, _, ⟨T45, L45, k45, n45⟩, -, X45, ⟨Lc45, hQ45, l45, y45, z45⟩, st45⟩ := X42.specialBack hx (y := (⟨"com/example/bellmin/bellmin/Interval", "<init>", "(DD)V"⟩ : MethodName)) rfl hown (mvT hZ (hw _ (List.mem_of_getElem? (i := 13) rfl))) (mvT hZ (hw _ (List.mem_of_getElem? (i := 14) rfl))) (mvT hZ (hw _ (List.mem_of_getElem? (i := 15) rfl))) (by decide) (backOf (W := 1) (rmI l Z a0 hw [] a42 d43 d44 0 jlo jhi h42 n0 Z42 A42 (D42 (Or.inr (hw _ (List.mem_of_getElem? (i := 28) rfl))) (ty := .double) (by decide)) (D42 (Or.inr (hw _ (List.mem_of_getElem? (i := 30) rfl))) (ty := .double) (by decide)) G42 D43 D44 (by omega)) hZ (hw _ (List.mem_of_getElem? (i := 15) rfl)) (hw _ (List.mem_of_getElem? (i := 12) rfl)) (by decide) (by decide)) (g := (mkF m 35 #[sI p0, sI p1, sI p2, sI sel, sI lo, sI hi, uU, uU, uU, uU, uU, uU, uU] [(.double d44), (.double d43), (.ref a42), (.ref a42)])) rfl (by rw [hml]; rfl) (Steps.refl _) (a := a42) (argsL := [(.double d43), (.double d44)]) (rest := [(.ref a42)]) (lenOf pd_rmI rfl) rfl (by show 2 * 0 + _ ≤ _; exact Nat.le_of_eq rfl) (hb hby at_35) (fun _ _ => ⟨rfl, e42, (by decide : 1 + 0 ≤ _), (by decide : 2 + 0 ≤ _)⟩)
    dsimp only [Pt.U, Pt.locs, Pt.cells, Pt.slots] at X45 l45 y45 z45 st45 hQ45
    subst l45 y45 z45
    obtain ⟨rfl, N45, K45, E45, FL45, FU45⟩ := hQ45
    refine OwnGo.pre (fun t k => st45.trans k) ?_
    show OwnGo _ _ _ _ (T45.setTop (mkF m 38 #[sI p0, sI p1, sI p2, sI sel, sI lo, sI hi, uU, uU, uU, uU, uU, uU, uU] [(.ref a42)]))
    have M45 := Fr.app M41 N45
    have Z45 : n0 ≤ T45.heap.size := Nat.le_trans Z42 K45.1
    obtain ⟨v46, hv46⟩ : ∃ v, p0.toInt64 = v := ⟨_, rfl⟩
    have F46 : v46.toInt = j38 := by rw [← hv46, Jvm.Kit.i64_of_i32, F38]
    obtain ⟨v47, hv47⟩ : ∃ v, p1.toInt64 = v := ⟨_, rfl⟩
    have F47 : v47.toInt = j39 := by rw [← hv47, Jvm.Kit.i64_of_i32, F39]
    obtain ⟨v48, hv48⟩ : ∃ v, v46 + v47 = v := ⟨_, rfl⟩
    obtain ⟨j48, hj48⟩ : ∃ i : Int, i = j38 + j39 := ⟨_, rfl⟩
    have B48 : -4294967296 ≤ j48 ∧ j48 ≤ 4294967296 := by rw [hj48]; exact own_bd_add B38 B39 (by decide)
    have F48 : v48.toInt = j48 := own_lf_add hv48 F46 F47 B38 B39 (by decide) hj48
    obtain ⟨d49, hd49⟩ : ∃ v, FP.l2d v48 = v := ⟨_, rfl⟩
    have D49 : OwnDS 0 j48 d49 := by rw [← hd49]; exact own_l2db F48 B48 (by decide)
    refine OwnGo.pre (fun t k => XS.astore X45.here hx rfl (hb hby at_38) rfl rfl (l' := #[sI p0, sI p1, sI p2, sI sel, sI lo, sI hi, sR a42, uU, uU, uU, uU, uU, uU]) rfl (XS.iloadN X45.here hx rfl (hb hby at_40) rfl (own_i2l X45.here hx rfl (hb hby at_41) rfl hv46 (XS.iloadN X45.here hx rfl (hb hby at_42) rfl (own_i2l X45.here hx rfl (hb hby at_43) rfl hv47 (own_ladd X45.here hx rfl (hb hby at_44) rfl hv48 (XS.l2dS X45.here hx rfl (hb hby at_45) rfl hd49 (own_ldcD X45 hx hown (mvT hZ (hw _ (List.mem_of_getElem? (i := 37) rfl))) rfl (hb hby at_46) k)))))))) ?_
    show OwnGo _ _ _ _ (T45.setTop (mkF m 49 #[sI p0, sI p1, sI p2, sI sel, sI lo, sI hi, sR a42, uU, uU, uU, uU, uU, uU] [(.double (4611686018427387904 : UInt64)), (.double d49)]))
    have Dx : OwnDS (-1) j48 (FP.ddiv d49 (4611686018427387904 : UInt64)) := own_ds_div (n := 34) D49 own_two (by decide) (Int.mul_one _).symm (by omega)
    obtain ⟨dx, hdx⟩ : ∃ v, FP.ddiv d49 (4611686018427387904 : UInt64) = v := ⟨_, rfl⟩
    refine OwnGo.pre (fun t k => XS.ddivS X45.here hx rfl (hb hby at_49) rfl (own_nn Dx) hdx k) ?_
    show OwnGo _ _ _ _ (T45.setTop (mkF m 50 #[sI p0, sI p1, sI p2, sI sel, sI lo, sI hi, sR a42, uU, uU, uU, uU, uU, uU] [(.double dx)]))
    rw [hdx] at Dx
    refine OwnGo.pre (fun t k => XS.dstore X45.here hx rfl (hb hby at_50) rfl (l' := #[sI p0, sI p1, sI p2, sI sel, sI lo, sI hi, sR a42, sD dx, uS, uU, uU, uU, uU]) rfl (XS.aload X45.here hx rfl (hb hby at_52) rfl rfl k)) ?_
    show OwnGo _ _ _ _ (T45.setTop (mkF m 54 #[sI p0, sI p1, sI p2, sI sel, sI lo, sI hi, sR a42, sD dx, uS, uU, uU, uU, uU] [(.ref a42)]))
    obtain ⟨cq50, kq50, qa50, qb50, qc50⟩ := isOf hZ rfl E45
    obtain ⟨_, _, ⟨T50, L50, k50, n50⟩, -, X50, ⟨Lc50, hQ50, l50, y50, z50⟩, st50⟩ := X45.virtualBack hx (y := (⟨"com/example/bellmin/bellmin/Interval", "midpoint", "()D"⟩ : MethodName)) (z := (⟨"com/example/bellmin/bellmin/Interval", "midpoint", "()D"⟩ : MethodName)) hown (mvT hZ (hw _ (List.mem_of_getElem? (i := 31) rfl))) (mvT hZ (hw _ (List.mem_of_getElem? (i := 32) rfl))) (notFace_of_selects (args := #[]) (mvT hZ (hw _ (List.mem_of_getElem? (i := 34) rfl)))) (mvT hZ (hw _ (List.mem_of_getElem? (i := 34) rfl))) (mvT hZ (hw _ (List.mem_of_getElem? (i := 33) rfl))) (by decide) (backOf (W := 0) (rmM0 l Z a0 hw [] a42 d43 d44 jlo jhi T45.heap n0 Z45 FL45 FU45 D43 D44 (by omega) (by omega)) hZ (hw _ (List.mem_of_getElem? (i := 35) rfl)) (hw _ (List.mem_of_getElem? (i := 12) rfl)) (by decide) (by decide)) qa50 qc50 (g := (mkF m 54 #[sI p0, sI p1, sI p2, sI sel, sI lo, sI hi, sR a42, sD dx, uS, uU, uU, uU, uU] [(.ref a42)])) rfl (by rw [hml]; rfl) (Steps.refl _) (argsL := []) (rest := []) (lenOf pd_rmM0 rfl) rfl (by show 2 * 0 + _ ≤ _; exact Nat.le_of_eq rfl) (hb hby at_54) (fun _ _ => ⟨rfl, rfl, (by decide : 1 + 0 ≤ _), (by decide : 2 + 0 ≤ _)⟩)
    dsimp only [Pt.U, Pt.locs, Pt.cells, Pt.slots] at X50 l50 y50 z50 st50 hQ50
    subst l50 y50 z50
    obtain ⟨rr, rfl, Dr, N50, e50⟩ := hQ50
    refine OwnGo.pre (fun t k => st50.trans k) ?_
    show OwnGo _ _ _ _ (T50.setTop (mkF m 57 #[sI p0, sI p1, sI p2, sI sel, sI lo, sI hi, sR a42, sD dx, uS, uU, uU, uU, uU] [(.double rr)]))
    have M50 := Fr.app M45 N50
    refine OwnGo.pre (fun t k => XS.dload X50.here hx rfl (hb hby at_57) rfl (XS.dcmpS X50.here hx rfl (hb hby at_59) rfl rfl (XS.ifNo X50.here hx rfl (hb hby at_60) rfl ((own_brD .ne Dr Dx _).trans (decide_eq_false (by omega))) (XS.iconst X50.here hx rfl (hb hby at_63) (XS.goto X50.here hx rfl (pc0 := 64) (pc' := 68) rfl (hb hby at_64) (by decide) (by decide) k))))) ?_
    show OwnGo _ _ _ _ (T50.setTop (mkF m 68 #[sI p0, sI p1, sI p2, sI sel, sI lo, sI hi, sR a42, sD dx, uS, uU, uU, uU, uU] [(.int (1 : Int32))]))
    exact own_retZ X50 hx hk hrt (hb hby at_68) ⟨rfl, M50⟩ (by decide) (by decide)
set_option maxRecDepth 65536 in
set_option maxHeartbeats 40000000 in
theorem comes_1 {Post : Tables → Env → Array Value → State → Outcome → State → Prop} (hpost : ∀ tb e args s v u, (limb_1_1.after args s (.returned v) u = true ∧ limb_1_2.after args s (.returned v) u = true ∧ True) → FrameEnd s (.returned v) u (Jvm.fieldLocs frame_1_writes args s ++ Jvm.arrayLocs frame_1_arrays args s ++ Jvm.staticLocs frame_1_statics s) 16 128 → Post tb e args s (.returned v) u) :
    ArmFor flags0 classFile x code maxLocals ret World_1 tables_1 room_1 Calls_1 rest_1 Pre_1 Post := by
  intro l hfl _ _ p e ha hc hk s m args below hf hA hF happ hP
  obtain ⟨hcalls, hrest, hpre⟩ := hP
  obtain ⟨-, -, -, hnamed, -, -, -, hat⟩ := (Spec.applies_iff hf).mp happ
  obtain ⟨hg, hn⟩ := and_e (Cond.before_iff.mp (show (Jvm.Cond.and given_1 narrow_1).before args s = true from hpre))
  obtain ⟨hcnt, q0⟩ := and_e hg
  obtain ⟨b0, q1⟩ := and_e q0
  obtain ⟨b1, q2⟩ := and_e q1
  have b2 := q2
  obtain ⟨w0, w1, w2, rfl⟩ : ∃ w0 w1 w2 : Value, args = #[w0, w1, w2] := by
    have hs : args.size = 3 := by simpa [Cond.value, given_1] using hcnt
    obtain ⟨L⟩ := args
    match L, hs with
    | [w0, w1, w2], _ => exact ⟨w0, w1, w2, rfl⟩
  have hw := fun d (hd : d ∈ tables_1) => atoms_spec (ws := Jvm.Cond.code x code maxLocals ret :: tables_1) hat d (List.mem_cons_of_mem _ hd)
  have hfit : Fit s := fun {y c} hc i hi => by
    obtain ⟨ha, rfl⟩ := Array.getElem?_eq_some_iff.mp hc
    have q := List.all_eq_true.mp ((Array.all_eq_true_iff_forall_mem.mp hF) _ (Array.getElem_mem ha)) i (List.mem_range.mpr hi)
    simpa [Array.getElem?_eq_getElem hi] using q
  obtain ⟨i0, ei0⟩ := is_v b0
  obtain rfl : w0 = (.int i0) := Option.some.inj ei0
  obtain ⟨i1, ei1⟩ := is_v b1
  obtain rfl : w1 = (.int i1) := Option.some.inj ei1
  obtain ⟨i2, ei2⟩ := is_v b2
  obtain rfl : w2 = (.int i2) := Option.some.inj ei2
  obtain ⟨n, o, h1, h2, h3, _, L, rfl, ⟨rfl, N⟩, hq⟩ := rmL l s _ hw tables_1 i0 i1 i2  s.heap s.heap.size (Nat.le_refl _)  p e ha hc hk s m _ below hf ((Spec.applies_iff_loose hf).mp happ).1 ⟨rfl, State.Warmed39.refl s, rfl⟩ trivial
  refine ⟨n, _, h1, h2, h3, hpost _ _ _ _ _ _ ⟨Cond.after_iff.mpr rfl, Cond.after_iff.mpr (eq_i res_at (Term.int_eval (1)) rfl), trivial⟩ ⟨hq.1, hq.2.1, (hq.2.2.sift fun y hy => Or.inr (N y hy)).mono (by decide) (by decide)⟩⟩
theorem main_1_1 : Claimed_1_1 := comes_1 fun _ _ _ _ _ _ h hF => ⟨h.1, hF⟩
theorem main_1_2 : Claimed_1_2 := comes_1 fun _ _ _ _ _ _ h hF => ⟨h.2.1, hF⟩
end Jvm.Pilot.@@N@@
namespace Jvm.Pilot.@@N@@
open Jvm Jvm.ClassFile Sem Op Lib Jvm.Free Jvm.Stand Jvm.Pilot.@@N@@.Jvm.D
/-! MADE BY PROGRAM (witnessworld.py) out of the Statement's table words and the real class files: 15 classes; the members and pool entries that the words name. The judged class is class 1, her method 1. -/
namespace start1
open Jvm.ClassFile
def u (s : String) : CpInfo := .utf8 (stringToUtf16 s)
/-- a pool by its gaps: so many unusable entries, then the entry; so many at the end -/
def gap : Nat → List CpInfo → List CpInfo
  | 0, r => r
  | n + 1, r => .unusable :: gap n r
def poolList (es : List (Nat × CpInfo)) (last : Nat) : List CpInfo := es.foldr (fun e r => gap e.1 (e.2 :: r)) (gap last [])
def pool (es : List (Nat × CpInfo)) (last : Nat) : Array CpInfo := ⟨poolList es last⟩
def fileOf (pool : Array CpInfo) (this : Nat) (attrs : Array Attribute := #[]) (ms : Array MethodInfo := #[]) (fl : Nat := 33) (sup : Nat := 0) (ifs : Array Nat := #[]) (fds : Array FieldInfo := #[]) : ClassFile where
  minorVersion := 0
  majorVersion := 65
  constantPool := pool
  accessFlags := fl
  thisClass := this
  superClass := sup
  interfaces := ifs
  fields := fds
  methods := ms
  attributes := attrs
def plain (name : String) (sup : Option ClassId) : Class where
  name := name
  kind := .ordinary
  loader := none
  accessFlags := 33
  super := sup
  interfaces := #[]
  cf := none
  fields := #[]
  methods := #[]
  instanceTypes := #[]
  staticTypes := #[]
  resolved := #[]
  callSites := []
  init := .initialized
  statics := none
  mirror := none

def pool0 : Array CpInfo := pool [(5, u "<init>"), (0, u "()V"), (1, .class_ 10), (1, u "java/lang/Object")] 113

def k0c0 : Code := { maxStack := 0, maxLocals := 1, code := object_method_1_code, exceptionTable := #[], attributes := #[] }
def k0m0 : Method := { name := "<init>", desc := "()V", sig := { parameters := [], returnType := none }, accessFlags := 1, code := some k0c0 }
/-- java/lang/Object -/
def k0 : Class := { plain "java/lang/Object" none with
  accessFlags := 33
  interfaces := #[]
  cf := some (fileOf pool0 8 #[] #[{ accessFlags := 1, nameIndex := 5, descriptorIndex := 6, attributes := #[] }] 33 0 #[] #[])
  fields := #[]
  methods := #[k0m0]
  instanceTypes := #[]
  staticTypes := #[]
  resolved := Array.replicate 124 none
  statics := none }

def pool1 : Array CpInfo := pool [(2, .class_ 4), (1, u "java/lang/Object"), (0, u "<init>"), (0, u "()V"), (0, .integer 2147483647), (0, .methodref 9 10), (0, .class_ 11), (0, .nameAndType 12 13), (0, u "java/lang/Math"), (0, u "min"), (0, u "(II)I"), (0, .methodref 9 15), (0, .nameAndType 16 13), (0, u "max"), (0, .class_ 18), (0, u "com/example/bellmin/bellmin/Interval"), (0, .methodref 17 20), (0, .nameAndType 5 21), (0, u "(DD)V"), (0, .double 4611686018427387904), (1, .methodref 17 25), (0, .nameAndType 26 27), (0, u "midpoint"), (0, u "()D"), (0, .double 9079256848778919936), (1, .double 9074753249151549440), (1, .class_ 33), (0, u "com/example/bellmin/bellmin/IntervalMidpointPinLaw"), (2, u "law"), (0, u "(III)Z")] 3

def k1m0 : Method := { name := "<init>", desc := "()V", sig := { parameters := [], returnType := none }, accessFlags := 1, code := none }
def k1c1 : Code := { maxStack := 8, maxLocals := 13, code := code, exceptionTable := #[], attributes := #[] }
def k1m1 : Method := { name := "law", desc := "(III)Z", sig := { parameters := [.int, .int, .int], returnType := some .boolean }, accessFlags := 9, code := some k1c1 }
/-- com/example/bellmin/bellmin/IntervalMidpointPinLaw -/
def k1 : Class := { plain "com/example/bellmin/bellmin/IntervalMidpointPinLaw" (some 0) with
  accessFlags := 49
  interfaces := #[]
  cf := some (fileOf pool1 32 #[] #[{ accessFlags := 1, nameIndex := 5, descriptorIndex := 6, attributes := #[] }, { accessFlags := 9, nameIndex := 36, descriptorIndex := 37, attributes := #[] }] 49 2 #[] #[])
  fields := #[]
  methods := #[k1m0, k1m1]
  instanceTypes := #[]
  staticTypes := #[]
  resolved := Array.replicate 41 none
  statics := none }

def pool2 : Array CpInfo := pool [(1, .class_ 2), (0, u "java/lang/Math"), (1, .class_ 6), (1, u "java/lang/Object"), (0, u "<init>"), (0, u "()V"), (5, u "(D)D"), (83, .class_ 100), (1, u "java/lang/Math$RandomNumberGeneratorHolder"), (23, u "abs"), (47, u "negativeZeroFloatBits"), (0, u "J"), (2, u "negativeZeroDoubleBits"), (21, u "max"), (2, u "min"), (43, u "$assertionsDisabled"), (0, u "Z"), (88, u "(II)I"), (2, u "twoToTheDoubleScaleDown"), (0, u "D"), (4, u "twoToTheDoubleScaleUp"), (9, u "E"), (3, u "PI"), (2, u "TAU"), (2, u "DEGREES_TO_RADIANS"), (0, u "RADIANS_TO_DEGREES")] 94

def k2m0 : Method := { name := "<init>", desc := "()V", sig := { parameters := [], returnType := none }, accessFlags := 2, code := none }
def k2c1 : Code := { maxStack := 4, maxLocals := 2, code := jdk_29_method_64_code, exceptionTable := #[], attributes := #[] }
def k2m1 : Method := { name := "abs", desc := "(D)D", sig := { parameters := [.double], returnType := some .double }, accessFlags := 9, code := some k2c1 }
def k2c2 : Code := { maxStack := 2, maxLocals := 2, code := jdk_29_method_65_code, exceptionTable := #[], attributes := #[] }
def k2m2 : Method := { name := "max", desc := "(II)I", sig := { parameters := [.int, .int], returnType := some .int }, accessFlags := 9, code := some k2c2 }
def k2c3 : Code := { maxStack := 2, maxLocals := 2, code := jdk_29_method_69_code, exceptionTable := #[], attributes := #[] }
def k2m3 : Method := { name := "min", desc := "(II)I", sig := { parameters := [.int, .int], returnType := some .int }, accessFlags := 9, code := some k2c3 }
/-- java/lang/Math -/
def k2 : Class := { plain "java/lang/Math" (some 0) with
  accessFlags := 49
  interfaces := #[]
  cf := some (fileOf pool2 1 #[.nestMembers #[98]] #[{ accessFlags := 2, nameIndex := 7, descriptorIndex := 8, attributes := #[] }, { accessFlags := 9, nameIndex := 124, descriptorIndex := 14, attributes := #[] }, { accessFlags := 9, nameIndex := 198, descriptorIndex := 335, attributes := #[] }, { accessFlags := 9, nameIndex := 201, descriptorIndex := 335, attributes := #[] }] 49 4 #[] #[{ accessFlags := 25, nameIndex := 354, descriptorIndex := 339, attributes := #[] }, { accessFlags := 25, nameIndex := 358, descriptorIndex := 339, attributes := #[] }, { accessFlags := 25, nameIndex := 361, descriptorIndex := 339, attributes := #[] }, { accessFlags := 26, nameIndex := 364, descriptorIndex := 339, attributes := #[] }, { accessFlags := 26, nameIndex := 365, descriptorIndex := 339, attributes := #[] }, { accessFlags := 26, nameIndex := 172, descriptorIndex := 173, attributes := #[] }, { accessFlags := 26, nameIndex := 176, descriptorIndex := 173, attributes := #[] }, { accessFlags := 8, nameIndex := 344, descriptorIndex := 339, attributes := #[] }, { accessFlags := 8, nameIndex := 338, descriptorIndex := 339, attributes := #[] }, { accessFlags := 4120, nameIndex := 245, descriptorIndex := 246, attributes := #[] }])
  fields := #[{ name := "E", type := .double, accessFlags := 25, slot := 0, constantValue := 0 }, { name := "PI", type := .double, accessFlags := 25, slot := 1, constantValue := 0 }, { name := "TAU", type := .double, accessFlags := 25, slot := 2, constantValue := 0 }, { name := "DEGREES_TO_RADIANS", type := .double, accessFlags := 26, slot := 3, constantValue := 0 }, { name := "RADIANS_TO_DEGREES", type := .double, accessFlags := 26, slot := 4, constantValue := 0 }, { name := "negativeZeroFloatBits", type := .long, accessFlags := 26, slot := 5, constantValue := 0 }, { name := "negativeZeroDoubleBits", type := .long, accessFlags := 26, slot := 6, constantValue := 0 }, { name := "twoToTheDoubleScaleUp", type := .double, accessFlags := 8, slot := 7, constantValue := 0 }, { name := "twoToTheDoubleScaleDown", type := .double, accessFlags := 8, slot := 8, constantValue := 0 }, { name := "$assertionsDisabled", type := .boolean, accessFlags := 4120, slot := 9, constantValue := 0 }]
  methods := #[k2m0, k2m1, k2m2, k2m3]
  instanceTypes := #[]
  staticTypes := #[.double, .double, .double, .double, .double, .long, .long, .double, .double, .boolean]
  resolved := Array.replicate 460 none
  statics := none }

def pool3 : Array CpInfo := pool [(1, .methodref 2 3), (0, .class_ 4), (0, .nameAndType 5 6), (0, u "java/lang/Object"), (0, u "<init>"), (0, u "()V"), (0, .methodref 8 9), (0, .class_ 10), (0, .nameAndType 11 12), (0, u "java/lang/Double"), (0, u "isFinite"), (0, u "(D)Z"), (9, .fieldref 23 24), (0, .class_ 25), (0, .nameAndType 26 27), (0, u "com/example/bellmin/bellmin/Interval"), (0, u "lower"), (0, u "D"), (0, .fieldref 23 29), (0, .nameAndType 30 27), (0, u "upper"), (0, .double 4611686018427387904), (28, u "(DD)V"), (3, u "()D"), (0, u "midpoint")] 17

def k3c0 : Code := { maxStack := 6, maxLocals := 5, code := prog_1_method_1_code, exceptionTable := #[], attributes := #[] }
def k3m0 : Method := { name := "<init>", desc := "(DD)V", sig := { parameters := [.double, .double], returnType := none }, accessFlags := 1, code := some k3c0 }
def k3c1 : Code := { maxStack := 6, maxLocals := 1, code := prog_1_method_4_code, exceptionTable := #[], attributes := #[] }
def k3m1 : Method := { name := "midpoint", desc := "()D", sig := { parameters := [], returnType := some .double }, accessFlags := 1, code := some k3c1 }
/-- com/example/bellmin/bellmin/Interval -/
def k3 : Class := { plain "com/example/bellmin/bellmin/Interval" (some 0) with
  accessFlags := 33
  interfaces := #[]
  cf := some (fileOf pool3 23 #[] #[{ accessFlags := 1, nameIndex := 5, descriptorIndex := 60, attributes := #[] }, { accessFlags := 1, nameIndex := 65, descriptorIndex := 64, attributes := #[] }] 33 2 #[] #[{ accessFlags := 18, nameIndex := 26, descriptorIndex := 27, attributes := #[] }, { accessFlags := 18, nameIndex := 30, descriptorIndex := 27, attributes := #[] }])
  fields := #[{ name := "lower", type := .double, accessFlags := 18, slot := 0, constantValue := 0 }, { name := "upper", type := .double, accessFlags := 18, slot := 1, constantValue := 0 }]
  methods := #[k3m0, k3m1]
  instanceTypes := #[.double, .double]
  staticTypes := #[]
  resolved := Array.replicate 83 none
  statics := none }

def pool4 : Array CpInfo := pool [(1, .class_ 2), (0, u "java/io/Serializable"), (0, .class_ 4), (0, u "java/lang/Object")] 2

/-- java/io/Serializable -/
def k4 : Class := { plain "java/io/Serializable" (some 0) with
  accessFlags := 1537
  interfaces := #[]
  cf := some (fileOf pool4 1 #[] #[] 1537 3 #[] #[])
  fields := #[]
  methods := #[]
  instanceTypes := #[]
  staticTypes := #[]
  resolved := Array.replicate 7 none
  statics := none }

def pool5 : Array CpInfo := pool [(2, .class_ 4), (1, u "java/lang/Object"), (0, u "<init>"), (0, u "()V"), (1, .class_ 10), (1, u "java/lang/Number"), (2, .class_ 14), (0, u "java/io/Serializable"), (0, u "serialVersionUID"), (0, u "J")] 20

def k5m0 : Method := { name := "<init>", desc := "()V", sig := { parameters := [], returnType := none }, accessFlags := 1, code := none }
/-- java/lang/Number -/
def k5 : Class := { plain "java/lang/Number" (some 0) with
  accessFlags := 1057
  interfaces := #[4]
  cf := some (fileOf pool5 8 #[] #[{ accessFlags := 1, nameIndex := 5, descriptorIndex := 6, attributes := #[] }] 1057 2 #[13] #[{ accessFlags := 26, nameIndex := 15, descriptorIndex := 16, attributes := #[] }])
  fields := #[{ name := "serialVersionUID", type := .long, accessFlags := 26, slot := 0, constantValue := 0 }]
  methods := #[k5m0]
  instanceTypes := #[]
  staticTypes := #[.long]
  resolved := Array.replicate 37 none
  statics := none }

def pool6 : Array CpInfo := pool [(1, .class_ 2), (0, u "java/lang/Comparable"), (0, .class_ 4), (0, u "java/lang/Object")] 7

/-- java/lang/Comparable -/
def k6 : Class := { plain "java/lang/Comparable" (some 0) with
  accessFlags := 1537
  interfaces := #[]
  cf := some (fileOf pool6 1 #[] #[] 1537 3 #[] #[])
  fields := #[]
  methods := #[]
  instanceTypes := #[]
  staticTypes := #[]
  resolved := Array.replicate 12 none
  statics := none }

def pool7 : Array CpInfo := pool [(1, .class_ 2), (0, u "java/lang/constant/Constable"), (0, .class_ 4), (0, u "java/lang/Object")] 6

/-- java/lang/constant/Constable -/
def k7 : Class := { plain "java/lang/constant/Constable" (some 0) with
  accessFlags := 1537
  interfaces := #[]
  cf := some (fileOf pool7 1 #[] #[] 1537 3 #[] #[])
  fields := #[]
  methods := #[]
  instanceTypes := #[]
  staticTypes := #[]
  resolved := Array.replicate 11 none
  statics := none }

def pool8 : Array CpInfo := pool [(1, .class_ 2), (0, u "java/lang/constant/ConstantDesc"), (0, .class_ 4), (0, u "java/lang/Object")] 32

/-- java/lang/constant/ConstantDesc -/
def k8 : Class := { plain "java/lang/constant/ConstantDesc" (some 0) with
  accessFlags := 1537
  interfaces := #[]
  cf := some (fileOf pool8 1 #[] #[] 1537 3 #[] #[])
  fields := #[]
  methods := #[]
  instanceTypes := #[]
  staticTypes := #[]
  resolved := Array.replicate 37 none
  statics := none }

def pool9 : Array CpInfo := pool [(1, .class_ 2), (0, u "java/lang/Double"), (10, u "isFinite"), (0, u "(D)Z"), (8, .class_ 25), (1, u "java/lang/Math"), (12, .methodref 23 39), (0, .nameAndType 40 41), (0, u "abs"), (0, u "(D)D"), (69, .double 9218868437227405311), (2, .class_ 116), (1, u "java/lang/Number"), (3, u "value"), (0, u "D"), (51, u "TYPE"), (0, u "Ljava/lang/Class;"), (0, .class_ 176), (0, u "java/lang/Comparable"), (0, .class_ 178), (0, u "java/lang/constant/Constable"), (0, .class_ 180), (0, u "java/lang/constant/ConstantDesc"), (0, u "POSITIVE_INFINITY"), (3, u "NEGATIVE_INFINITY"), (2, u "NaN"), (2, u "MAX_VALUE"), (0, u "MIN_NORMAL"), (0, u "MIN_VALUE"), (2, u "SIZE"), (0, u "I"), (1, u "PRECISION"), (1, u "MAX_EXPONENT"), (1, u "MIN_EXPONENT"), (1, u "BYTES"), (3, u "serialVersionUID"), (0, u "J")] 79

def k9c0 : Code := { maxStack := 4, maxLocals := 2, code := jdk_117_method_8_code, exceptionTable := #[], attributes := #[] }
def k9m0 : Method := { name := "isFinite", desc := "(D)Z", sig := { parameters := [.double], returnType := some .boolean }, accessFlags := 9, code := some k9c0 }
/-- java/lang/Double -/
def k9 : Class := { plain "java/lang/Double" (some 5) with
  accessFlags := 49
  interfaces := #[6, 7, 8]
  cf := some (fileOf pool9 1 #[] #[{ accessFlags := 9, nameIndex := 13, descriptorIndex := 14, attributes := #[] }] 49 114 #[175, 177, 179] #[{ accessFlags := 25, nameIndex := 181, descriptorIndex := 121, attributes := #[] }, { accessFlags := 25, nameIndex := 185, descriptorIndex := 121, attributes := #[] }, { accessFlags := 25, nameIndex := 188, descriptorIndex := 121, attributes := #[] }, { accessFlags := 25, nameIndex := 191, descriptorIndex := 121, attributes := #[] }, { accessFlags := 25, nameIndex := 192, descriptorIndex := 121, attributes := #[] }, { accessFlags := 25, nameIndex := 193, descriptorIndex := 121, attributes := #[] }, { accessFlags := 25, nameIndex := 196, descriptorIndex := 197, attributes := #[] }, { accessFlags := 25, nameIndex := 199, descriptorIndex := 197, attributes := #[] }, { accessFlags := 25, nameIndex := 201, descriptorIndex := 197, attributes := #[] }, { accessFlags := 25, nameIndex := 203, descriptorIndex := 197, attributes := #[] }, { accessFlags := 25, nameIndex := 205, descriptorIndex := 197, attributes := #[] }, { accessFlags := 25, nameIndex := 173, descriptorIndex := 174, attributes := #[] }, { accessFlags := 18, nameIndex := 120, descriptorIndex := 121, attributes := #[] }, { accessFlags := 26, nameIndex := 209, descriptorIndex := 210, attributes := #[] }])
  fields := #[{ name := "POSITIVE_INFINITY", type := .double, accessFlags := 25, slot := 0, constantValue := 0 }, { name := "NEGATIVE_INFINITY", type := .double, accessFlags := 25, slot := 1, constantValue := 0 }, { name := "NaN", type := .double, accessFlags := 25, slot := 2, constantValue := 0 }, { name := "MAX_VALUE", type := .double, accessFlags := 25, slot := 3, constantValue := 0 }, { name := "MIN_NORMAL", type := .double, accessFlags := 25, slot := 4, constantValue := 0 }, { name := "MIN_VALUE", type := .double, accessFlags := 25, slot := 5, constantValue := 0 }, { name := "SIZE", type := .int, accessFlags := 25, slot := 6, constantValue := 0 }, { name := "PRECISION", type := .int, accessFlags := 25, slot := 7, constantValue := 0 }, { name := "MAX_EXPONENT", type := .int, accessFlags := 25, slot := 8, constantValue := 0 }, { name := "MIN_EXPONENT", type := .int, accessFlags := 25, slot := 9, constantValue := 0 }, { name := "BYTES", type := .int, accessFlags := 25, slot := 10, constantValue := 0 }, { name := "TYPE", type := (.object "java/lang/Class"), accessFlags := 25, slot := 11, constantValue := 0 }, { name := "value", type := .double, accessFlags := 18, slot := 0, constantValue := 0 }, { name := "serialVersionUID", type := .long, accessFlags := 26, slot := 12, constantValue := 0 }]
  methods := #[k9m0]
  instanceTypes := #[.double]
  staticTypes := #[.double, .double, .double, .double, .double, .double, .int, .int, .int, .int, .int, (.object "java/lang/Class"), .long]
  resolved := Array.replicate 290 none
  statics := none }

def pool10 : Array CpInfo := pool [(1, u "java/lang/Cloneable"), (0, .class_ 1), (0, u "java/lang/Object"), (0, .class_ 3)] 3

/-- java/lang/Cloneable -/
def k10 : Class := { plain "java/lang/Cloneable" (some 0) with
  accessFlags := 1537
  interfaces := #[]
  cf := some (fileOf pool10 2 #[] #[] 1537 4 #[] #[])
  fields := #[]
  methods := #[]
  instanceTypes := #[]
  staticTypes := #[]
  resolved := Array.replicate 8 none
  statics := none }

/-- the primitive byte -/
def k11 : Class := { plain "byte" none with kind := .primitive 'B', accessFlags := 0x411 }
/-- [B -/
def k12 : Class := { plain "[B" (some 0) with kind := .array 11 .byte, interfaces := #[10, 4], accessFlags := 1041 }

/-- the primitive int -/
def k13 : Class := { plain "int" none with kind := .primitive 'I', accessFlags := 0x411 }
/-- [I -/
def k14 : Class := { plain "[I" (some 0) with kind := .array 13 .int, interfaces := #[10, 4], accessFlags := 1041 }

def heap : Heap := #[]
def classes : Array Class := #[k0, k1, k2, k3, k4, k5, k6, k7, k8, k9, k10, k11, k12, k13, k14]
def interned : List (Array UInt16 × Addr) := []
def slotsUsed : Nat := 0
def theMethod : MethodId := ⟨1, 1⟩
def args0 : Array Value := #[.int 5, .int 3, .int 7]
def aboutOver (below : List Frame) : State where
  vm := { classes := classes, interned := interned.toArray }
  heap := heap
  slotsUsed := slotsUsed
  threads := #[{ frames := .invoking theMethod args0 :: below }]
def below0 : List Frame := [.native { method := ⟨0, 0⟩, args := #[] }]
def about1 : State := aboutOver below0
def p0 : Program := .bare "" "" ""
def e0 : Env := launch0.env 0 0 0
theorem w_frames : about1.frames = Frame.invoking theMethod args0 :: below0 := rfl
set_option maxRecDepth 65536 in
theorem w_args : argsFit about1.vm theMethod args0 = true := by decide +kernel
set_option maxRecDepth 65536 in
theorem w_heap : heapFits about1 = true := by decide +kernel
set_option maxRecDepth 65536 in
theorem w_runnable : about1.curStatus? = some .runnable := by decide +kernel
set_option maxRecDepth 65536 in
theorem w_alone : about1.alone = true := by decide +kernel
set_option maxRecDepth 65536 in
theorem w_named : about1.methodNamed? x = some theMethod := by decide +kernel
set_option maxRecDepth 65536 in
theorem w_hears : about1.hears theMethod below0 = true := by decide +kernel
set_option maxRecDepth 65536 in
theorem w_ripe : about1.ripe theMethod args0 below0 = true := by decide +kernel
theorem w_running : about1.status = .running := rfl
set_option maxRecDepth 65536 in
theorem w_room : about1.hasRoom e0.platform room_1 = true :=
  launch0.hasRoom_least _ room_1 (by decide +kernel) (by decide +kernel) (by decide +kernel) (by decide +kernel) (by decide +kernel) (by decide +kernel)
theorem allAtoms_all (ts : List Jvm.Cond) (a : Array Jvm.Value) (st : Jvm.State) : (allAtoms ts).before a st = ts.all (fun c => c.before a st) := by
  induction ts with
  | nil => rfl
  | cons c t ih =>
    show (Jvm.Cond.and c (allAtoms t)).before a st = _
    rw [Jvm.Cond.before_and, ih, List.all_cons]
def words1 : List Jvm.Cond := Jvm.Cond.code x code maxLocals ret :: tables_1
/-- a 'code' word, met by the world's own term for the bytes: nothing is compared byte by byte -/
theorem code_word {y : MethodName} {bytes : ByteArray} {mx : Nat} {rt : Option FieldType} {a : Array Value} {s : State} {m : MethodId} {meth : Method} {c : Code} (h1 : s.methodNamed? y = some m) (h2 : s.vm.method? m = some meth) (h3 : meth.code = some c) (h4 : c.code = bytes)
    (h5 : (c.maxLocals == mx && c.exceptionTable.isEmpty && decide (c.maxStack ≤ mostOperands) && decide (meth.sig.returnType = rt) && !meth.locks && decide (parseMethodDescriptor y.desc = some meth.sig)) = true) : (Jvm.Cond.code y bytes mx rt).before a s = true := by
  simp only [Bool.and_eq_true, beq_iff_eq, Bool.not_eq_true', decide_eq_true_eq] at h5
  obtain ⟨⟨⟨⟨⟨g1, g2⟩, g3⟩, g4⟩, g5⟩, g6⟩ := h5
  simp [Cond.before, Cond.holds, Cond.value, h1, h2, h3, h4, g1, g2, g3, g4, g5, g6]
def isCode : Jvm.Cond → Bool
  | .code _ _ _ _ => true
  | _ => false
theorem all_split {L : List Jvm.Cond} {P : Jvm.Cond → Bool} (h1 : L.all (fun c => isCode c || P c) = true) (h2 : ∀ c ∈ L.filter isCode, P c = true) : L.all P = true := by
  refine List.all_eq_true.mpr fun c hc => ?_
  have h := List.all_eq_true.mp h1 c hc
  rcases Bool.eq_false_or_eq_true (isCode c) with hi | hi
  · exact h2 c (List.mem_filter.mpr ⟨hc, hi⟩)
  · simpa [hi] using h
set_option maxRecDepth 65536 in
theorem w_c0 : (Jvm.Cond.code x code maxLocals ret).before args0 about1 = true := code_word (m := ⟨1, 1⟩) (meth := k1m1) (c := k1c1) (by decide +kernel) rfl rfl rfl (by decide +kernel)
set_option maxRecDepth 65536 in
theorem w_c1 : (Jvm.Cond.code ({ cls := "java/lang/Math", name := "min", desc := "(II)I" } : Jvm.MethodName) jdk_29_method_69_code (2 : Nat) (Option.some Jvm.ClassFile.FieldType.int)).before args0 about1 = true := code_word (m := ⟨2, 3⟩) (meth := k2m3) (c := k2c3) (by decide +kernel) rfl rfl rfl (by decide +kernel)
set_option maxRecDepth 65536 in
theorem w_c2 : (Jvm.Cond.code ({ cls := "java/lang/Math", name := "max", desc := "(II)I" } : Jvm.MethodName) jdk_29_method_65_code (2 : Nat) (Option.some Jvm.ClassFile.FieldType.int)).before args0 about1 = true := code_word (m := ⟨2, 2⟩) (meth := k2m2) (c := k2c2) (by decide +kernel) rfl rfl rfl (by decide +kernel)
set_option maxRecDepth 65536 in
theorem w_c3 : (Jvm.Cond.code ({ cls := "com/example/bellmin/bellmin/Interval", name := "<init>", desc := "(DD)V" } : Jvm.MethodName) prog_1_method_1_code (5 : Nat) (Option.none : Option Jvm.ClassFile.FieldType)).before args0 about1 = true := code_word (m := ⟨3, 0⟩) (meth := k3m0) (c := k3c0) (by decide +kernel) rfl rfl rfl (by decide +kernel)
set_option maxRecDepth 65536 in
theorem w_c4 : (Jvm.Cond.code ({ cls := "java/lang/Object", name := "<init>", desc := "()V" } : Jvm.MethodName) object_method_1_code (1 : Nat) (Option.none : Option Jvm.ClassFile.FieldType)).before args0 about1 = true := code_word (m := ⟨0, 0⟩) (meth := k0m0) (c := k0c0) (by decide +kernel) rfl rfl rfl (by decide +kernel)
set_option maxRecDepth 65536 in
theorem w_c5 : (Jvm.Cond.code ({ cls := "java/lang/Double", name := "isFinite", desc := "(D)Z" } : Jvm.MethodName) jdk_117_method_8_code (2 : Nat) (Option.some Jvm.ClassFile.FieldType.boolean)).before args0 about1 = true := code_word (m := ⟨9, 0⟩) (meth := k9m0) (c := k9c0) (by decide +kernel) rfl rfl rfl (by decide +kernel)
set_option maxRecDepth 65536 in
theorem w_c6 : (Jvm.Cond.code ({ cls := "java/lang/Math", name := "abs", desc := "(D)D" } : Jvm.MethodName) jdk_29_method_64_code (2 : Nat) (Option.some Jvm.ClassFile.FieldType.double)).before args0 about1 = true := code_word (m := ⟨2, 1⟩) (meth := k2m1) (c := k2c1) (by decide +kernel) rfl rfl rfl (by decide +kernel)
set_option maxRecDepth 65536 in
theorem w_c7 : (Jvm.Cond.code ({ cls := "com/example/bellmin/bellmin/Interval", name := "midpoint", desc := "()D" } : Jvm.MethodName) prog_1_method_4_code (1 : Nat) (Option.some Jvm.ClassFile.FieldType.double)).before args0 about1 = true := code_word (m := ⟨3, 1⟩) (meth := k3m1) (c := k3c1) (by decide +kernel) rfl rfl rfl (by decide +kernel)
def codes1 : List Jvm.Cond := [Jvm.Cond.code x code maxLocals ret, Jvm.Cond.code ({ cls := "java/lang/Math", name := "min", desc := "(II)I" } : Jvm.MethodName) jdk_29_method_69_code (2 : Nat) (Option.some Jvm.ClassFile.FieldType.int), Jvm.Cond.code ({ cls := "java/lang/Math", name := "max", desc := "(II)I" } : Jvm.MethodName) jdk_29_method_65_code (2 : Nat) (Option.some Jvm.ClassFile.FieldType.int), Jvm.Cond.code ({ cls := "com/example/bellmin/bellmin/Interval", name := "<init>", desc := "(DD)V" } : Jvm.MethodName) prog_1_method_1_code (5 : Nat) (Option.none : Option Jvm.ClassFile.FieldType), Jvm.Cond.code ({ cls := "java/lang/Object", name := "<init>", desc := "()V" } : Jvm.MethodName) object_method_1_code (1 : Nat) (Option.none : Option Jvm.ClassFile.FieldType), Jvm.Cond.code ({ cls := "java/lang/Double", name := "isFinite", desc := "(D)Z" } : Jvm.MethodName) jdk_117_method_8_code (2 : Nat) (Option.some Jvm.ClassFile.FieldType.boolean), Jvm.Cond.code ({ cls := "java/lang/Math", name := "abs", desc := "(D)D" } : Jvm.MethodName) jdk_29_method_64_code (2 : Nat) (Option.some Jvm.ClassFile.FieldType.double), Jvm.Cond.code ({ cls := "com/example/bellmin/bellmin/Interval", name := "midpoint", desc := "()D" } : Jvm.MethodName) prog_1_method_4_code (1 : Nat) (Option.some Jvm.ClassFile.FieldType.double)]
set_option maxRecDepth 65536 in
theorem codes_eq : words1.filter isCode = codes1 := rfl
theorem w_codes : ∀ c ∈ words1.filter isCode, c.before args0 about1 = true := by
  rw [codes_eq]
  intro c hc
  simp only [codes1, List.mem_cons, List.not_mem_nil, or_false] at hc
  rcases hc with rfl | rfl | rfl | rfl | rfl | rfl | rfl | rfl
  · exact w_c0
  · exact w_c1
  · exact w_c2
  · exact w_c3
  · exact w_c4
  · exact w_c5
  · exact w_c6
  · exact w_c7
set_option maxRecDepth 65536 in
theorem w_t1 : (words1.take 24).all (fun c => isCode c || c.before args0 about1) = true := by decide +kernel
set_option maxRecDepth 65536 in
theorem w_t2 : (words1.drop 24).all (fun c => isCode c || c.before args0 about1) = true := by decide +kernel
theorem w_tables : (allAtoms (Jvm.Cond.code x code maxLocals ret :: tables_1)).before args0 about1 = true := by
  rw [allAtoms_all]
  show words1.all (fun c => c.before args0 about1) = true
  refine all_split ?_ w_codes
  rw [← List.take_append_drop 24 words1, List.all_append, w_t1, w_t2]
  rfl
set_option maxRecDepth 65536 in
theorem w_case : (Jvm.Cond.and given_1 narrow_1).before args0 about1 = true := by decide +kernel
theorem w_applies : (headSpec (Jvm.Cond.code x code maxLocals ret :: tables_1) room_1).applies x e0.platform about1 = true :=
  (Spec.applies_iff w_frames).mpr ⟨w_running, w_runnable, w_alone, w_named, w_hears, w_ripe, w_room, w_tables⟩
theorem atStart : AtStart classFile x code maxLocals ret World_1 tables_1 room_1 Calls_1 rest_1 Pre_1 launch0 p0 e0 about1 theMethod args0 below0 :=
  ⟨lists_1, trivial, launch0.admits_env _ _ _, launch0.least_env, fairChoices_fair.cas, fairChoices_fair.clock, w_frames, w_args, w_heap, w_applies, trivial, trivial, w_case⟩
end start1
theorem witness_1 : WitnessClaimed_1 := ⟨start1.p0, start1.e0, start1.about1, start1.theMethod, start1.args0, start1.below0, start1.atStart⟩
end Jvm.Pilot.@@N@@
