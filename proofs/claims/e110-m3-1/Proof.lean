import JvmDerived
import JvmDerived.Pilot.@@N@@Statement
import JvmDerived.Pilot.@@N@@Code
set_option linter.unusedVariables false
set_option linter.unusedSimpArgs false
@@BLOCK:NumsL.lean.txt@@
namespace Jvm.Pilot.@@N@@
open Jvm Jvm.ClassFile Sem Op Lib Jvm.Free Jvm.Stand Jvm.LawKit Jvm.RoadKit Bundle Jvm.Pilot.@@N@@.Jvm.D
section OwnFP
open Jvm.FP.Core
/-- the datum is i * 2^k -/
def OwnSc (k i : Int) : Datum → Prop
  | .fin s c q => Whole i (.fin s c (q - k))
  | _ => False
/-- the double is i * 2^k -/
def OwnDS (k i : Int) (a : UInt64) : Prop := OwnSc k i (val64 a)

theorem own_sc_fin {k i : Int} {d : Datum} (h : OwnSc k i d) : ∃ s c q, d = .fin s c q ∧ Whole i (.fin s c (q - k)) := by
  cases d with
  | nan => exact h.elim
  | inf => exact h.elim
  | fin s c q => exact ⟨s, c, q, rfl, h⟩

theorem own_ds_int {i : Int} {a : UInt64} (h : DInt i a) : OwnDS 0 i a := by
  have h' : Whole i (val64 a) := h
  show OwnSc 0 i (val64 a)
  cases hv : val64 a with
  | nan => rw [hv] at h'; exact h'.elim
  | inf => rw [hv] at h'; exact h'.elim
  | fin s c q => rw [hv] at h'; show Whole i (.fin s c (q - 0)); rw [Int.sub_zero]; exact h'

theorem own_int_ds {i : Int} {a : UInt64} (h : OwnDS 0 i a) : DInt i a := by
  obtain ⟨s, c, q, hv, h'⟩ := own_sc_fin h
  show Whole i (val64 a)
  rw [hv]; rw [Int.sub_zero] at h'; exact h'

theorem own_ds_ne_nan {k i : Int} {a : UInt64} (h : OwnDS k i a) : val64 a ≠ .nan := by
  obtain ⟨s, c, q, hv, -⟩ := own_sc_fin h
  rw [hv]; exact Datum.noConfusion

/-- the numbers i * 2^k with |i| < 2^n are doubles where n ≤ 53, n + k ≤ 1024, -1022 ≤ k -/
theorem own_fitAt (s : Bool) {n m : Nat} {k : Int} (hm : m < 2 ^ n) (hn : n ≤ 53) (h1 : (n : Int) + k ≤ 1024) (h2 : -1022 ≤ k) :
    ∃ c q, Jvm.FP.Core.fits b64 (.fin s c q) ∧ m * 2 ^ (k - q).toNat = c * 1 * 2 ^ (q - k).toNat := by
  have hq1 : b64.qmin = -1074 := by decide
  have hq2 : b64.qmax = 971 := by decide
  by_cases h0 : m = 0
  · subst h0
    exact ⟨0, b64.qmin, zero_fits good_b64 s, by simp⟩
  · have l1 : 2 ^ m.log2 ≤ m := Nat.log2_self_le h0
    have l2 : m < 2 ^ (m.log2 + 1) := Nat.lt_log2_self
    have l3 : m.log2 < n := (Nat.pow_lt_pow_iff_right (by decide : 1 < 2)).mp (Nat.lt_of_le_of_lt l1 hm)
    generalize m.log2 = L at l1 l2 l3
    refine ⟨m * 2 ^ (52 - L), (L : Int) - 52 + k, ⟨?_, by omega, by omega, .inr ?_⟩, ?_⟩
    · calc m * 2 ^ (52 - L) < 2 ^ (L + 1) * 2 ^ (52 - L) := Nat.mul_lt_mul_of_pos_right l2 (Nat.two_pow_pos _)
        _ = 2 ^ b64.p := by rw [← Nat.pow_add]; congr 1; show L + 1 + (52 - L) = 53; omega
    · calc b64.tails = 2 ^ L * 2 ^ (52 - L) := by rw [← Nat.pow_add]; show 2 ^ 52 = _; congr 1; omega
        _ ≤ m * 2 ^ (52 - L) := Nat.mul_le_mul_right _ l1
    · rw [show (k - ((L : Int) - 52 + k)).toNat = 52 - L by omega, show ((L : Int) - 52 + k - k).toNat = 0 by omega]
      simp

theorem own_signed_of {i : Int} {s : Bool} {c : Nat} {q : Int} (h : Whole i (.fin s c q)) : signed s i.natAbs = i := by
  by_cases hi : i = 0
  · rw [hi]; exact signed_zero s
  · rw [whole_sign h hi]
    by_cases h : i < 0
    · rw [decide_eq_true h]; show -(i.natAbs : Int) = i; omega
    · rw [decide_eq_false h]; show (i.natAbs : Int) = i; omega

/-- what roundRatio makes of a ratio that is m * 2^k, m < 2^n -/
theorem own_rr {s : Bool} {A B m n : Nat} {e k i : Int} (hB : 0 < B) (hv : A * 2 ^ (e - k).toNat = m * B * 2 ^ (k - e).toNat)
    (hm : m < 2 ^ n) (hn : n ≤ 53) (h1 : (n : Int) + k ≤ 1024) (h2 : -1022 ≤ k) (hi : signed s m = i) : OwnSc k i (roundRatio b64 s A B e) := by
  obtain ⟨c', q', hfit, hv'⟩ := own_fitAt s hm hn h1 h2
  rw [roundRatio_congr (A' := m) (B' := 1) (e' := k) hB (by decide) (by simpa using hv), roundRatio_exact good_b64 (by decide) hfit hv']
  show signed s (c' * 2 ^ (q' - k).toNat) = i * ((2 ^ (-(q' - k)).toNat : Nat) : Int)
  rw [show (-(q' - k)).toNat = (k - q').toNat by omega, ← hi, ← signed_mul, hv', Nat.mul_one]

theorem own_sc_round {n : Nat} {k i : Int} {d : Datum} (h : OwnSc k i d) (hi : i.natAbs < 2 ^ n) (hn : n ≤ 53) (h1 : (n : Int) + k ≤ 1024) (h2 : -1022 ≤ k) : OwnSc k i (round b64 d) := by
  obtain ⟨s, c, q, rfl, hw⟩ := own_sc_fin h
  refine own_rr (m := i.natAbs) (n := n) (by decide) ?_ hi hn h1 h2 (own_signed_of hw)
  have q1 := whole_natAbs hw
  rw [show (-(q - k)).toNat = (k - q).toNat by omega] at q1
  simpa using q1

theorem own_shift_sum (s : Bool) (c : Nat) (q : Int) (t : Bool) (d : Nat) (r k : Int) :
    ∃ u f w, exactSum (.fin s c q) (.fin t d r) = .fin u f w ∧ exactSum (.fin s c (q - k)) (.fin t d (r - k)) = .fin u f (w - k) := by
  refine ⟨_, _, _, rfl, ?_⟩
  have hmin : min (q - k) (r - k) = min q r - k := by omega
  have hu : sumUnits s c (q - k) t d (r - k) (min (q - k) (r - k)) = sumUnits s c q t d r (min q r) := by
    show signed s (c * 2 ^ (q - k - min (q - k) (r - k)).toNat) + signed t (d * 2 ^ (r - k - min (q - k) (r - k)).toNat) = signed s (c * 2 ^ (q - min q r).toNat) + signed t (d * 2 ^ (r - min q r).toNat)
    rw [hmin, show q - k - (min q r - k) = q - min q r by omega, show r - k - (min q r - k) = r - min q r by omega]
  show Datum.fin (sumSign s t (sumUnits s c (q - k) t d (r - k) (min (q - k) (r - k)))) (sumUnits s c (q - k) t d (r - k) (min (q - k) (r - k))).natAbs (min (q - k) (r - k)) = _
  rw [hu, hmin]

theorem own_sc_sum {k i j : Int} {x y : Datum} (hx : OwnSc k i x) (hy : OwnSc k j y) : OwnSc k (i + j) (exactSum x y) := by
  obtain ⟨s, c, q, rfl, h1⟩ := own_sc_fin hx
  obtain ⟨t, d, r, rfl, h2⟩ := own_sc_fin hy
  obtain ⟨u, f, w, e1, e2⟩ := own_shift_sum s c q t d r k
  have h3 := whole_sum h1 h2
  rw [e2] at h3
  rw [e1]; exact h3

theorem own_sc_neg {k i : Int} {x : Datum} (hx : OwnSc k i x) : OwnSc k (-i) (negate x) := by
  obtain ⟨s, c, q, rfl, h1⟩ := own_sc_fin hx
  exact whole_negate h1

theorem own_sc_mul {k l i j : Int} {x y : Datum} (hx : OwnSc k i x) (hy : OwnSc l j y) : OwnSc (k + l) (i * j) (exactProduct x y) := by
  obtain ⟨s, c, q, rfl, h1⟩ := own_sc_fin hx
  obtain ⟨t, d, r, rfl, h2⟩ := own_sc_fin hy
  have h3 : Whole (i * j) (.fin (s != t) (c * d) (q - k + (r - l))) := whole_product h1 h2
  show Whole (i * j) (.fin (s != t) (c * d) (q + r - (k + l)))
  rw [show q + r - (k + l) = q - k + (r - l) by omega]; exact h3

theorem own_ds_add {n : Nat} {k i j : Int} {a b : UInt64} (ha : OwnDS k i a) (hb : OwnDS k j b) (h : (i + j).natAbs < 2 ^ n) (hn : n ≤ 53 := by decide) (h1 : (n : Int) + k ≤ 1024 := by decide) (h2 : -1022 ≤ k := by decide) : OwnDS k (i + j) (dadd a b) := by
  show OwnSc _ _ _
  rw [val64_dadd]; exact own_sc_round (own_sc_sum ha hb) h hn h1 h2
theorem own_ds_sub {n : Nat} {k i j : Int} {a b : UInt64} (ha : OwnDS k i a) (hb : OwnDS k j b) (h : (i - j).natAbs < 2 ^ n) (hn : n ≤ 53 := by decide) (h1 : (n : Int) + k ≤ 1024 := by decide) (h2 : -1022 ≤ k := by decide) : OwnDS k (i - j) (dsub a b) := by
  show OwnSc _ _ _
  rw [val64_dsub]; exact own_sc_round (own_sc_sum ha (own_sc_neg hb)) h hn h1 h2
theorem own_ds_mul {n : Nat} {k l i j : Int} {a b : UInt64} (ha : OwnDS k i a) (hb : OwnDS l j b) (h : (i * j).natAbs < 2 ^ n) (hn : n ≤ 53 := by decide) (h1 : (n : Int) + (k + l) ≤ 1024 := by decide) (h2 : -1022 ≤ k + l := by decide) : OwnDS (k + l) (i * j) (dmul a b) := by
  show OwnSc _ _ _
  rw [val64_dmul]; exact own_sc_round (own_sc_mul ha hb) h hn h1 h2
theorem own_ds_negC {k i : Int} {a : UInt64} (ha : OwnDS k i a) : OwnDS k (-i) (dneg a) := by
  show OwnSc _ _ _
  rw [val64_dneg]; exact own_sc_neg ha

theorem own_order_shift (s : Bool) (c : Nat) (q : Int) (t : Bool) (d : Nat) (r k : Int) :
    order (.fin s c (q - k)) (.fin t d (r - k)) = order (.fin s c q) (.fin t d r) := by
  have hmin : min (q - k) (r - k) = min q r - k := by omega
  show some (compare (signed s (c * 2 ^ (q - k - min (q - k) (r - k)).toNat)) (signed t (d * 2 ^ (r - k - min (q - k) (r - k)).toNat))) = some (compare (signed s (c * 2 ^ (q - min q r).toNat)) (signed t (d * 2 ^ (r - min q r).toNat)))
  rw [hmin, show q - k - (min q r - k) = q - min q r by omega, show r - k - (min q r - k) = r - min q r by omega]

theorem own_ds_cmp {k i j : Int} {a b : UInt64} (ha : OwnDS k i a) (hb : OwnDS k j b) : dcmp a b = some (compare i j) := by
  obtain ⟨s, c, q, e1, h1⟩ := own_sc_fin ha
  obtain ⟨t, d, r, e2, h2⟩ := own_sc_fin hb
  show order (val64 a) (val64 b) = _
  rw [e1, e2, ← own_order_shift _ _ _ _ _ _ k]
  exact order_whole h1 h2

/-- the number kept, its scale moved down -/
theorem own_ds_down {k i : Int} {a : UInt64} (n : Nat) (h : OwnDS (k + n) i a) : OwnDS k (i * ((2 ^ n : Nat) : Int)) a := by
  obtain ⟨s, c, q, e1, h1⟩ := own_sc_fin h
  show OwnSc _ _ _
  rw [e1]
  have h2 : signed s (c * 2 ^ (q - (k + n)).toNat) = i * ((2 ^ (-(q - (k + n))).toNat : Nat) : Int) := h1
  show signed s (c * 2 ^ (q - k).toNat) = i * ((2 ^ n : Nat) : Int) * ((2 ^ (-(q - k)).toNat : Nat) : Int)
  have p2 : ((2 ^ (-(q - (k + n))).toNat : Nat) : Int) ≠ 0 := by
    have := Nat.two_pow_pos (-(q - (k + n))).toNat; omega
  refine Int.eq_of_mul_eq_mul_right p2 ?_
  have hx : (q - k).toNat + (-(q - (k + n))).toNat = (q - (k + n)).toNat + (n + (-(q - k)).toNat) := by omega
  rw [← signed_mul, Nat.mul_assoc, ← Nat.pow_add, hx, Nat.pow_add, ← Nat.mul_assoc, signed_mul, h2, Nat.pow_add]
  rw [Int.natCast_mul]; ac_rfl
theorem own_ds_up {k i : Int} {a : UInt64} (n : Nat) (h : OwnDS k (i * ((2 ^ n : Nat) : Int)) a) : OwnDS (k + n) i a := by
  obtain ⟨s, c, q, e1, h1⟩ := own_sc_fin h
  show OwnSc _ _ _
  rw [e1]
  have h2 : signed s (c * 2 ^ (q - k).toNat) = i * ((2 ^ n : Nat) : Int) * ((2 ^ (-(q - k)).toNat : Nat) : Int) := h1
  show signed s (c * 2 ^ (q - (k + n)).toNat) = i * ((2 ^ (-(q - (k + n))).toNat : Nat) : Int)
  have p2 : ((2 ^ (n + (-(q - k)).toNat) : Nat) : Int) ≠ 0 := by
    have := Nat.two_pow_pos (n + (-(q - k)).toNat); omega
  refine Int.eq_of_mul_eq_mul_right p2 ?_
  have hx : (q - (k + n)).toNat + (n + (-(q - k)).toNat) = (q - k).toNat + (-(q - (k + n))).toNat := by omega
  rw [← signed_mul, Nat.mul_assoc, ← Nat.pow_add, hx, Nat.pow_add, ← Nat.mul_assoc, signed_mul, h2, Nat.pow_add]
  rw [Int.natCast_mul]; ac_rfl

/-- a quotient that is whole (in its scale) is exact -/
theorem own_ds_div {n : Nat} {k l i j m : Int} {a b : UInt64} (ha : OwnDS k i a) (hb : OwnDS l j b) (hj : j ≠ 0) (hm : i = m * j) (h : m.natAbs < 2 ^ n) (hn : n ≤ 53 := by decide) (h1 : (n : Int) + (k - l) ≤ 1024 := by decide) (h2 : -1022 ≤ k - l := by decide) : OwnDS (k - l) m (ddiv a b) := by
  obtain ⟨s, c, q, e1, w1⟩ := own_sc_fin ha
  obtain ⟨t, d, r, e2, w2⟩ := own_sc_fin hb
  show OwnSc _ _ _
  rw [val64_ddiv, e1, e2]
  have hd : d ≠ 0 := fun h0 => hj ((whole_zero w2).mp h0)
  have hq : quotient b64 (.fin s c q) (.fin t d r) = roundRatio b64 (s != t) c d (q - r) := by
    show (if d = 0 then (if c = 0 then Datum.nan else .inf (s != t)) else roundRatio b64 (s != t) c d (q - r)) = _
    rw [if_neg hd]
  rw [hq]
  have q1 := whole_natAbs w1
  have q2 := whole_natAbs w2
  have hmn : i.natAbs = m.natAbs * j.natAbs := by rw [hm, Int.natAbs_mul]
  refine own_rr (m := m.natAbs) (n := n) (Nat.pos_of_ne_zero hd) ?_ h hn h1 h2 ?_
  · -- c 2^(q-k) = |m| |j| 2^(k-q), d 2^(r-l) = |j| 2^(l-r)
    have hjp : 0 < j.natAbs := Int.natAbs_pos.mpr hj
    rw [hmn] at q1
    generalize j.natAbs = J at q1 q2 hjp
    generalize m.natAbs = M at q1
    have hE : 0 < 2 ^ (-(r - l)).toNat * J * 2 ^ (-(q - k)).toNat * 2 ^ (r - l).toNat := by
      exact Nat.mul_pos (Nat.mul_pos (Nat.mul_pos (Nat.two_pow_pos _) hjp) (Nat.two_pow_pos _)) (Nat.two_pow_pos _)
    refine Nat.eq_of_mul_eq_mul_right hE ?_
    have x1 : (q - r - (k - l)).toNat + (-(q - k)).toNat + (r - l).toNat = (q - k).toNat + (-(r - l)).toNat + (k - l - (q - r)).toNat := by omega
    calc c * 2 ^ (q - r - (k - l)).toNat * (2 ^ (-(r - l)).toNat * J * 2 ^ (-(q - k)).toNat * 2 ^ (r - l).toNat)
        = c * (J * 2 ^ (-(r - l)).toNat) * 2 ^ ((q - r - (k - l)).toNat + (-(q - k)).toNat + (r - l).toNat) := by
          simp only [Nat.pow_add]; ac_rfl
      _ = c * (d * 2 ^ (r - l).toNat) * 2 ^ ((q - k).toNat + (-(r - l)).toNat + (k - l - (q - r)).toNat) := by rw [x1, ← q2]
      _ = (c * 2 ^ (q - k).toNat) * (d * 2 ^ (r - l).toNat) * 2 ^ (-(r - l)).toNat * 2 ^ (k - l - (q - r)).toNat := by
          simp only [Nat.pow_add]; ac_rfl
      _ = (M * J * 2 ^ (-(q - k)).toNat) * (d * 2 ^ (r - l).toNat) * 2 ^ (-(r - l)).toNat * 2 ^ (k - l - (q - r)).toNat := by rw [q1]
      _ = M * d * 2 ^ (k - l - (q - r)).toNat * (2 ^ (-(r - l)).toNat * J * 2 ^ (-(q - k)).toNat * 2 ^ (r - l).toNat) := by ac_rfl
  · have s1 := own_signed_of w1
    have s2 := own_signed_of w2
    have h3 : signed (s != t) (i.natAbs * j.natAbs) = i * j := by rw [signed_xor, s1, s2]
    have h4 : i.natAbs * j.natAbs = m.natAbs * (j.natAbs * j.natAbs) := by rw [hmn, Nat.mul_assoc]
    rw [h4, signed_mul] at h3
    have hjj : ((j.natAbs * j.natAbs : Nat) : Int) = j * j := by rw [Int.natAbs_mul_self]
    rw [hjj, hm, Int.mul_assoc] at h3
    exact Int.eq_of_mul_eq_mul_right (Int.mul_ne_zero hj hj) h3
end OwnFP
/-! own tools: a walk in continuation style, named values, the ends -/
abbrev uU : Slot := .unset
abbrev uS : Slot := .second
abbrev sN : Slot := .val .null
abbrev sI (x : Int32) : Slot := .val (.int x)
abbrev sJ (x : Int64) : Slot := .val (.long x)
abbrev sD (x : UInt64) : Slot := .val (.double x)
abbrev sR (x : Addr) : Slot := .val (.ref x)
def OwnGo (tb : Tables) (e : Env) (below : List Frame) (Q : Outcome → State → Prop) (S : State) : Prop := ∃ s₂ o, Steps tb e below S s₂ ∧ s₂.status = .running ∧ Ended s₂ below o ∧ Q o s₂
theorem OwnGo.pre {tb : Tables} {e : Env} {below : List Frame} {Q : Outcome → State → Prop} {S S' : State} (h : ∀ t, Steps tb e below S' t → Steps tb e below S t) (k : OwnGo tb e below Q S') : OwnGo tb e below Q S := by
  obtain ⟨t, o, h1, h2⟩ := k
  exact ⟨t, o, h t h1, h2⟩
abbrev OwnEnd (s : State) (Q : Option Value → Heap → List Loc → Prop) (kc ks : Nat) : Outcome → State → Prop := fun o s₂ => ∃ v L, o = .returned v ∧ Q v s₂.heap L ∧ FrameEnd s o s₂ L kc ks
section OwnEnds
variable {p : Program} {l : Launch} {e : Env} {R : Room} {s : State} {m : MethodId} {args : Array Value} {below : List Frame} {meth : Method} {c : Code} {T : State} {locs : List Loc} {cells slots : Nat}
theorem own_retZ (X : Stand p l e R s m args below meth c T locs cells slots) (hx : p.tables.exec = Jvm.exec) (hk : meth.locks = false) {pc : Nat} {Ls : Array Slot} {z : Int32} {rest : List Value} (hret : meth.sig.returnType = some .boolean) (hd : decode c.code pc = .ok (.ireturn, 1))
    {Q : Option Value → Heap → List Loc → Prop} {kc ks : Nat} (hq : Q (some (.int (nar .boolean z))) T.heap locs) (hc : cells ≤ kc) (hs : slots ≤ ks) : OwnGo p.tables e below (OwnEnd s Q kc ks) (T.setTop (mkF m pc Ls (.int z :: rest))) := by
  obtain ⟨fs, hr, hrun, hended, hW, hsame⟩ := X.leave (v := some (.int (nar .boolean z))) (fun h => by rw [hret] at h; cases h) hk
  exact ⟨_, _, retN X hx (t := .boolean) hret (by simp) hd hr, hrun, hended, _, _, rfl, hq, ⟨_, rfl⟩, hW, hsame.mono hc hs⟩
theorem own_retI (X : Stand p l e R s m args below meth c T locs cells slots) (hx : p.tables.exec = Jvm.exec) (hk : meth.locks = false) {pc : Nat} {Ls : Array Slot} {z : Int32} {rest : List Value} (hret : meth.sig.returnType = some .int) (hd : decode c.code pc = .ok (.ireturn, 1))
    {Q : Option Value → Heap → List Loc → Prop} {kc ks : Nat} (hq : Q (some (.int z)) T.heap locs) (hc : cells ≤ kc) (hs : slots ≤ ks) : OwnGo p.tables e below (OwnEnd s Q kc ks) (T.setTop (mkF m pc Ls (.int z :: rest))) := by
  obtain ⟨fs, hr, hrun, hended, hW, hsame⟩ := X.leave (v := some (.int z)) (fun h => by rw [hret] at h; cases h) hk
  exact ⟨_, _, retOut X hx hret rfl (Or.inl ⟨rfl, Or.inl rfl, _, rfl⟩) hd hr, hrun, hended, _, _, rfl, hq, ⟨_, rfl⟩, hW, hsame.mono hc hs⟩
theorem own_retJ (X : Stand p l e R s m args below meth c T locs cells slots) (hx : p.tables.exec = Jvm.exec) (hk : meth.locks = false) {pc : Nat} {Ls : Array Slot} {z : Int64} {rest : List Value} (hret : meth.sig.returnType = some .long) (hd : decode c.code pc = .ok (.lreturn, 1))
    {Q : Option Value → Heap → List Loc → Prop} {kc ks : Nat} (hq : Q (some (.long z)) T.heap locs) (hc : cells ≤ kc) (hs : slots ≤ ks) : OwnGo p.tables e below (OwnEnd s Q kc ks) (T.setTop (mkF m pc Ls (.long z :: rest))) := by
  obtain ⟨fs, hr, hrun, hended, hW, hsame⟩ := X.leave (v := some (.long z)) (fun h => by rw [hret] at h; cases h) hk
  exact ⟨_, _, retOut X hx hret rfl (Or.inr (Or.inl ⟨rfl, rfl, _, rfl⟩)) hd hr, hrun, hended, _, _, rfl, hq, ⟨_, rfl⟩, hW, hsame.mono hc hs⟩
theorem own_retD (X : Stand p l e R s m args below meth c T locs cells slots) (hx : p.tables.exec = Jvm.exec) (hk : meth.locks = false) {pc : Nat} {Ls : Array Slot} {z : UInt64} {rest : List Value} (hret : meth.sig.returnType = some .double) (hd : decode c.code pc = .ok (.dreturn, 1))
    {Q : Option Value → Heap → List Loc → Prop} {kc ks : Nat} (hq : Q (some (.double z)) T.heap locs) (hc : cells ≤ kc) (hs : slots ≤ ks) : OwnGo p.tables e below (OwnEnd s Q kc ks) (T.setTop (mkF m pc Ls (.double z :: rest))) := by
  obtain ⟨fs, hr, hrun, hended, hW, hsame⟩ := X.leave (v := some (.double z)) (fun h => by rw [hret] at h; cases h) hk
  exact ⟨_, _, retOut X hx hret rfl (Or.inr (Or.inr (Or.inl ⟨rfl, rfl, _, rfl⟩))) hd hr, hrun, hended, _, _, rfl, hq, ⟨_, rfl⟩, hW, hsame.mono hc hs⟩
theorem own_retA (X : Stand p l e R s m args below meth c T locs cells slots) (hx : p.tables.exec = Jvm.exec) (hk : meth.locks = false) {pc : Nat} {Ls : Array Slot} {C : String} {w : Value} {rest : List Value} (hret : meth.sig.returnType = some (.object C)) (hd : decode c.code pc = .ok (.areturn, 1)) (hw : w.isRef = true)
    {Q : Option Value → Heap → List Loc → Prop} {kc ks : Nat} (hq : Q (some w) T.heap locs) (hc : cells ≤ kc) (hs : slots ≤ ks) : OwnGo p.tables e below (OwnEnd s Q kc ks) (T.setTop (mkF m pc Ls (w :: rest))) := by
  obtain ⟨fs, hr, hrun, hended, hW, hsame⟩ := X.leave (v := some w) (fun h => by rw [hret] at h; cases h) hk
  exact ⟨_, _, retOut X hx hret (by cases w <;> first | rfl | cases hw) (Or.inr (Or.inr (Or.inr (Or.inr ⟨rfl, rfl, hw⟩)))) hd hr, hrun, hended, _, _, rfl, hq, ⟨_, rfl⟩, hW, hsame.mono hc hs⟩
theorem own_ret0 (X : Stand p l e R s m args below meth c T locs cells slots) (hx : p.tables.exec = Jvm.exec) (hk : meth.locks = false) {pc : Nat} {Ls : Array Slot} (hret : meth.sig.returnType = none) (hd : decode c.code pc = .ok (.return_, 1))
    {Q : Option Value → Heap → List Loc → Prop} {kc ks : Nat} (hq : Q none T.heap locs) (hc : cells ≤ kc) (hs : slots ≤ ks) : OwnGo p.tables e below (OwnEnd s Q kc ks) (T.setTop (mkF m pc Ls [])) := by
  obtain ⟨fs, hr, hrun, hended, hW, hsame⟩ := X.leave (v := none) (fun _ => rfl) hk
  exact ⟨_, _, X.returnOut hx hret hd hr, hrun, hended, _, _, rfl, hq, ⟨_, rfl⟩, hW, hsame.mono hc hs⟩
theorem own_ldcD (X : Stand p l e R s m args below meth c T locs cells slots) (hx : p.tables.exec = Jvm.exec) {own : String} {index : Nat} {b : UInt64} (hown : s.vm.findClass own = some m.cls) (hconst : (Cond.constantDouble own index b).before args s = true) {g : JFrame} {target : State} (hg : g.method = m) (hd : decode c.code g.pc = .ok (.ldc2_w index, 3))
    (hr : Steps p.tables e below (T.setTop { g with pc := g.pc + 3, stack := .double b :: g.stack }) target) : Steps p.tables e below (T.setTop g) target := X.ldc2DoubleC hx hown hconst hg hd target hr
theorem own_ldcJ (X : Stand p l e R s m args below meth c T locs cells slots) (hx : p.tables.exec = Jvm.exec) {own : String} {index : Nat} {b : Int64} (hown : s.vm.findClass own = some m.cls) (hconst : (Cond.constantLong own index b).before args s = true) {g : JFrame} {target : State} (hg : g.method = m) (hd : decode c.code g.pc = .ok (.ldc2_w index, 3))
    (hr : Steps p.tables e below (T.setTop { g with pc := g.pc + 3, stack := .long b :: g.stack }) target) : Steps p.tables e below (T.setTop g) target := X.ldc2Long hx hown hconst hg hd target hr
theorem own_ldcI (X : Stand p l e R s m args below meth c T locs cells slots) (hx : p.tables.exec = Jvm.exec) {own : String} {index : Nat} {b : Int32} (hown : s.vm.findClass own = some m.cls) (hconst : (Cond.constant own index b).before args s = true) {g : JFrame} {target : State} (hg : g.method = m) (hd : decode c.code g.pc = .ok (.ldc index, 2))
    (hr : Steps p.tables e below (T.setTop { g with pc := g.pc + 2, stack := .int b :: g.stack }) target) : Steps p.tables e below (T.setTop g) target := X.ldcInt hx hown hconst hg hd target hr
end OwnEnds
theorem own_iadd {tb : Tables} [Ours tb] {e : Env} {below : List Frame} {T target : State} {m : MethodId} {c : Code} {g : JFrame} (h : At T m c below) (hx : tb.exec = Jvm.exec) (hg : g.method = m) {x : Int32} {y : Int32} {v : Int32} {rest : List Value} (hd : decode c.code g.pc = .ok (.iadd, 1)) (hs : g.stack = .int y :: .int x :: rest) (hv : x + y = v)
    (hr : Steps tb e below (T.setTop { g with pc := g.pc + 1, stack := .int v :: rest }) target) : Steps tb e below (T.setTop g) target := by subst hv; exact XS.iadd h hx hg hd hs hr
theorem own_isub {tb : Tables} [Ours tb] {e : Env} {below : List Frame} {T target : State} {m : MethodId} {c : Code} {g : JFrame} (h : At T m c below) (hx : tb.exec = Jvm.exec) (hg : g.method = m) {x : Int32} {y : Int32} {v : Int32} {rest : List Value} (hd : decode c.code g.pc = .ok (.isub, 1)) (hs : g.stack = .int y :: .int x :: rest) (hv : x - y = v)
    (hr : Steps tb e below (T.setTop { g with pc := g.pc + 1, stack := .int v :: rest }) target) : Steps tb e below (T.setTop g) target := by subst hv; exact XS.isub h hx hg hd hs hr
theorem own_iand {tb : Tables} [Ours tb] {e : Env} {below : List Frame} {T target : State} {m : MethodId} {c : Code} {g : JFrame} (h : At T m c below) (hx : tb.exec = Jvm.exec) (hg : g.method = m) {x : Int32} {y : Int32} {v : Int32} {rest : List Value} (hd : decode c.code g.pc = .ok (.iand, 1)) (hs : g.stack = .int y :: .int x :: rest) (hv : x &&& y = v)
    (hr : Steps tb e below (T.setTop { g with pc := g.pc + 1, stack := .int v :: rest }) target) : Steps tb e below (T.setTop g) target := by subst hv; exact XS.iand h hx hg hd hs hr
theorem own_ishl {tb : Tables} [Ours tb] {e : Env} {below : List Frame} {T target : State} {m : MethodId} {c : Code} {g : JFrame} (h : At T m c below) (hx : tb.exec = Jvm.exec) (hg : g.method = m) {x : Int32} {y : Int32} {v : Int32} {rest : List Value} (hd : decode c.code g.pc = .ok (.ishl, 1)) (hs : g.stack = .int y :: .int x :: rest) (hv : x <<< (y &&& 31) = v)
    (hr : Steps tb e below (T.setTop { g with pc := g.pc + 1, stack := .int v :: rest }) target) : Steps tb e below (T.setTop g) target := by subst hv; exact XT.ishl h hx hg hd hs hr
theorem own_ishr {tb : Tables} [Ours tb] {e : Env} {below : List Frame} {T target : State} {m : MethodId} {c : Code} {g : JFrame} (h : At T m c below) (hx : tb.exec = Jvm.exec) (hg : g.method = m) {x : Int32} {y : Int32} {v : Int32} {rest : List Value} (hd : decode c.code g.pc = .ok (.ishr, 1)) (hs : g.stack = .int y :: .int x :: rest) (hv : x >>> (y &&& 31) = v)
    (hr : Steps tb e below (T.setTop { g with pc := g.pc + 1, stack := .int v :: rest }) target) : Steps tb e below (T.setTop g) target := by subst hv; exact XT.ishr h hx hg hd hs hr
theorem own_iushr {tb : Tables} [Ours tb] {e : Env} {below : List Frame} {T target : State} {m : MethodId} {c : Code} {g : JFrame} (h : At T m c below) (hx : tb.exec = Jvm.exec) (hg : g.method = m) {x : Int32} {y : Int32} {v : Int32} {rest : List Value} (hd : decode c.code g.pc = .ok (.iushr, 1)) (hs : g.stack = .int y :: .int x :: rest) (hv : XT.ushr x y = v)
    (hr : Steps tb e below (T.setTop { g with pc := g.pc + 1, stack := .int v :: rest }) target) : Steps tb e below (T.setTop g) target := by subst hv; exact XT.iushr h hx hg hd hs hr
theorem own_irem {tb : Tables} [Ours tb] {e : Env} {below : List Frame} {T target : State} {m : MethodId} {c : Code} {g : JFrame} (h : At T m c below) (hx : tb.exec = Jvm.exec) (hg : g.method = m) {x : Int32} {y : Int32} {v : Int32} {rest : List Value} (hd : decode c.code g.pc = .ok (.irem, 1)) (hs : g.stack = .int y :: .int x :: rest) (hy : y ≠ 0) (hv : x - x / y * y = v)
    (hr : Steps tb e below (T.setTop { g with pc := g.pc + 1, stack := .int v :: rest }) target) : Steps tb e below (T.setTop g) target := by subst hv; exact XS.irem h hx hg hd hs hy hr
theorem own_ladd {tb : Tables} [Ours tb] {e : Env} {below : List Frame} {T target : State} {m : MethodId} {c : Code} {g : JFrame} (h : At T m c below) (hx : tb.exec = Jvm.exec) (hg : g.method = m) {x : Int64} {y : Int64} {v : Int64} {rest : List Value} (hd : decode c.code g.pc = .ok (.ladd, 1)) (hs : g.stack = .long y :: .long x :: rest) (hv : x + y = v)
    (hr : Steps tb e below (T.setTop { g with pc := g.pc + 1, stack := .long v :: rest }) target) : Steps tb e below (T.setTop g) target := by subst hv; exact XT.ladd h hx hg hd hs hr
theorem own_lsub {tb : Tables} [Ours tb] {e : Env} {below : List Frame} {T target : State} {m : MethodId} {c : Code} {g : JFrame} (h : At T m c below) (hx : tb.exec = Jvm.exec) (hg : g.method = m) {x : Int64} {y : Int64} {v : Int64} {rest : List Value} (hd : decode c.code g.pc = .ok (.lsub, 1)) (hs : g.stack = .long y :: .long x :: rest) (hv : x - y = v)
    (hr : Steps tb e below (T.setTop { g with pc := g.pc + 1, stack := .long v :: rest }) target) : Steps tb e below (T.setTop g) target := by subst hv; exact XT.lsub h hx hg hd hs hr
theorem own_lmul {tb : Tables} [Ours tb] {e : Env} {below : List Frame} {T target : State} {m : MethodId} {c : Code} {g : JFrame} (h : At T m c below) (hx : tb.exec = Jvm.exec) (hg : g.method = m) {x : Int64} {y : Int64} {v : Int64} {rest : List Value} (hd : decode c.code g.pc = .ok (.lmul, 1)) (hs : g.stack = .long y :: .long x :: rest) (hv : x * y = v)
    (hr : Steps tb e below (T.setTop { g with pc := g.pc + 1, stack := .long v :: rest }) target) : Steps tb e below (T.setTop g) target := by subst hv; exact XT.lmul h hx hg hd hs hr
theorem own_land {tb : Tables} [Ours tb] {e : Env} {below : List Frame} {T target : State} {m : MethodId} {c : Code} {g : JFrame} (h : At T m c below) (hx : tb.exec = Jvm.exec) (hg : g.method = m) {x : Int64} {y : Int64} {v : Int64} {rest : List Value} (hd : decode c.code g.pc = .ok (.land, 1)) (hs : g.stack = .long y :: .long x :: rest) (hv : x &&& y = v)
    (hr : Steps tb e below (T.setTop { g with pc := g.pc + 1, stack := .long v :: rest }) target) : Steps tb e below (T.setTop g) target := by subst hv; exact XT.land h hx hg hd hs hr
theorem own_lshl {tb : Tables} [Ours tb] {e : Env} {below : List Frame} {T target : State} {m : MethodId} {c : Code} {g : JFrame} (h : At T m c below) (hx : tb.exec = Jvm.exec) (hg : g.method = m) {x : Int64} {y : Int32} {v : Int64} {rest : List Value} (hd : decode c.code g.pc = .ok (.lshl, 1)) (hs : g.stack = .int y :: .long x :: rest) (hv : x <<< (y.toInt64 &&& 63) = v)
    (hr : Steps tb e below (T.setTop { g with pc := g.pc + 1, stack := .long v :: rest }) target) : Steps tb e below (T.setTop g) target := by subst hv; exact XT.lshl h hx hg hd hs hr
theorem own_lshr {tb : Tables} [Ours tb] {e : Env} {below : List Frame} {T target : State} {m : MethodId} {c : Code} {g : JFrame} (h : At T m c below) (hx : tb.exec = Jvm.exec) (hg : g.method = m) {x : Int64} {y : Int32} {v : Int64} {rest : List Value} (hd : decode c.code g.pc = .ok (.lshr, 1)) (hs : g.stack = .int y :: .long x :: rest) (hv : x >>> (y.toInt64 &&& 63) = v)
    (hr : Steps tb e below (T.setTop { g with pc := g.pc + 1, stack := .long v :: rest }) target) : Steps tb e below (T.setTop g) target := by subst hv; exact XT.lshr h hx hg hd hs hr
theorem own_lushr {tb : Tables} [Ours tb] {e : Env} {below : List Frame} {T target : State} {m : MethodId} {c : Code} {g : JFrame} (h : At T m c below) (hx : tb.exec = Jvm.exec) (hg : g.method = m) {x : Int64} {y : Int32} {v : Int64} {rest : List Value} (hd : decode c.code g.pc = .ok (.lushr, 1)) (hs : g.stack = .int y :: .long x :: rest) (hv : XT.ushrL x y = v)
    (hr : Steps tb e below (T.setTop { g with pc := g.pc + 1, stack := .long v :: rest }) target) : Steps tb e below (T.setTop g) target := by subst hv; exact XT.lushr h hx hg hd hs hr
theorem own_lrem {tb : Tables} [Ours tb] {e : Env} {below : List Frame} {T target : State} {m : MethodId} {c : Code} {g : JFrame} (h : At T m c below) (hx : tb.exec = Jvm.exec) (hg : g.method = m) {x : Int64} {y : Int64} {v : Int64} {rest : List Value} (hd : decode c.code g.pc = .ok (.lrem, 1)) (hs : g.stack = .long y :: .long x :: rest) (hy : y ≠ 0) (hv : x - (x / y) * y = v)
    (hr : Steps tb e below (T.setTop { g with pc := g.pc + 1, stack := .long v :: rest }) target) : Steps tb e below (T.setTop g) target := by subst hv; exact XT.lrem h hx hg hd hs hy hr
theorem own_lcmp {tb : Tables} [Ours tb] {e : Env} {below : List Frame} {T target : State} {m : MethodId} {c : Code} {g : JFrame} (h : At T m c below) (hx : tb.exec = Jvm.exec) (hg : g.method = m) {x : Int64} {y : Int64} {v : Int32} {rest : List Value} (hd : decode c.code g.pc = .ok (.lcmp, 1)) (hs : g.stack = .long y :: .long x :: rest) (hv : XT.cmpL x y = v)
    (hr : Steps tb e below (T.setTop { g with pc := g.pc + 1, stack := .int v :: rest }) target) : Steps tb e below (T.setTop g) target := by subst hv; exact XT.lcmp h hx hg hd hs hr
theorem own_lneg {tb : Tables} [Ours tb] {e : Env} {below : List Frame} {T target : State} {m : MethodId} {c : Code} {g : JFrame} (h : At T m c below) (hx : tb.exec = Jvm.exec) (hg : g.method = m) {x : Int64} {v : Int64} {rest : List Value} (hd : decode c.code g.pc = .ok (.lneg, 1)) (hs : g.stack = .long x :: rest) (hv : -x = v)
    (hr : Steps tb e below (T.setTop { g with pc := g.pc + 1, stack := .long v :: rest }) target) : Steps tb e below (T.setTop g) target := by subst hv; exact XT.lneg h hx hg hd hs hr
theorem own_i2l {tb : Tables} [Ours tb] {e : Env} {below : List Frame} {T target : State} {m : MethodId} {c : Code} {g : JFrame} (h : At T m c below) (hx : tb.exec = Jvm.exec) (hg : g.method = m) {x : Int32} {v : Int64} {rest : List Value} (hd : decode c.code g.pc = .ok (.i2l, 1)) (hs : g.stack = .int x :: rest) (hv : x.toInt64 = v)
    (hr : Steps tb e below (T.setTop { g with pc := g.pc + 1, stack := .long v :: rest }) target) : Steps tb e below (T.setTop g) target := by subst hv; exact XT.i2l h hx hg hd hs hr
theorem own_l2i {tb : Tables} [Ours tb] {e : Env} {below : List Frame} {T target : State} {m : MethodId} {c : Code} {g : JFrame} (h : At T m c below) (hx : tb.exec = Jvm.exec) (hg : g.method = m) {x : Int64} {v : Int32} {rest : List Value} (hd : decode c.code g.pc = .ok (.l2i, 1)) (hs : g.stack = .long x :: rest) (hv : x.toInt32 = v)
    (hr : Steps tb e below (T.setTop { g with pc := g.pc + 1, stack := .int v :: rest }) target) : Steps tb e below (T.setTop g) target := by subst hv; exact XT.l2i h hx hg hd hs hr
theorem own_ineg {tb : Tables} [Ours tb] {e : Env} {below : List Frame} {T target : State} {m : MethodId} {c : Code} {g : JFrame} (h : At T m c below) (hx : tb.exec = Jvm.exec) (hg : g.method = m) {x : Int32} {v : Int32} {rest : List Value} (hd : decode c.code g.pc = .ok (.ineg, 1)) (hs : g.stack = .int x :: rest) (hv : -x = v)
    (hr : Steps tb e below (T.setTop { g with pc := g.pc + 1, stack := .int v :: rest }) target) : Steps tb e below (T.setTop g) target := by subst hv; exact XS.ineg h hx hg hd hs hr
section OwnFP2
open Jvm.FP.Core
/-- what a condition asks of two whole numbers -/
def own_rel : ClassFile.Cond → Int → Int → Bool
  | .eq, i, j => decide (i = j)
  | .ne, i, j => decide (i ≠ j)
  | .lt, i, j => decide (i < j)
  | .ge, i, j => decide (j ≤ i)
  | .gt, i, j => decide (j < i)
  | .le, i, j => decide (i ≤ j)
theorem own_br2 (cd : ClassFile.Cond) (x y : Int32) : if_icmp.holds cd x y = own_rel cd x.toInt y.toInt := by
  cases cd
  · show (x == y) = decide (x.toInt = y.toInt)
    by_cases h : x = y
    · subst h; simp
    · rw [beq_eq_false_iff_ne.mpr h, decide_eq_false (fun q => h (Int32.toInt_inj.mp q))]
  · show (x != y) = decide (x.toInt ≠ y.toInt)
    by_cases h : x = y
    · subst h; simp
    · rw [bne_iff_ne.mpr h]; exact (decide_eq_true (p := x.toInt ≠ y.toInt) (fun q => h (Int32.toInt_inj.mp q))).symm
  · exact decide_eq_decide.mpr Int32.lt_iff_toInt_lt
  · exact decide_eq_decide.mpr Int32.le_iff_toInt_le
  · exact decide_eq_decide.mpr Int32.lt_iff_toInt_lt
  · exact decide_eq_decide.mpr Int32.le_iff_toInt_le
theorem own_br0 (cd : ClassFile.Cond) (x : Int32) : ifCond.holds cd x = own_rel cd x.toInt 0 := by
  have h : ifCond.holds cd x = if_icmp.holds cd x 0 := by cases cd <;> rfl
  rw [h, own_br2]; rfl
theorem own_rel_iff (cd : ClassFile.Cond) {i j i' j' : Int} (h1 : i < j ↔ i' < j') (h2 : i = j ↔ i' = j') : own_rel cd i j = own_rel cd i' j' := by
  cases cd
  · exact decide_eq_decide.mpr h2
  · exact decide_eq_decide.mpr (not_congr h2)
  · exact decide_eq_decide.mpr h1
  · exact decide_eq_decide.mpr (by omega)
  · exact decide_eq_decide.mpr (by omega)
  · exact decide_eq_decide.mpr (by omega)
theorem own_sgn3 (cd : ClassFile.Cond) {z : Int32} {i j : Int} (h : (i < j ∧ z = -1) ∨ (i = j ∧ z = 0) ∨ (j < i ∧ z = 1)) : ifCond.holds cd z = own_rel cd i j := by
  rw [own_br0]
  refine own_rel_iff cd ?_ ?_ <;> rcases h with ⟨h1, rfl⟩ | ⟨h1, rfl⟩ | ⟨h1, rfl⟩
  · have e1 : (-1 : Int32).toInt = -1 := rfl
    omega
  · have e1 : (0 : Int32).toInt = 0 := rfl
    omega
  · have e1 : (1 : Int32).toInt = 1 := rfl
    omega
  · have e1 : (-1 : Int32).toInt = -1 := rfl
    omega
  · have e1 : (0 : Int32).toInt = 0 := rfl
    omega
  · have e1 : (1 : Int32).toInt = 1 := rfl
    omega
theorem own_brL (cd : ClassFile.Cond) (x y : Int64) : ifCond.holds cd (XT.cmpL x y) = own_rel cd x.toInt y.toInt := by
  refine own_sgn3 cd ?_
  have h := @Int64.toInt_inj x y
  by_cases h1 : y < x
  · refine Or.inr (Or.inr ⟨Int64.lt_iff_toInt_lt.mp h1, ?_⟩)
    show (if y < x then (1 : Int32) else if x = y then 0 else -1) = 1
    rw [if_pos h1]
  · by_cases h2 : x = y
    · refine Or.inr (Or.inl ⟨h.mpr h2, ?_⟩)
      show (if y < x then (1 : Int32) else if x = y then 0 else -1) = 0
      rw [if_neg h1, if_pos h2]
    · refine Or.inl ⟨?_, ?_⟩
      · rw [Int64.lt_iff_toInt_lt] at h1
        have : x.toInt ≠ y.toInt := fun q => h2 (h.mp q)
        omega
      · show (if y < x then (1 : Int32) else if x = y then 0 else -1) = -1
        rw [if_neg h1, if_neg h2]
theorem own_brD (cd : ClassFile.Cond) {k i j : Int} {a b : UInt64} (ha : OwnDS k i a) (hb : OwnDS k j b) (o : CmpOp) : ifCond.holds cd (cmpValue (FP.dcmp a b) o) = own_rel cd i j := by
  have hc : FP.dcmp a b = some (compare i j) := own_ds_cmp ha hb
  rw [hc]
  refine own_sgn3 cd ?_
  rcases Int.lt_trichotomy i j with q | q | q
  · refine Or.inl ⟨q, ?_⟩
    rw [show compare i j = .lt from Int.compare_eq_lt.mpr q]; rfl
  · refine Or.inr (Or.inl ⟨q, ?_⟩)
    rw [show compare i j = .eq from Int.compare_eq_eq.mpr q]; rfl
  · refine Or.inr (Or.inr ⟨q, ?_⟩)
    rw [show compare i j = .gt from Int.compare_eq_gt.mpr q]; rfl
theorem own_nn {k i : Int} {a : UInt64} (h : OwnDS k i a) : Jvm.Free.Fl.NoNaN64 a := Jvm.Free.Fl.val64_no.mpr (own_ds_ne_nan h)
theorem own_i2d (x : Int32) : OwnDS 0 x.toInt (FP.i2d x) := own_ds_int (i2d_int x)
theorem own_l2d {x : Int64} {i : Int} (h : x.toInt = i) (hb : i.natAbs ≤ 9007199254740992) : OwnDS 0 i (FP.l2d x) := by
  subst h; exact own_ds_int (l2d_int (by omega))
theorem own_i32 (x : Int32) : -2147483648 ≤ x.toInt ∧ x.toInt ≤ 2147483648 := by
  have h1 := x.toInt_lt
  have h2 := x.le_toInt
  omega
theorem own_mul_bd {i j A B : Int} (h1 : -A ≤ i ∧ i ≤ A) (h2 : -B ≤ j ∧ j ≤ B) : -(A * B) ≤ i * j ∧ i * j ≤ A * B := by
  have ha : i.natAbs ≤ A.toNat := by omega
  have hb : j.natAbs ≤ B.toNat := by omega
  have h := Nat.mul_le_mul ha hb
  rw [← Int.natAbs_mul] at h
  have e : ((A.toNat * B.toNat : Nat) : Int) = A * B := by
    rw [Int.natCast_mul, Int.toNat_of_nonneg (by omega), Int.toNat_of_nonneg (by omega)]
  generalize A.toNat * B.toNat = n at h e
  omega
theorem own_d2l {i : Int} {a : UInt64} (h : OwnDS 0 i a) (hb : i.natAbs ≤ 9007199254740992) : (FP.d2l a).toInt = i := by
  have e : (Int64.ofInt i).toInt = i := by rw [Int64.toInt_ofInt]; exact Jvm.Kit.bmod64 (by omega) (by omega)
  have q : FP.d2l a = Int64.ofInt i := d2l_int (a := Int64.ofInt i) (b := a) (by rw [e]; exact own_int_ds h)
  rw [q, e]
theorem own_ds_neg {k i : Int} {a : UInt64} (h : OwnDS k i a) : OwnDS k (-i) (FP.dneg a) := by
  show OwnSc _ _ _
  rw [Jvm.FP.val64_dneg]; exact own_sc_neg h
theorem own_fin {k i : Int} {a : UInt64} (h : OwnDS k i a) : DFin a := by
  obtain ⟨s, c, q, hv, -⟩ := own_sc_fin h
  exact ⟨s, c, q, hv⟩
theorem own_isfin {a : UInt64} (h : DFin a) : ifCond.holds .gt (cmpValue (FP.dcmp (a &&& 0x7fffffffffffffff) 9218868437227405311) .g) = false := by
  have hn : dIsNaN a = false := (notNaN_iff a).mpr (by obtain ⟨s, c, q, hv⟩ := h; rw [hv]; exact Datum.noConfusion)
  have q : FP.dcmp (a &&& 0x7fffffffffffffff) 9218868437227405311 = some .lt ∨ FP.dcmp (a &&& 0x7fffffffffffffff) 9218868437227405311 = some .eq := (le_max hn).mpr h
  rcases q with q | q <;> rw [q] <;> rfl
theorem own_bd_add {i j A B C : Int} (h1 : -A ≤ i ∧ i ≤ A) (h2 : -B ≤ j ∧ j ≤ B) (hC : A + B = C) : -C ≤ i + j ∧ i + j ≤ C := by omega
theorem own_bd_sub {i j A B C : Int} (h1 : -A ≤ i ∧ i ≤ A) (h2 : -B ≤ j ∧ j ≤ B) (hC : A + B = C) : -C ≤ i - j ∧ i - j ≤ C := by omega
theorem own_bd_mul {i j A B C : Int} (h1 : -A ≤ i ∧ i ≤ A) (h2 : -B ≤ j ∧ j ≤ B) (hC : A * B = C) : -C ≤ i * j ∧ i * j ≤ C := hC ▸ own_mul_bd h1 h2
theorem own_bd_neg {i A : Int} (h1 : -A ≤ i ∧ i ≤ A) : -A ≤ -i ∧ -i ≤ A := by omega
theorem own_bd_nat {i C : Int} {n : Nat} (h : -C ≤ i ∧ i ≤ C) (hC : C < ((2 ^ n : Nat) : Int)) : i.natAbs < 2 ^ n := by
  generalize 2 ^ n = N at hC
  omega
theorem own_bd_le {i A C : Int} (h : -A ≤ i ∧ i ≤ A) (hC : A ≤ C) : -C ≤ i ∧ i ≤ C := by omega
theorem own_lf_add {x y v : Int64} {i j A B k : Int} (hv : x + y = v) (Fx : x.toInt = i) (Fy : y.toInt = j) (b1 : -A ≤ i ∧ i ≤ A) (b2 : -B ≤ j ∧ j ≤ B) (hC : A + B < 9223372036854775808) (hk : k = i + j) : v.toInt = k := by
  subst hv hk; rw [Jvm.Kit.i64_add (by rw [Fx, Fy]; omega) (by rw [Fx, Fy]; omega), Fx, Fy]
theorem own_lf_sub {x y v : Int64} {i j A B k : Int} (hv : x - y = v) (Fx : x.toInt = i) (Fy : y.toInt = j) (b1 : -A ≤ i ∧ i ≤ A) (b2 : -B ≤ j ∧ j ≤ B) (hC : A + B < 9223372036854775808) (hk : k = i - j) : v.toInt = k := by
  subst hv hk; rw [Jvm.Kit.i64_sub (by rw [Fx, Fy]; omega) (by rw [Fx, Fy]; omega), Fx, Fy]
theorem own_lf_mul {x y v : Int64} {i j A B k : Int} (hv : x * y = v) (Fx : x.toInt = i) (Fy : y.toInt = j) (b1 : -A ≤ i ∧ i ≤ A) (b2 : -B ≤ j ∧ j ≤ B) (hC : A * B < 9223372036854775808) (hk : k = i * j) : v.toInt = k := by
  have q := own_mul_bd b1 b2
  subst hv hk; rw [Jvm.Kit.i64_mul (by rw [Fx, Fy]; omega) (by rw [Fx, Fy]; omega), Fx, Fy]
theorem own_lf_neg {x v : Int64} {i A k : Int} (hv : -x = v) (Fx : x.toInt = i) (b1 : -A ≤ i ∧ i ≤ A) (hC : A < 9223372036854775808) (hk : k = -i) : v.toInt = k := by
  subst hv hk; rw [Jvm.Kit.i64_neg (by omega), Fx]
theorem own_l2db {x : Int64} {i A : Int} (h : x.toInt = i) (b1 : -A ≤ i ∧ i ≤ A) (hC : A ≤ 9007199254740992) : OwnDS 0 i (FP.l2d x) := own_l2d h (by omega)
theorem own_d2lb {i A : Int} {a : UInt64} (h : OwnDS 0 i a) (b1 : -A ≤ i ∧ i ≤ A) (hC : A ≤ 9007199254740992) : (FP.d2l a).toInt = i := own_d2l h (by omega)
end OwnFP2
def OwnCO (Z : State) (h : Heap) (o : Addr) (wd : UInt64) (ex st : Int32) : Prop := Exa Z h o "com/example/bellmin/bellmin/check/CheckOptions" ∧ Fld Z h o "com/example/bellmin/bellmin/check/CheckOptions" "width" "D" (.double wd) ∧ Fld Z h o "com/example/bellmin/bellmin/check/CheckOptions" "exact" "Z" (.int ex) ∧ Fld Z h o "com/example/bellmin/bellmin/check/CheckOptions" "strategies" "Z" (.int st) ∧ Fld Z h o "com/example/bellmin/bellmin/check/CheckOptions" "applied" "Ljava/nio/file/Path;" .null
theorem OwnCO.kp {Z : State} {h h' : Heap} {o : Addr} {wd : UInt64} {ex st : Int32} {ws : List Addr} (F : OwnCO Z h o wd ex st) (K : Keep h h' ws) (q : o ∉ ws) : OwnCO Z h' o wd ex st := ⟨F.1.keep K, F.2.1.keep K q, F.2.2.1.keep K q, F.2.2.2.1.keep K q, F.2.2.2.2.keep K q⟩
theorem OwnCO.ex {Z : State} {h h' : Heap} {o : Addr} {wd : UInt64} {ex st : Int32} (F : OwnCO Z h o wd ex st) (E : Ext h h') : OwnCO Z h' o wd ex st := ⟨F.1.ext E, F.2.1.ext E, F.2.2.1.ext E, F.2.2.2.1.ext E, F.2.2.2.2.ext E⟩
theorem own_nz {x : Int32} (h : x = 0 ∨ x = 1) : narrow .boolean (.int x) = .int x := by rcases h with rfl | rfl <;> rfl
theorem own_fz {x : Int32} (h : x = 0 ∨ x = 1) : fits .boolean (.int x) = true := by rcases h with rfl | rfl <;> rfl
theorem d2_0 : decode prog_5_method_2_code 0 = .ok (.aload_n 0, 1) := by decide +kernel
theorem d2_1 : decode prog_5_method_2_code 1 = .ok (.invokespecial 11, 3) := by decide +kernel
theorem d2_4 : decode prog_5_method_2_code 4 = .ok (.aload_n 0, 1) := by decide +kernel
theorem d2_5 : decode prog_5_method_2_code 5 = .ok (.dload_n 1, 1) := by decide +kernel
theorem d2_6 : decode prog_5_method_2_code 6 = .ok (.putfield 16, 3) := by decide +kernel
theorem d2_9 : decode prog_5_method_2_code 9 = .ok (.aload_n 0, 1) := by decide +kernel
theorem d2_10 : decode prog_5_method_2_code 10 = .ok (.iload_n 3, 1) := by decide +kernel
theorem d2_11 : decode prog_5_method_2_code 11 = .ok (.putfield 20, 3) := by decide +kernel
theorem d2_14 : decode prog_5_method_2_code 14 = .ok (.aload_n 0, 1) := by decide +kernel
theorem d2_15 : decode prog_5_method_2_code 15 = .ok (.iload 4, 2) := by decide +kernel
theorem d2_17 : decode prog_5_method_2_code 17 = .ok (.putfield 24, 3) := by decide +kernel
theorem d2_20 : decode prog_5_method_2_code 20 = .ok (.aload_n 0, 1) := by decide +kernel
theorem d2_21 : decode prog_5_method_2_code 21 = .ok (.aload 5, 2) := by decide +kernel
theorem d2_23 : decode prog_5_method_2_code 23 = .ok (.putfield 27, 3) := by decide +kernel
theorem d2_26 : decode prog_5_method_2_code 26 = .ok (.return_, 1) := by decide +kernel
theorem pn_rmI4 : plainName "com/example/bellmin/bellmin/check/CheckOptions" = true := by first | (simp [plainName, overriddenIn]; done) | decide +kernel
theorem pd_rmI4 : parseMethodDescriptor "(DZZLjava/nio/file/Path;)V" = some ⟨[.double, .boolean, .boolean, (.object "java/nio/file/Path")], none⟩ := by decide +kernel
theorem ef_rmI4 (m : MethodId) (o : Addr) (wd : UInt64) (ex st : Int32) : entryFrame m #[(.ref o), (.double wd), (.int ex), (.int st), .null] 6 = (mkF m 0 #[sR o, sD wd, uS, sI ex, sI st, sN] []) := by first | (simp [entryFrame, mkF, argsToLocals, Value.category, maxLocals]; done) | rfl
def Q_rmI4 (Z : State) (o : Addr) (wd : UInt64) (ex st : Int32) (h0 : Heap) (n0 : Nat) (v : Option Value) (h : Heap) (L : List Loc) : Prop := v = none ∧ Fr n0 L ∧ Keep h0 h [o] ∧ OwnCO Z h o wd ex st
set_option maxRecDepth 65536 in
set_option maxHeartbeats 40000000 in
theorem rmI4 (l : Launch) (Z : State) (a0 : Array Value) (hw : ∀ d ∈ tables_1, d.before a0 Z = true) (ws : List Jvm.Cond) (o : Addr) (wd : UInt64) (ex st : Int32) (h0 : Heap) (n0 : Nat) (Z0 : n0 ≤ h0.size) (E : Exa Z h0 o "com/example/bellmin/bellmin/check/CheckOptions") (F0 : Fld Z h0 o "com/example/bellmin/bellmin/check/CheckOptions" "width" "D" (.double 0)) (F1 : Fld Z h0 o "com/example/bellmin/bellmin/check/CheckOptions" "exact" "Z" (.int 0)) (F2 : Fld Z h0 o "com/example/bellmin/bellmin/check/CheckOptions" "strategies" "Z" (.int 0)) (F3 : Fld Z h0 o "com/example/bellmin/bellmin/check/CheckOptions" "applied" "Ljava/nio/file/Path;" .null) (g : n0 ≤ o) (bx : ex = 0 ∨ ex = 1) (bs : st = 0 ∨ st = 1) :
    MetFree l (⟨"com/example/bellmin/bellmin/check/CheckOptions", "<init>", "(DZZLjava/nio/file/Path;)V"⟩ : MethodName) (head1 (Jvm.Cond.code (⟨"com/example/bellmin/bellmin/check/CheckOptions", "<init>", "(DZZLjava/nio/file/Path;)V"⟩ : MethodName) prog_5_method_2_code 6 none :: ws) ({ frames := 1, cells := 0, slots := 0, locals := 12 } : Room)) (fun a U => a = #[(.ref o), (.double wd), (.int ex), (.int st), .null] ∧ Z.Warmed39 U.vm ∧ U.heap = h0) (fun _ _ _ _ _ => True) (fun _ U oO U' => ∃ v L, oO = .returned v ∧ Q_rmI4 Z o wd ex st h0 n0 v U'.heap L ∧ FrameEnd U oO U' L ({ frames := 1, cells := 0, slots := 0, locals := 12 } : Room).cells ({ frames := 1, cells := 0, slots := 0, locals := 12 } : Room).slots) := by
  refine MetFree.of_bodySF (plainFor_of_name pn_rmI4) hisR ?_
  intro p e s m args below meth c s₁ Bd hml0 hP hK
  obtain ⟨rfl, hZ, hh⟩ := hP
  have hx := Bd.exec
  have hby := Bd.bytes
  have hml : c.maxLocals = 6 := hml0
  have hown : s.vm.findClass "com/example/bellmin/bellmin/check/CheckOptions" = some m.cls := findClass_of_methodNamed Bd.named
  have hnm := (name_of_methodNamed Bd.named Bd.method).1
  have hk := Bd.notSynchronized
  have hrt := Bd.returns
  have X0 : Stand p l e ({ frames := 1, cells := 0, slots := 0, locals := 12 } : Room) s m #[(.ref o), (.double wd), (.int ex), (.int st), .null] below meth c s₁ [] 0 0 := Stand.of_body Bd
  have e0 : s₁.heap = h0 := by rw [← hh, Bd.state]; rfl
  have N0 := Fr.nil n0
  show OwnGo p.tables e below (OwnEnd s (Q_rmI4 Z o wd ex st h0 n0) ({ frames := 1, cells := 0, slots := 0, locals := 12 } : Room).cells ({ frames := 1, cells := 0, slots := 0, locals := 12 } : Room).slots) _
  refine OwnGo.pre (fun t k => castTop (ef_rmI4 m o wd ex st) k) ?_
  show OwnGo _ _ _ _ (s₁.setTop (mkF m 0 #[sR o, sD wd, uS, sI ex, sI st, sN] []))
  refine OwnGo.pre (fun t k => XS.aloadN X0.here hx rfl (hb hby d2_0) rfl rfl k) ?_
  show OwnGo _ _ _ _ (s₁.setTop (mkF m 1 #[sR o, sD wd, uS, sI ex, sI st, sN] [(.ref o)]))
  obtain ⟨T1, X1, e1, st1⟩ := initO X0 hx hZ hown (hw _ (List.mem_of_getElem? (i := 11) rfl)) (hw _ (List.mem_of_getElem? (i := 12) rfl)) (hw _ (List.mem_of_getElem? (i := 13) rfl)) e0 (g := (mkF m 1 #[sR o, sD wd, uS, sI ex, sI st, sN] [(.ref o)])) rfl (by rw [hml]; rfl) rfl (hb hby d2_1) (by decide) (W := 0) (by show 2 * 0 + _ ≤ _; exact Nat.le_of_eq rfl) (by decide)
  refine OwnGo.pre (fun t k => st1 t k) ?_
  show OwnGo _ _ _ _ (T1.setTop (mkF m 4 #[sR o, sD wd, uS, sI ex, sI st, sN] []))
  refine OwnGo.pre (fun t k => XS.aloadN X1.here hx rfl (hb hby d2_4) rfl rfl (XS.dloadN X1.here hx rfl (hb hby d2_5) rfl k)) ?_
  show OwnGo _ _ _ _ (T1.setTop (mkF m 6 #[sR o, sD wd, uS, sI ex, sI st, sN] [(.double wd), (.ref o)]))
  obtain ⟨T2, h2, X2, e2, W2, st2⟩ := putF X1 hx hZ hown (host := "") (Or.inl (hw _ (List.mem_of_getElem? (i := 14) rfl))) Via.refl e1 F0 E (Or.inr ⟨(hw _ (List.mem_of_getElem? (i := 15) rfl)), rfl, hnm⟩) (hw _ (List.mem_of_getElem? (i := 2) rfl)) (ty := .double) (by decide) rfl rfl (g := (mkF m 6 #[sR o, sD wd, uS, sI ex, sI st, sN] [(.double wd), (.ref o)])) rfl rfl (hb hby d2_6)
  have N2 := Fr.snoc X2 N0 g
  refine OwnGo.pre (fun t k => st2 t k) ?_
  show OwnGo _ _ _ _ (T2.setTop (mkF m 9 #[sR o, sD wd, uS, sI ex, sI st, sN] []))
  have F2_0 := (F0).same W2
  have F2_1 := (F1).other W2 (Or.inr (slot_ne (Or.inr (hw _ (List.mem_of_getElem? (i := 17) rfl))) (Or.inr (hw _ (List.mem_of_getElem? (i := 15) rfl))) (by decide) (t := .boolean) (by decide) (t' := .double) (by decide)))
  have F2_2 := (F2).other W2 (Or.inr (slot_ne (Or.inr (hw _ (List.mem_of_getElem? (i := 19) rfl))) (Or.inr (hw _ (List.mem_of_getElem? (i := 15) rfl))) (by decide) (t := .boolean) (by decide) (t' := .double) (by decide)))
  have F2_3 := (F3).other W2 (Or.inr (slot_ne (Or.inr (hw _ (List.mem_of_getElem? (i := 21) rfl))) (Or.inr (hw _ (List.mem_of_getElem? (i := 15) rfl))) (by decide) (t := (.object "java/nio/file/Path")) (by decide) (t' := .double) (by decide)))
  have E2 := (E).wr W2
  have P2 := (Keep.refl h0 [o]).wr W2 (Or.inl (List.mem_of_getElem? (i := 0) rfl))
  refine OwnGo.pre (fun t k => XS.aloadN X2.here hx rfl (hb hby d2_9) rfl rfl (XS.iloadN X2.here hx rfl (hb hby d2_10) rfl k)) ?_
  show OwnGo _ _ _ _ (T2.setTop (mkF m 11 #[sR o, sD wd, uS, sI ex, sI st, sN] [(.int ex), (.ref o)]))
  obtain ⟨T3, h3, X3, e3, W3, st3⟩ := putF X2 hx hZ hown (host := "") (Or.inl (hw _ (List.mem_of_getElem? (i := 16) rfl))) Via.refl e2 F2_1 E2 (Or.inr ⟨(hw _ (List.mem_of_getElem? (i := 17) rfl)), rfl, hnm⟩) (hw _ (List.mem_of_getElem? (i := 2) rfl)) (ty := .boolean) (by decide) (own_nz bx) (own_fz bx) (g := (mkF m 11 #[sR o, sD wd, uS, sI ex, sI st, sN] [(.int ex), (.ref o)])) rfl rfl (hb hby d2_11)
  have N3 := Fr.snoc X3 N2 g
  refine OwnGo.pre (fun t k => st3 t k) ?_
  show OwnGo _ _ _ _ (T3.setTop (mkF m 14 #[sR o, sD wd, uS, sI ex, sI st, sN] []))
  have F3_0 := (F2_0).other W3 (Or.inr (slot_ne (Or.inr (hw _ (List.mem_of_getElem? (i := 15) rfl))) (Or.inr (hw _ (List.mem_of_getElem? (i := 17) rfl))) (by decide) (t := .double) (by decide) (t' := .boolean) (by decide)))
  have F3_1 := (F2_1).same W3
  have F3_2 := (F2_2).other W3 (Or.inr (slot_ne (Or.inr (hw _ (List.mem_of_getElem? (i := 19) rfl))) (Or.inr (hw _ (List.mem_of_getElem? (i := 17) rfl))) (by decide) (t := .boolean) (by decide) (t' := .boolean) (by decide)))
  have F3_3 := (F2_3).other W3 (Or.inr (slot_ne (Or.inr (hw _ (List.mem_of_getElem? (i := 21) rfl))) (Or.inr (hw _ (List.mem_of_getElem? (i := 17) rfl))) (by decide) (t := (.object "java/nio/file/Path")) (by decide) (t' := .boolean) (by decide)))
  have E3 := (E2).wr W3
  have P3 := P2.wr W3 (Or.inl (List.mem_of_getElem? (i := 0) rfl))
  refine OwnGo.pre (fun t k => XS.aloadN X3.here hx rfl (hb hby d2_14) rfl rfl (XS.iload X3.here hx rfl (hb hby d2_15) rfl k)) ?_
  show OwnGo _ _ _ _ (T3.setTop (mkF m 17 #[sR o, sD wd, uS, sI ex, sI st, sN] [(.int st), (.ref o)]))
  obtain ⟨T4, h4, X4, e4, W4, st4⟩ := putF X3 hx hZ hown (host := "") (Or.inl (hw _ (List.mem_of_getElem? (i := 18) rfl))) Via.refl e3 F3_2 E3 (Or.inr ⟨(hw _ (List.mem_of_getElem? (i := 19) rfl)), rfl, hnm⟩) (hw _ (List.mem_of_getElem? (i := 2) rfl)) (ty := .boolean) (by decide) (own_nz bs) (own_fz bs) (g := (mkF m 17 #[sR o, sD wd, uS, sI ex, sI st, sN] [(.int st), (.ref o)])) rfl rfl (hb hby d2_17)
  have N4 := Fr.snoc X4 N3 g
  refine OwnGo.pre (fun t k => st4 t k) ?_
  show OwnGo _ _ _ _ (T4.setTop (mkF m 20 #[sR o, sD wd, uS, sI ex, sI st, sN] []))
  have F4_0 := (F3_0).other W4 (Or.inr (slot_ne (Or.inr (hw _ (List.mem_of_getElem? (i := 15) rfl))) (Or.inr (hw _ (List.mem_of_getElem? (i := 19) rfl))) (by decide) (t := .double) (by decide) (t' := .boolean) (by decide)))
  have F4_1 := (F3_1).other W4 (Or.inr (slot_ne (Or.inr (hw _ (List.mem_of_getElem? (i := 17) rfl))) (Or.inr (hw _ (List.mem_of_getElem? (i := 19) rfl))) (by decide) (t := .boolean) (by decide) (t' := .boolean) (by decide)))
  have F4_2 := (F3_2).same W4
  have F4_3 := (F3_3).other W4 (Or.inr (slot_ne (Or.inr (hw _ (List.mem_of_getElem? (i := 21) rfl))) (Or.inr (hw _ (List.mem_of_getElem? (i := 19) rfl))) (by decide) (t := (.object "java/nio/file/Path")) (by decide) (t' := .boolean) (by decide)))
  have E4 := (E3).wr W4
  have P4 := P3.wr W4 (Or.inl (List.mem_of_getElem? (i := 0) rfl))
  refine OwnGo.pre (fun t k => XS.aloadN X4.here hx rfl (hb hby d2_20) rfl rfl (XS.aload X4.here hx rfl (hb hby d2_21) rfl rfl k)) ?_
  show OwnGo _ _ _ _ (T4.setTop (mkF m 23 #[sR o, sD wd, uS, sI ex, sI st, sN] [.null, (.ref o)]))
  obtain ⟨T5, h5, X5, e5, W5, st5⟩ := putF X4 hx hZ hown (host := "") (Or.inl (hw _ (List.mem_of_getElem? (i := 20) rfl))) Via.refl e4 F4_3 E4 (Or.inr ⟨(hw _ (List.mem_of_getElem? (i := 21) rfl)), rfl, hnm⟩) (hw _ (List.mem_of_getElem? (i := 2) rfl)) (ty := (.object "java/nio/file/Path")) (by decide) rfl rfl (g := (mkF m 23 #[sR o, sD wd, uS, sI ex, sI st, sN] [.null, (.ref o)])) rfl rfl (hb hby d2_23)
  have N5 := Fr.snoc X5 N4 g
  refine OwnGo.pre (fun t k => st5 t k) ?_
  show OwnGo _ _ _ _ (T5.setTop (mkF m 26 #[sR o, sD wd, uS, sI ex, sI st, sN] []))
  have F5_0 := (F4_0).other W5 (Or.inr (slot_ne (Or.inr (hw _ (List.mem_of_getElem? (i := 15) rfl))) (Or.inr (hw _ (List.mem_of_getElem? (i := 21) rfl))) (by decide) (t := .double) (by decide) (t' := (.object "java/nio/file/Path")) (by decide)))
  have F5_1 := (F4_1).other W5 (Or.inr (slot_ne (Or.inr (hw _ (List.mem_of_getElem? (i := 17) rfl))) (Or.inr (hw _ (List.mem_of_getElem? (i := 21) rfl))) (by decide) (t := .boolean) (by decide) (t' := (.object "java/nio/file/Path")) (by decide)))
  have F5_2 := (F4_2).other W5 (Or.inr (slot_ne (Or.inr (hw _ (List.mem_of_getElem? (i := 19) rfl))) (Or.inr (hw _ (List.mem_of_getElem? (i := 21) rfl))) (by decide) (t := .boolean) (by decide) (t' := (.object "java/nio/file/Path")) (by decide)))
  have F5_3 := (F4_3).same W5
  have E5 := (E4).wr W5
  have P5 := P4.wr W5 (Or.inl (List.mem_of_getElem? (i := 0) rfl))
  rw [← e5] at P5 E5 F5_0 F5_1 F5_2 F5_3
  exact own_ret0 X5 hx hk hrt (hb hby d2_26) ⟨rfl, N5, P5, E5, F5_0, F5_1, F5_2, F5_3⟩ (by decide) (by decide)
theorem d1_0 : decode prog_5_method_1_code 0 = .ok (.aload_n 0, 1) := by decide +kernel
theorem d1_1 : decode prog_5_method_1_code 1 = .ok (.ldc2_w 3, 3) := by decide +kernel
theorem d1_4 : decode prog_5_method_1_code 4 = .ok (.iconst 0, 1) := by decide +kernel
theorem d1_5 : decode prog_5_method_1_code 5 = .ok (.iconst 0, 1) := by decide +kernel
theorem d1_6 : decode prog_5_method_1_code 6 = .ok (.aconst_null, 1) := by decide +kernel
theorem d1_7 : decode prog_5_method_1_code 7 = .ok (.invokespecial 5, 3) := by decide +kernel
theorem d1_10 : decode prog_5_method_1_code 10 = .ok (.return_, 1) := by decide +kernel
theorem pn_rmI0 : plainName "com/example/bellmin/bellmin/check/CheckOptions" = true := by first | (simp [plainName, overriddenIn]; done) | decide +kernel
theorem pd_rmI0 : parseMethodDescriptor "()V" = some ⟨[], none⟩ := by decide +kernel
theorem ef_rmI0 (m : MethodId) (o : Addr) : entryFrame m #[(.ref o)] 1 = (mkF m 0 #[sR o] []) := by first | (simp [entryFrame, mkF, argsToLocals, Value.category, maxLocals]; done) | rfl
def Q_rmI0 (Z : State) (o : Addr) (h0 : Heap) (n0 : Nat) (v : Option Value) (h : Heap) (L : List Loc) : Prop := v = none ∧ Fr n0 L ∧ Keep h0 h [o] ∧ OwnCO Z h o 4517329193108106637 0 0
set_option maxRecDepth 65536 in
set_option maxHeartbeats 40000000 in
theorem rmI0 (l : Launch) (Z : State) (a0 : Array Value) (hw : ∀ d ∈ tables_1, d.before a0 Z = true) (ws : List Jvm.Cond) (o : Addr) (h0 : Heap) (n0 : Nat) (Z0 : n0 ≤ h0.size) (E : Exa Z h0 o "com/example/bellmin/bellmin/check/CheckOptions") (F0 : Fld Z h0 o "com/example/bellmin/bellmin/check/CheckOptions" "width" "D" (.double 0)) (F1 : Fld Z h0 o "com/example/bellmin/bellmin/check/CheckOptions" "exact" "Z" (.int 0)) (F2 : Fld Z h0 o "com/example/bellmin/bellmin/check/CheckOptions" "strategies" "Z" (.int 0)) (F3 : Fld Z h0 o "com/example/bellmin/bellmin/check/CheckOptions" "applied" "Ljava/nio/file/Path;" .null) (g : n0 ≤ o) :
    MetFree l (⟨"com/example/bellmin/bellmin/check/CheckOptions", "<init>", "()V"⟩ : MethodName) (head1 (Jvm.Cond.code (⟨"com/example/bellmin/bellmin/check/CheckOptions", "<init>", "()V"⟩ : MethodName) prog_5_method_1_code 1 none :: ws) ({ frames := 2, cells := 0, slots := 0, locals := 29 } : Room)) (fun a U => a = #[(.ref o)] ∧ Z.Warmed39 U.vm ∧ U.heap = h0) (fun _ _ _ _ _ => True) (fun _ U oO U' => ∃ v L, oO = .returned v ∧ Q_rmI0 Z o h0 n0 v U'.heap L ∧ FrameEnd U oO U' L ({ frames := 2, cells := 0, slots := 0, locals := 29 } : Room).cells ({ frames := 2, cells := 0, slots := 0, locals := 29 } : Room).slots) := by
  refine MetFree.of_bodySF (plainFor_of_name pn_rmI0) hisR ?_
  intro p e s m args below meth c s₁ Bd hml0 hP hK
  obtain ⟨rfl, hZ, hh⟩ := hP
  have hx := Bd.exec
  have hby := Bd.bytes
  have hml : c.maxLocals = 1 := hml0
  have hown : s.vm.findClass "com/example/bellmin/bellmin/check/CheckOptions" = some m.cls := findClass_of_methodNamed Bd.named
  have hnm := (name_of_methodNamed Bd.named Bd.method).1
  have hk := Bd.notSynchronized
  have hrt := Bd.returns
  have X0 : Stand p l e ({ frames := 2, cells := 0, slots := 0, locals := 29 } : Room) s m #[(.ref o)] below meth c s₁ [] 0 0 := Stand.of_body Bd
  have e0 : s₁.heap = h0 := by rw [← hh, Bd.state]; rfl
  have N0 := Fr.nil n0
  show OwnGo p.tables e below (OwnEnd s (Q_rmI0 Z o h0 n0) ({ frames := 2, cells := 0, slots := 0, locals := 29 } : Room).cells ({ frames := 2, cells := 0, slots := 0, locals := 29 } : Room).slots) _
  refine OwnGo.pre (fun t k => castTop (ef_rmI0 m o) k) ?_
  show OwnGo _ _ _ _ (s₁.setTop (mkF m 0 #[sR o] []))
  refine OwnGo.pre (fun t k => XS.aloadN X0.here hx rfl (hb hby d1_0) rfl rfl (own_ldcD X0 hx hown (mvT hZ (hw _ (List.mem_of_getElem? (i := 7) rfl))) rfl (hb hby d1_1) (XS.iconst X0.here hx rfl (hb hby d1_4) (XS.iconst X0.here hx rfl (hb hby d1_5) (XS.aconstNull X0.here hx rfl (hb hby d1_6) k))))) ?_
  show OwnGo _ _ _ _ (s₁.setTop (mkF m 7 #[sR o] [.null, (.int (0 : Int32)), (.int (0 : Int32)), (.double (4517329193108106637 : UInt64)), (.ref o)]))
  obtain ⟨_, _, ⟨T6, L6, k6, n6⟩, -, X6, ⟨Lc6, hQ6, l6, y6, z6⟩, st6⟩ := X0.specialBack hx (y := (⟨"com/example/bellmin/bellmin/check/CheckOptions", "<init>", "(DZZLjava/nio/file/Path;)V"⟩ : MethodName)) rfl hown (mvT hZ (hw _ (List.mem_of_getElem? (i := 8) rfl))) (mvT hZ (hw _ (List.mem_of_getElem? (i := 9) rfl))) (mvT hZ (hw _ (List.mem_of_getElem? (i := 10) rfl))) (by decide) (backOf (W := 0) (rmI4 l Z a0 hw [] o 4517329193108106637 0 0 h0 n0 Z0 E F0 F1 F2 F3 g (Or.inl rfl) (Or.inl rfl)) hZ (hw _ (List.mem_of_getElem? (i := 10) rfl)) (hw _ (List.mem_of_getElem? (i := 3) rfl)) (by decide) (by decide)) (g := (mkF m 7 #[sR o] [.null, (.int (0 : Int32)), (.int (0 : Int32)), (.double (4517329193108106637 : UInt64)), (.ref o)])) rfl (by rw [hml]; rfl) (Steps.refl _) (a := o) (argsL := [(.double (4517329193108106637 : UInt64)), (.int (0 : Int32)), (.int (0 : Int32)), .null]) (rest := []) (lenOf pd_rmI4 rfl) rfl (by show 2 * 0 + _ ≤ _; exact Nat.le_of_eq rfl) (hb hby d1_7) (fun _ _ => ⟨rfl, e0, (by decide : 0 + 0 ≤ _), (by decide : 0 + 0 ≤ _)⟩)
  dsimp only [Pt.U, Pt.locs, Pt.cells, Pt.slots] at X6 l6 y6 z6 st6 hQ6
  subst l6 y6 z6
  obtain ⟨rfl, N6, K6, O6⟩ := hQ6
  refine OwnGo.pre (fun t k => st6.trans k) ?_
  show OwnGo _ _ _ _ (T6.setTop (mkF m 10 #[sR o] []))
  exact own_ret0 X6 hx hk hrt (hb hby d1_10) ⟨rfl, Fr.app N0 N6, K6, O6⟩ (by decide) (by decide)
theorem d4_0 : decode prog_5_method_4_code 0 = .ok (.new 6, 3) := by decide +kernel
theorem d4_3 : decode prog_5_method_4_code 3 = .ok (.dup, 1) := by decide +kernel
theorem d4_4 : decode prog_5_method_4_code 4 = .ok (.aload_n 0, 1) := by decide +kernel
theorem d4_5 : decode prog_5_method_4_code 5 = .ok (.getfield 16, 3) := by decide +kernel
theorem d4_8 : decode prog_5_method_4_code 8 = .ok (.iconst 1, 1) := by decide +kernel
theorem d4_9 : decode prog_5_method_4_code 9 = .ok (.aload_n 0, 1) := by decide +kernel
theorem d4_10 : decode prog_5_method_4_code 10 = .ok (.getfield 24, 3) := by decide +kernel
theorem d4_13 : decode prog_5_method_4_code 13 = .ok (.aload_n 0, 1) := by decide +kernel
theorem d4_14 : decode prog_5_method_4_code 14 = .ok (.getfield 27, 3) := by decide +kernel
theorem d4_17 : decode prog_5_method_4_code 17 = .ok (.invokespecial 5, 3) := by decide +kernel
theorem d4_20 : decode prog_5_method_4_code 20 = .ok (.areturn, 1) := by decide +kernel
theorem pn_rmWE : plainName "com/example/bellmin/bellmin/check/CheckOptions" = true := by first | (simp [plainName, overriddenIn]; done) | decide +kernel
theorem pd_rmWE : parseMethodDescriptor "()Lcom/example/bellmin/bellmin/check/CheckOptions;" = some ⟨[], (some (.object "com/example/bellmin/bellmin/check/CheckOptions"))⟩ := by decide +kernel
theorem ef_rmWE (m : MethodId) (b : Addr) (wd : UInt64) (ex st : Int32) : entryFrame m #[(.ref b)] 1 = (mkF m 0 #[sR b] []) := by first | (simp [entryFrame, mkF, argsToLocals, Value.category, maxLocals]; done) | rfl
def Q_rmWE (Z : State) (b : Addr) (wd : UInt64) (ex st : Int32) (h0 : Heap) (n0 : Nat) (v : Option Value) (h : Heap) (L : List Loc) : Prop := ∃ o, v = some (.ref o) ∧ n0 ≤ o ∧ Fr n0 L ∧ Keep h0 h [] ∧ OwnCO Z h o wd 1 st
set_option maxRecDepth 65536 in
set_option maxHeartbeats 40000000 in
theorem rmWE (l : Launch) (Z : State) (a0 : Array Value) (hw : ∀ d ∈ tables_1, d.before a0 Z = true) (ws : List Jvm.Cond) (b : Addr) (wd : UInt64) (ex st : Int32) (h0 : Heap) (n0 : Nat) (Z0 : n0 ≤ h0.size) (O : OwnCO Z h0 b wd ex st) (bx : ex = 0 ∨ ex = 1) (bs : st = 0 ∨ st = 1) :
    MetFree l (⟨"com/example/bellmin/bellmin/check/CheckOptions", "withExact", "()Lcom/example/bellmin/bellmin/check/CheckOptions;"⟩ : MethodName) (head1 (Jvm.Cond.code (⟨"com/example/bellmin/bellmin/check/CheckOptions", "withExact", "()Lcom/example/bellmin/bellmin/check/CheckOptions;"⟩ : MethodName) prog_5_method_4_code 1 (some (.object "com/example/bellmin/bellmin/check/CheckOptions")) :: ws) ({ frames := 2, cells := 1, slots := 4, locals := 31 } : Room)) (fun a U => a = #[(.ref b)] ∧ Z.Warmed39 U.vm ∧ U.heap = h0) (fun _ _ _ _ _ => True) (fun _ U oO U' => ∃ v L, oO = .returned v ∧ Q_rmWE Z b wd ex st h0 n0 v U'.heap L ∧ FrameEnd U oO U' L ({ frames := 2, cells := 1, slots := 4, locals := 31 } : Room).cells ({ frames := 2, cells := 1, slots := 4, locals := 31 } : Room).slots) := by
  refine MetFree.of_bodySF (plainFor_of_name pn_rmWE) hisR ?_
  intro p e s m args below meth c s₁ Bd hml0 hP hK
  obtain ⟨rfl, hZ, hh⟩ := hP
  have hx := Bd.exec
  have hby := Bd.bytes
  have hml : c.maxLocals = 1 := hml0
  have hown : s.vm.findClass "com/example/bellmin/bellmin/check/CheckOptions" = some m.cls := findClass_of_methodNamed Bd.named
  have hnm := (name_of_methodNamed Bd.named Bd.method).1
  have hk := Bd.notSynchronized
  have hrt := Bd.returns
  have X0 : Stand p l e ({ frames := 2, cells := 1, slots := 4, locals := 31 } : Room) s m #[(.ref b)] below meth c s₁ [] 0 0 := Stand.of_body Bd
  have e0 : s₁.heap = h0 := by rw [← hh, Bd.state]; rfl
  have N0 := Fr.nil n0
  show OwnGo p.tables e below (OwnEnd s (Q_rmWE Z b wd ex st h0 n0) ({ frames := 2, cells := 1, slots := 4, locals := 31 } : Room).cells ({ frames := 2, cells := 1, slots := 4, locals := 31 } : Room).slots) _
  refine OwnGo.pre (fun t k => castTop (ef_rmWE m b wd ex st) k) ?_
  show OwnGo _ _ _ _ (s₁.setTop (mkF m 0 #[sR b] []))
  obtain ⟨T7, h7, X7, e7, E7, A7, D7, -, st7⟩ := newO X0 hx hZ hown (hw _ (List.mem_of_getElem? (i := 27) rfl)) (hw _ (List.mem_of_getElem? (i := 2) rfl)) (hw _ (List.mem_of_getElem? (i := 3) rfl)) e0 (g := (mkF m 0 #[sR b] [])) rfl (hb hby d4_0) (by decide) (by decide)
  obtain ⟨a7, g7⟩ : ∃ z, z = h0.size := ⟨_, rfl⟩
  rw [← g7] at A7 D7 st7
  have G7 : n0 ≤ a7 := Nat.le_trans Z0 (Nat.le_of_eq g7.symm)
  have Z7 : n0 ≤ h7.size := Nat.le_trans Z0 E7.1
  refine OwnGo.pre (fun t k => st7 t k) ?_
  show OwnGo _ _ _ _ (T7.setTop (mkF m 3 #[sR b] [(.ref a7)]))
  have O7 := O.ex E7
  refine OwnGo.pre (fun t k => XS.dup X7.here hx rfl (hb hby d4_3) rfl rfl (XS.aloadN X7.here hx rfl (hb hby d4_4) rfl rfl k)) ?_
  show OwnGo _ _ _ _ (T7.setTop (mkF m 5 #[sR b] [(.ref b), (.ref a7), (.ref a7)]))
  obtain ⟨T8, X8, e8, st8⟩ := getF X7 hx hZ hown (host := "") (Or.inl (hw _ (List.mem_of_getElem? (i := 14) rfl))) Via.refl e7 O7.2.1 (g := (mkF m 5 #[sR b] [(.ref b), (.ref a7), (.ref a7)])) rfl rfl (hb hby d4_5)
  refine OwnGo.pre (fun t k => st8 t k) ?_
  show OwnGo _ _ _ _ (T8.setTop (mkF m 8 #[sR b] [(.double wd), (.ref a7), (.ref a7)]))
  refine OwnGo.pre (fun t k => XS.iconst X8.here hx rfl (hb hby d4_8) (XS.aloadN X8.here hx rfl (hb hby d4_9) rfl rfl k)) ?_
  show OwnGo _ _ _ _ (T8.setTop (mkF m 10 #[sR b] [(.ref b), (.int (1 : Int32)), (.double wd), (.ref a7), (.ref a7)]))
  obtain ⟨T9, X9, e9, st9⟩ := getF X8 hx hZ hown (host := "") (Or.inl (hw _ (List.mem_of_getElem? (i := 18) rfl))) Via.refl e8 O7.2.2.2.1 (g := (mkF m 10 #[sR b] [(.ref b), (.int (1 : Int32)), (.double wd), (.ref a7), (.ref a7)])) rfl rfl (hb hby d4_10)
  refine OwnGo.pre (fun t k => st9 t k) ?_
  show OwnGo _ _ _ _ (T9.setTop (mkF m 13 #[sR b] [(.int st), (.int (1 : Int32)), (.double wd), (.ref a7), (.ref a7)]))
  refine OwnGo.pre (fun t k => XS.aloadN X9.here hx rfl (hb hby d4_13) rfl rfl k) ?_
  show OwnGo _ _ _ _ (T9.setTop (mkF m 14 #[sR b] [(.ref b), (.int st), (.int (1 : Int32)), (.double wd), (.ref a7), (.ref a7)]))
  obtain ⟨T10, X10, e10, st10⟩ := getF X9 hx hZ hown (host := "") (Or.inl (hw _ (List.mem_of_getElem? (i := 20) rfl))) Via.refl e9 O7.2.2.2.2 (g := (mkF m 14 #[sR b] [(.ref b), (.int st), (.int (1 : Int32)), (.double wd), (.ref a7), (.ref a7)])) rfl rfl (hb hby d4_14)
  refine OwnGo.pre (fun t k => st10 t k) ?_
  show OwnGo _ _ _ _ (T10.setTop (mkF m 17 #[sR b] [.null, (.int st), (.int (1 : Int32)), (.double wd), (.ref a7), (.ref a7)]))
  obtain ⟨_, _, ⟨T11, L11, k11, n11⟩, -, X11, ⟨Lc11, hQ11, l11, y11, z11⟩, st11⟩ := X10.specialBack hx (y := (⟨"com/example/bellmin/bellmin/check/CheckOptions", "<init>", "(DZZLjava/nio/file/Path;)V"⟩ : MethodName)) rfl hown (mvT hZ (hw _ (List.mem_of_getElem? (i := 8) rfl))) (mvT hZ (hw _ (List.mem_of_getElem? (i := 9) rfl))) (mvT hZ (hw _ (List.mem_of_getElem? (i := 10) rfl))) (by decide) (backOf (W := 1) (rmI4 l Z a0 hw [] a7 wd (1 : Int32) st h7 n0 Z7 A7 (D7 (Or.inr (hw _ (List.mem_of_getElem? (i := 15) rfl))) (ty := .double) (by decide)) (D7 (Or.inr (hw _ (List.mem_of_getElem? (i := 17) rfl))) (ty := .boolean) (by decide)) (D7 (Or.inr (hw _ (List.mem_of_getElem? (i := 19) rfl))) (ty := .boolean) (by decide)) (D7 (Or.inr (hw _ (List.mem_of_getElem? (i := 21) rfl))) (ty := (.object "java/nio/file/Path")) (by decide)) G7 (Or.inr rfl) bs) hZ (hw _ (List.mem_of_getElem? (i := 10) rfl)) (hw _ (List.mem_of_getElem? (i := 3) rfl)) (by decide) (by decide)) (g := (mkF m 17 #[sR b] [.null, (.int st), (.int (1 : Int32)), (.double wd), (.ref a7), (.ref a7)])) rfl (by rw [hml]; rfl) (Steps.refl _) (a := a7) (argsL := [(.double wd), (.int (1 : Int32)), (.int st), .null]) (rest := [(.ref a7)]) (lenOf pd_rmI4 rfl) rfl (by show 2 * 0 + _ ≤ _; exact Nat.le_of_eq rfl) (hb hby d4_17) (fun _ _ => ⟨rfl, e10, (by decide : 1 + 0 ≤ _), (by decide : 4 + 0 ≤ _)⟩)
  dsimp only [Pt.U, Pt.locs, Pt.cells, Pt.slots] at X11 l11 y11 z11 st11 hQ11
  subst l11 y11 z11
  obtain ⟨rfl, N11, K11, O11⟩ := hQ11
  refine OwnGo.pre (fun t k => st11.trans k) ?_
  show OwnGo _ _ _ _ (T11.setTop (mkF m 20 #[sR b] [(.ref a7)]))
  have Q11 : Keep h0 T11.heap [] := ((Keep.refl h0 []).ext E7).trans K11 (allS (Or.inr (Nat.le_of_eq g7.symm)) all0)
  exact own_retA X11 hx hk hrt (hb hby d4_20) rfl ⟨_, rfl, G7, Fr.app N0 N11, Q11, O11⟩ (by decide) (by decide)
theorem d5_0 : decode prog_5_method_5_code 0 = .ok (.new 6, 3) := by decide +kernel
theorem d5_3 : decode prog_5_method_5_code 3 = .ok (.dup, 1) := by decide +kernel
theorem d5_4 : decode prog_5_method_5_code 4 = .ok (.aload_n 0, 1) := by decide +kernel
theorem d5_5 : decode prog_5_method_5_code 5 = .ok (.getfield 16, 3) := by decide +kernel
theorem d5_8 : decode prog_5_method_5_code 8 = .ok (.aload_n 0, 1) := by decide +kernel
theorem d5_9 : decode prog_5_method_5_code 9 = .ok (.getfield 20, 3) := by decide +kernel
theorem d5_12 : decode prog_5_method_5_code 12 = .ok (.iconst 1, 1) := by decide +kernel
theorem d5_13 : decode prog_5_method_5_code 13 = .ok (.aload_n 0, 1) := by decide +kernel
theorem d5_14 : decode prog_5_method_5_code 14 = .ok (.getfield 27, 3) := by decide +kernel
theorem d5_17 : decode prog_5_method_5_code 17 = .ok (.invokespecial 5, 3) := by decide +kernel
theorem d5_20 : decode prog_5_method_5_code 20 = .ok (.areturn, 1) := by decide +kernel
theorem pn_rmWS : plainName "com/example/bellmin/bellmin/check/CheckOptions" = true := by first | (simp [plainName, overriddenIn]; done) | decide +kernel
theorem pd_rmWS : parseMethodDescriptor "()Lcom/example/bellmin/bellmin/check/CheckOptions;" = some ⟨[], (some (.object "com/example/bellmin/bellmin/check/CheckOptions"))⟩ := by decide +kernel
theorem ef_rmWS (m : MethodId) (b : Addr) (wd : UInt64) (ex st : Int32) : entryFrame m #[(.ref b)] 1 = (mkF m 0 #[sR b] []) := by first | (simp [entryFrame, mkF, argsToLocals, Value.category, maxLocals]; done) | rfl
def Q_rmWS (Z : State) (b : Addr) (wd : UInt64) (ex st : Int32) (h0 : Heap) (n0 : Nat) (v : Option Value) (h : Heap) (L : List Loc) : Prop := ∃ o, v = some (.ref o) ∧ n0 ≤ o ∧ Fr n0 L ∧ Keep h0 h [] ∧ OwnCO Z h o wd ex 1
set_option maxRecDepth 65536 in
set_option maxHeartbeats 40000000 in
theorem rmWS (l : Launch) (Z : State) (a0 : Array Value) (hw : ∀ d ∈ tables_1, d.before a0 Z = true) (ws : List Jvm.Cond) (b : Addr) (wd : UInt64) (ex st : Int32) (h0 : Heap) (n0 : Nat) (Z0 : n0 ≤ h0.size) (O : OwnCO Z h0 b wd ex st) (bx : ex = 0 ∨ ex = 1) (bs : st = 0 ∨ st = 1) :
    MetFree l (⟨"com/example/bellmin/bellmin/check/CheckOptions", "withStrategies", "()Lcom/example/bellmin/bellmin/check/CheckOptions;"⟩ : MethodName) (head1 (Jvm.Cond.code (⟨"com/example/bellmin/bellmin/check/CheckOptions", "withStrategies", "()Lcom/example/bellmin/bellmin/check/CheckOptions;"⟩ : MethodName) prog_5_method_5_code 1 (some (.object "com/example/bellmin/bellmin/check/CheckOptions")) :: ws) ({ frames := 2, cells := 1, slots := 4, locals := 31 } : Room)) (fun a U => a = #[(.ref b)] ∧ Z.Warmed39 U.vm ∧ U.heap = h0) (fun _ _ _ _ _ => True) (fun _ U oO U' => ∃ v L, oO = .returned v ∧ Q_rmWS Z b wd ex st h0 n0 v U'.heap L ∧ FrameEnd U oO U' L ({ frames := 2, cells := 1, slots := 4, locals := 31 } : Room).cells ({ frames := 2, cells := 1, slots := 4, locals := 31 } : Room).slots) := by
  refine MetFree.of_bodySF (plainFor_of_name pn_rmWS) hisR ?_
  intro p e s m args below meth c s₁ Bd hml0 hP hK
  obtain ⟨rfl, hZ, hh⟩ := hP
  have hx := Bd.exec
  have hby := Bd.bytes
  have hml : c.maxLocals = 1 := hml0
  have hown : s.vm.findClass "com/example/bellmin/bellmin/check/CheckOptions" = some m.cls := findClass_of_methodNamed Bd.named
  have hnm := (name_of_methodNamed Bd.named Bd.method).1
  have hk := Bd.notSynchronized
  have hrt := Bd.returns
  have X0 : Stand p l e ({ frames := 2, cells := 1, slots := 4, locals := 31 } : Room) s m #[(.ref b)] below meth c s₁ [] 0 0 := Stand.of_body Bd
  have e0 : s₁.heap = h0 := by rw [← hh, Bd.state]; rfl
  have N0 := Fr.nil n0
  show OwnGo p.tables e below (OwnEnd s (Q_rmWS Z b wd ex st h0 n0) ({ frames := 2, cells := 1, slots := 4, locals := 31 } : Room).cells ({ frames := 2, cells := 1, slots := 4, locals := 31 } : Room).slots) _
  refine OwnGo.pre (fun t k => castTop (ef_rmWS m b wd ex st) k) ?_
  show OwnGo _ _ _ _ (s₁.setTop (mkF m 0 #[sR b] []))
  obtain ⟨T12, h12, X12, e12, E12, A12, D12, -, st12⟩ := newO X0 hx hZ hown (hw _ (List.mem_of_getElem? (i := 27) rfl)) (hw _ (List.mem_of_getElem? (i := 2) rfl)) (hw _ (List.mem_of_getElem? (i := 3) rfl)) e0 (g := (mkF m 0 #[sR b] [])) rfl (hb hby d5_0) (by decide) (by decide)
  obtain ⟨a12, g12⟩ : ∃ z, z = h0.size := ⟨_, rfl⟩
  rw [← g12] at A12 D12 st12
  have G12 : n0 ≤ a12 := Nat.le_trans Z0 (Nat.le_of_eq g12.symm)
  have Z12 : n0 ≤ h12.size := Nat.le_trans Z0 E12.1
  refine OwnGo.pre (fun t k => st12 t k) ?_
  show OwnGo _ _ _ _ (T12.setTop (mkF m 3 #[sR b] [(.ref a12)]))
  have O12 := O.ex E12
  refine OwnGo.pre (fun t k => XS.dup X12.here hx rfl (hb hby d5_3) rfl rfl (XS.aloadN X12.here hx rfl (hb hby d5_4) rfl rfl k)) ?_
  show OwnGo _ _ _ _ (T12.setTop (mkF m 5 #[sR b] [(.ref b), (.ref a12), (.ref a12)]))
  obtain ⟨T13, X13, e13, st13⟩ := getF X12 hx hZ hown (host := "") (Or.inl (hw _ (List.mem_of_getElem? (i := 14) rfl))) Via.refl e12 O12.2.1 (g := (mkF m 5 #[sR b] [(.ref b), (.ref a12), (.ref a12)])) rfl rfl (hb hby d5_5)
  refine OwnGo.pre (fun t k => st13 t k) ?_
  show OwnGo _ _ _ _ (T13.setTop (mkF m 8 #[sR b] [(.double wd), (.ref a12), (.ref a12)]))
  refine OwnGo.pre (fun t k => XS.aloadN X13.here hx rfl (hb hby d5_8) rfl rfl k) ?_
  show OwnGo _ _ _ _ (T13.setTop (mkF m 9 #[sR b] [(.ref b), (.double wd), (.ref a12), (.ref a12)]))
  obtain ⟨T14, X14, e14, st14⟩ := getF X13 hx hZ hown (host := "") (Or.inl (hw _ (List.mem_of_getElem? (i := 16) rfl))) Via.refl e13 O12.2.2.1 (g := (mkF m 9 #[sR b] [(.ref b), (.double wd), (.ref a12), (.ref a12)])) rfl rfl (hb hby d5_9)
  refine OwnGo.pre (fun t k => st14 t k) ?_
  show OwnGo _ _ _ _ (T14.setTop (mkF m 12 #[sR b] [(.int ex), (.double wd), (.ref a12), (.ref a12)]))
  refine OwnGo.pre (fun t k => XS.iconst X14.here hx rfl (hb hby d5_12) (XS.aloadN X14.here hx rfl (hb hby d5_13) rfl rfl k)) ?_
  show OwnGo _ _ _ _ (T14.setTop (mkF m 14 #[sR b] [(.ref b), (.int (1 : Int32)), (.int ex), (.double wd), (.ref a12), (.ref a12)]))
  obtain ⟨T15, X15, e15, st15⟩ := getF X14 hx hZ hown (host := "") (Or.inl (hw _ (List.mem_of_getElem? (i := 20) rfl))) Via.refl e14 O12.2.2.2.2 (g := (mkF m 14 #[sR b] [(.ref b), (.int (1 : Int32)), (.int ex), (.double wd), (.ref a12), (.ref a12)])) rfl rfl (hb hby d5_14)
  refine OwnGo.pre (fun t k => st15 t k) ?_
  show OwnGo _ _ _ _ (T15.setTop (mkF m 17 #[sR b] [.null, (.int (1 : Int32)), (.int ex), (.double wd), (.ref a12), (.ref a12)]))
  obtain ⟨_, _, ⟨T16, L16, k16, n16⟩, -, X16, ⟨Lc16, hQ16, l16, y16, z16⟩, st16⟩ := X15.specialBack hx (y := (⟨"com/example/bellmin/bellmin/check/CheckOptions", "<init>", "(DZZLjava/nio/file/Path;)V"⟩ : MethodName)) rfl hown (mvT hZ (hw _ (List.mem_of_getElem? (i := 8) rfl))) (mvT hZ (hw _ (List.mem_of_getElem? (i := 9) rfl))) (mvT hZ (hw _ (List.mem_of_getElem? (i := 10) rfl))) (by decide) (backOf (W := 1) (rmI4 l Z a0 hw [] a12 wd ex (1 : Int32) h12 n0 Z12 A12 (D12 (Or.inr (hw _ (List.mem_of_getElem? (i := 15) rfl))) (ty := .double) (by decide)) (D12 (Or.inr (hw _ (List.mem_of_getElem? (i := 17) rfl))) (ty := .boolean) (by decide)) (D12 (Or.inr (hw _ (List.mem_of_getElem? (i := 19) rfl))) (ty := .boolean) (by decide)) (D12 (Or.inr (hw _ (List.mem_of_getElem? (i := 21) rfl))) (ty := (.object "java/nio/file/Path")) (by decide)) G12 bx (Or.inr rfl)) hZ (hw _ (List.mem_of_getElem? (i := 10) rfl)) (hw _ (List.mem_of_getElem? (i := 3) rfl)) (by decide) (by decide)) (g := (mkF m 17 #[sR b] [.null, (.int (1 : Int32)), (.int ex), (.double wd), (.ref a12), (.ref a12)])) rfl (by rw [hml]; rfl) (Steps.refl _) (a := a12) (argsL := [(.double wd), (.int ex), (.int (1 : Int32)), .null]) (rest := [(.ref a12)]) (lenOf pd_rmI4 rfl) rfl (by show 2 * 0 + _ ≤ _; exact Nat.le_of_eq rfl) (hb hby d5_17) (fun _ _ => ⟨rfl, e15, (by decide : 1 + 0 ≤ _), (by decide : 4 + 0 ≤ _)⟩)
  dsimp only [Pt.U, Pt.locs, Pt.cells, Pt.slots] at X16 l16 y16 z16 st16 hQ16
  subst l16 y16 z16
  obtain ⟨rfl, N16, K16, O16⟩ := hQ16
  refine OwnGo.pre (fun t k => st16.trans k) ?_
  show OwnGo _ _ _ _ (T16.setTop (mkF m 20 #[sR b] [(.ref a12)]))
  have Q16 : Keep h0 T16.heap [] := ((Keep.refl h0 []).ext E12).trans K16 (allS (Or.inr (Nat.le_of_eq g12.symm)) all0)
  exact own_retA X16 hx hk hrt (hb hby d5_20) rfl ⟨_, rfl, G12, Fr.app N0 N16, Q16, O16⟩ (by decide) (by decide)
theorem d10_0 : decode prog_5_method_3_code 0 = .ok (.new 6, 3) := by decide +kernel
theorem d10_3 : decode prog_5_method_3_code 3 = .ok (.dup, 1) := by decide +kernel
theorem d10_4 : decode prog_5_method_3_code 4 = .ok (.dload_n 1, 1) := by decide +kernel
theorem d10_5 : decode prog_5_method_3_code 5 = .ok (.aload_n 0, 1) := by decide +kernel
theorem d10_6 : decode prog_5_method_3_code 6 = .ok (.getfield 20, 3) := by decide +kernel
theorem d10_9 : decode prog_5_method_3_code 9 = .ok (.aload_n 0, 1) := by decide +kernel
theorem d10_10 : decode prog_5_method_3_code 10 = .ok (.getfield 24, 3) := by decide +kernel
theorem d10_13 : decode prog_5_method_3_code 13 = .ok (.aload_n 0, 1) := by decide +kernel
theorem d10_14 : decode prog_5_method_3_code 14 = .ok (.getfield 27, 3) := by decide +kernel
theorem d10_17 : decode prog_5_method_3_code 17 = .ok (.invokespecial 5, 3) := by decide +kernel
theorem d10_20 : decode prog_5_method_3_code 20 = .ok (.areturn, 1) := by decide +kernel
theorem pn_rmWW : plainName "com/example/bellmin/bellmin/check/CheckOptions" = true := by first | (simp [plainName, overriddenIn]; done) | decide +kernel
theorem pd_rmWW : parseMethodDescriptor "(D)Lcom/example/bellmin/bellmin/check/CheckOptions;" = some ⟨[.double], (some (.object "com/example/bellmin/bellmin/check/CheckOptions"))⟩ := by decide +kernel
theorem ef_rmWW (m : MethodId) (b : Addr) (wn : UInt64) (wd : UInt64) (ex st : Int32) : entryFrame m #[(.ref b), (.double wn)] 3 = (mkF m 0 #[sR b, sD wn, uS] []) := by first | (simp [entryFrame, mkF, argsToLocals, Value.category, maxLocals]; done) | rfl
def Q_rmWW (Z : State) (b : Addr) (wn : UInt64) (wd : UInt64) (ex st : Int32) (h0 : Heap) (n0 : Nat) (v : Option Value) (h : Heap) (L : List Loc) : Prop := ∃ o, v = some (.ref o) ∧ n0 ≤ o ∧ Fr n0 L ∧ Keep h0 h [] ∧ OwnCO Z h o wn ex st
set_option maxRecDepth 65536 in
set_option maxHeartbeats 40000000 in
theorem rmWW (l : Launch) (Z : State) (a0 : Array Value) (hw : ∀ d ∈ tables_1, d.before a0 Z = true) (ws : List Jvm.Cond) (b : Addr) (wn : UInt64) (wd : UInt64) (ex st : Int32) (h0 : Heap) (n0 : Nat) (Z0 : n0 ≤ h0.size) (O : OwnCO Z h0 b wd ex st) (bx : ex = 0 ∨ ex = 1) (bs : st = 0 ∨ st = 1) :
    MetFree l (⟨"com/example/bellmin/bellmin/check/CheckOptions", "withWidth", "(D)Lcom/example/bellmin/bellmin/check/CheckOptions;"⟩ : MethodName) (head1 (Jvm.Cond.code (⟨"com/example/bellmin/bellmin/check/CheckOptions", "withWidth", "(D)Lcom/example/bellmin/bellmin/check/CheckOptions;"⟩ : MethodName) prog_5_method_3_code 3 (some (.object "com/example/bellmin/bellmin/check/CheckOptions")) :: ws) ({ frames := 2, cells := 1, slots := 4, locals := 31 } : Room)) (fun a U => a = #[(.ref b), (.double wn)] ∧ Z.Warmed39 U.vm ∧ U.heap = h0) (fun _ _ _ _ _ => True) (fun _ U oO U' => ∃ v L, oO = .returned v ∧ Q_rmWW Z b wn wd ex st h0 n0 v U'.heap L ∧ FrameEnd U oO U' L ({ frames := 2, cells := 1, slots := 4, locals := 31 } : Room).cells ({ frames := 2, cells := 1, slots := 4, locals := 31 } : Room).slots) := by
  refine MetFree.of_bodySF (plainFor_of_name pn_rmWW) hisR ?_
  intro p e s m args below meth c s₁ Bd hml0 hP hK
  obtain ⟨rfl, hZ, hh⟩ := hP
  have hx := Bd.exec
  have hby := Bd.bytes
  have hml : c.maxLocals = 3 := hml0
  have hown : s.vm.findClass "com/example/bellmin/bellmin/check/CheckOptions" = some m.cls := findClass_of_methodNamed Bd.named
  have hnm := (name_of_methodNamed Bd.named Bd.method).1
  have hk := Bd.notSynchronized
  have hrt := Bd.returns
  have X0 : Stand p l e ({ frames := 2, cells := 1, slots := 4, locals := 31 } : Room) s m #[(.ref b), (.double wn)] below meth c s₁ [] 0 0 := Stand.of_body Bd
  have e0 : s₁.heap = h0 := by rw [← hh, Bd.state]; rfl
  have N0 := Fr.nil n0
  show OwnGo p.tables e below (OwnEnd s (Q_rmWW Z b wn wd ex st h0 n0) ({ frames := 2, cells := 1, slots := 4, locals := 31 } : Room).cells ({ frames := 2, cells := 1, slots := 4, locals := 31 } : Room).slots) _
  refine OwnGo.pre (fun t k => castTop (ef_rmWW m b wn wd ex st) k) ?_
  show OwnGo _ _ _ _ (s₁.setTop (mkF m 0 #[sR b, sD wn, uS] []))
  obtain ⟨T17, h17, X17, e17, E17, A17, D17, -, st17⟩ := newO X0 hx hZ hown (hw _ (List.mem_of_getElem? (i := 27) rfl)) (hw _ (List.mem_of_getElem? (i := 2) rfl)) (hw _ (List.mem_of_getElem? (i := 3) rfl)) e0 (g := (mkF m 0 #[sR b, sD wn, uS] [])) rfl (hb hby d10_0) (by decide) (by decide)
  obtain ⟨a17, g17⟩ : ∃ z, z = h0.size := ⟨_, rfl⟩
  rw [← g17] at A17 D17 st17
  have G17 : n0 ≤ a17 := Nat.le_trans Z0 (Nat.le_of_eq g17.symm)
  have Z17 : n0 ≤ h17.size := Nat.le_trans Z0 E17.1
  refine OwnGo.pre (fun t k => st17 t k) ?_
  show OwnGo _ _ _ _ (T17.setTop (mkF m 3 #[sR b, sD wn, uS] [(.ref a17)]))
  have O17 := O.ex E17
  refine OwnGo.pre (fun t k => XS.dup X17.here hx rfl (hb hby d10_3) rfl rfl (XS.dloadN X17.here hx rfl (hb hby d10_4) rfl (XS.aloadN X17.here hx rfl (hb hby d10_5) rfl rfl k))) ?_
  show OwnGo _ _ _ _ (T17.setTop (mkF m 6 #[sR b, sD wn, uS] [(.ref b), (.double wn), (.ref a17), (.ref a17)]))
  obtain ⟨T18, X18, e18, st18⟩ := getF X17 hx hZ hown (host := "") (Or.inl (hw _ (List.mem_of_getElem? (i := 16) rfl))) Via.refl e17 O17.2.2.1 (g := (mkF m 6 #[sR b, sD wn, uS] [(.ref b), (.double wn), (.ref a17), (.ref a17)])) rfl rfl (hb hby d10_6)
  refine OwnGo.pre (fun t k => st18 t k) ?_
  show OwnGo _ _ _ _ (T18.setTop (mkF m 9 #[sR b, sD wn, uS] [(.int ex), (.double wn), (.ref a17), (.ref a17)]))
  refine OwnGo.pre (fun t k => XS.aloadN X18.here hx rfl (hb hby d10_9) rfl rfl k) ?_
  show OwnGo _ _ _ _ (T18.setTop (mkF m 10 #[sR b, sD wn, uS] [(.ref b), (.int ex), (.double wn), (.ref a17), (.ref a17)]))
  obtain ⟨T19, X19, e19, st19⟩ := getF X18 hx hZ hown (host := "") (Or.inl (hw _ (List.mem_of_getElem? (i := 18) rfl))) Via.refl e18 O17.2.2.2.1 (g := (mkF m 10 #[sR b, sD wn, uS] [(.ref b), (.int ex), (.double wn), (.ref a17), (.ref a17)])) rfl rfl (hb hby d10_10)
  refine OwnGo.pre (fun t k => st19 t k) ?_
  show OwnGo _ _ _ _ (T19.setTop (mkF m 13 #[sR b, sD wn, uS] [(.int st), (.int ex), (.double wn), (.ref a17), (.ref a17)]))
  refine OwnGo.pre (fun t k => XS.aloadN X19.here hx rfl (hb hby d10_13) rfl rfl k) ?_
  show OwnGo _ _ _ _ (T19.setTop (mkF m 14 #[sR b, sD wn, uS] [(.ref b), (.int st), (.int ex), (.double wn), (.ref a17), (.ref a17)]))
  obtain ⟨T20, X20, e20, st20⟩ := getF X19 hx hZ hown (host := "") (Or.inl (hw _ (List.mem_of_getElem? (i := 20) rfl))) Via.refl e19 O17.2.2.2.2 (g := (mkF m 14 #[sR b, sD wn, uS] [(.ref b), (.int st), (.int ex), (.double wn), (.ref a17), (.ref a17)])) rfl rfl (hb hby d10_14)
  refine OwnGo.pre (fun t k => st20 t k) ?_
  show OwnGo _ _ _ _ (T20.setTop (mkF m 17 #[sR b, sD wn, uS] [.null, (.int st), (.int ex), (.double wn), (.ref a17), (.ref a17)]))
  obtain ⟨_, _, ⟨T21, L21, k21, n21⟩, -, X21, ⟨Lc21, hQ21, l21, y21, z21⟩, st21⟩ := X20.specialBack hx (y := (⟨"com/example/bellmin/bellmin/check/CheckOptions", "<init>", "(DZZLjava/nio/file/Path;)V"⟩ : MethodName)) rfl hown (mvT hZ (hw _ (List.mem_of_getElem? (i := 8) rfl))) (mvT hZ (hw _ (List.mem_of_getElem? (i := 9) rfl))) (mvT hZ (hw _ (List.mem_of_getElem? (i := 10) rfl))) (by decide) (backOf (W := 1) (rmI4 l Z a0 hw [] a17 wn ex st h17 n0 Z17 A17 (D17 (Or.inr (hw _ (List.mem_of_getElem? (i := 15) rfl))) (ty := .double) (by decide)) (D17 (Or.inr (hw _ (List.mem_of_getElem? (i := 17) rfl))) (ty := .boolean) (by decide)) (D17 (Or.inr (hw _ (List.mem_of_getElem? (i := 19) rfl))) (ty := .boolean) (by decide)) (D17 (Or.inr (hw _ (List.mem_of_getElem? (i := 21) rfl))) (ty := (.object "java/nio/file/Path")) (by decide)) G17 bx bs) hZ (hw _ (List.mem_of_getElem? (i := 10) rfl)) (hw _ (List.mem_of_getElem? (i := 3) rfl)) (by decide) (by decide)) (g := (mkF m 17 #[sR b, sD wn, uS] [.null, (.int st), (.int ex), (.double wn), (.ref a17), (.ref a17)])) rfl (by rw [hml]; rfl) (Steps.refl _) (a := a17) (argsL := [(.double wn), (.int ex), (.int st), .null]) (rest := [(.ref a17)]) (lenOf pd_rmI4 rfl) rfl (by show 2 * 0 + _ ≤ _; exact Nat.le_of_eq rfl) (hb hby d10_17) (fun _ _ => ⟨rfl, e20, (by decide : 1 + 0 ≤ _), (by decide : 4 + 0 ≤ _)⟩)
  dsimp only [Pt.U, Pt.locs, Pt.cells, Pt.slots] at X21 l21 y21 z21 st21 hQ21
  subst l21 y21 z21
  obtain ⟨rfl, N21, K21, O21⟩ := hQ21
  refine OwnGo.pre (fun t k => st21.trans k) ?_
  show OwnGo _ _ _ _ (T21.setTop (mkF m 20 #[sR b, sD wn, uS] [(.ref a17)]))
  have Q21 : Keep h0 T21.heap [] := ((Keep.refl h0 []).ext E17).trans K21 (allS (Or.inr (Nat.le_of_eq g17.symm)) all0)
  exact own_retA X21 hx hk hrt (hb hby d10_20) rfl ⟨_, rfl, G17, Fr.app N0 N21, Q21, O21⟩ (by decide) (by decide)
theorem d7_0 : decode prog_5_method_7_code 0 = .ok (.aload_n 0, 1) := by decide +kernel
theorem d7_1 : decode prog_5_method_7_code 1 = .ok (.getfield 16, 3) := by decide +kernel
theorem d7_4 : decode prog_5_method_7_code 4 = .ok (.dreturn, 1) := by decide +kernel
theorem pn_rmGW : plainName "com/example/bellmin/bellmin/check/CheckOptions" = true := by first | (simp [plainName, overriddenIn]; done) | decide +kernel
theorem pd_rmGW : parseMethodDescriptor "()D" = some ⟨[], (some .double)⟩ := by decide +kernel
theorem ef_rmGW (m : MethodId) (b : Addr) (wd : UInt64) (ex st : Int32) : entryFrame m #[(.ref b)] 1 = (mkF m 0 #[sR b] []) := by first | (simp [entryFrame, mkF, argsToLocals, Value.category, maxLocals]; done) | rfl
def Q_rmGW (Z : State) (b : Addr) (wd : UInt64) (ex st : Int32) (h0 : Heap) (n0 : Nat) (v : Option Value) (h : Heap) (L : List Loc) : Prop := v = some (.double wd) ∧ Fr n0 L ∧ h = h0
set_option maxRecDepth 65536 in
set_option maxHeartbeats 40000000 in
theorem rmGW (l : Launch) (Z : State) (a0 : Array Value) (hw : ∀ d ∈ tables_1, d.before a0 Z = true) (ws : List Jvm.Cond) (b : Addr) (wd : UInt64) (ex st : Int32) (h0 : Heap) (n0 : Nat) (Z0 : n0 ≤ h0.size) (O : OwnCO Z h0 b wd ex st) :
    MetFree l (⟨"com/example/bellmin/bellmin/check/CheckOptions", "width", "()D"⟩ : MethodName) (head1 (Jvm.Cond.code (⟨"com/example/bellmin/bellmin/check/CheckOptions", "width", "()D"⟩ : MethodName) prog_5_method_7_code 1 (some .double) :: ws) ({ frames := 0, cells := 0, slots := 0, locals := 0 } : Room)) (fun a U => a = #[(.ref b)] ∧ Z.Warmed39 U.vm ∧ U.heap = h0) (fun _ _ _ _ _ => True) (fun _ U oO U' => ∃ v L, oO = .returned v ∧ Q_rmGW Z b wd ex st h0 n0 v U'.heap L ∧ FrameEnd U oO U' L ({ frames := 0, cells := 0, slots := 0, locals := 0 } : Room).cells ({ frames := 0, cells := 0, slots := 0, locals := 0 } : Room).slots) := by
  refine MetFree.of_bodySF (plainFor_of_name pn_rmGW) hisR ?_
  intro p e s m args below meth c s₁ Bd hml0 hP hK
  obtain ⟨rfl, hZ, hh⟩ := hP
  have hx := Bd.exec
  have hby := Bd.bytes
  have hml : c.maxLocals = 1 := hml0
  have hown : s.vm.findClass "com/example/bellmin/bellmin/check/CheckOptions" = some m.cls := findClass_of_methodNamed Bd.named
  have hnm := (name_of_methodNamed Bd.named Bd.method).1
  have hk := Bd.notSynchronized
  have hrt := Bd.returns
  have X0 : Stand p l e ({ frames := 0, cells := 0, slots := 0, locals := 0 } : Room) s m #[(.ref b)] below meth c s₁ [] 0 0 := Stand.of_body Bd
  have e0 : s₁.heap = h0 := by rw [← hh, Bd.state]; rfl
  have N0 := Fr.nil n0
  show OwnGo p.tables e below (OwnEnd s (Q_rmGW Z b wd ex st h0 n0) ({ frames := 0, cells := 0, slots := 0, locals := 0 } : Room).cells ({ frames := 0, cells := 0, slots := 0, locals := 0 } : Room).slots) _
  refine OwnGo.pre (fun t k => castTop (ef_rmGW m b wd ex st) k) ?_
  show OwnGo _ _ _ _ (s₁.setTop (mkF m 0 #[sR b] []))
  refine OwnGo.pre (fun t k => XS.aloadN X0.here hx rfl (hb hby d7_0) rfl rfl k) ?_
  show OwnGo _ _ _ _ (s₁.setTop (mkF m 1 #[sR b] [(.ref b)]))
  obtain ⟨T22, X22, e22, st22⟩ := getF X0 hx hZ hown (host := "") (Or.inl (hw _ (List.mem_of_getElem? (i := 14) rfl))) Via.refl e0 O.2.1 (g := (mkF m 1 #[sR b] [(.ref b)])) rfl rfl (hb hby d7_1)
  refine OwnGo.pre (fun t k => st22 t k) ?_
  show OwnGo _ _ _ _ (T22.setTop (mkF m 4 #[sR b] [(.double wd)]))
  exact own_retD X22 hx hk hrt (hb hby d7_4) ⟨rfl, N0, e22⟩ (by decide) (by decide)
theorem d8_0 : decode prog_5_method_8_code 0 = .ok (.aload_n 0, 1) := by decide +kernel
theorem d8_1 : decode prog_5_method_8_code 1 = .ok (.getfield 20, 3) := by decide +kernel
theorem d8_4 : decode prog_5_method_8_code 4 = .ok (.ireturn, 1) := by decide +kernel
theorem pn_rmGE : plainName "com/example/bellmin/bellmin/check/CheckOptions" = true := by first | (simp [plainName, overriddenIn]; done) | decide +kernel
theorem pd_rmGE : parseMethodDescriptor "()Z" = some ⟨[], (some .boolean)⟩ := by decide +kernel
theorem ef_rmGE (m : MethodId) (b : Addr) (wd : UInt64) (ex st : Int32) : entryFrame m #[(.ref b)] 1 = (mkF m 0 #[sR b] []) := by first | (simp [entryFrame, mkF, argsToLocals, Value.category, maxLocals]; done) | rfl
def Q_rmGE (Z : State) (b : Addr) (wd : UInt64) (ex st : Int32) (h0 : Heap) (n0 : Nat) (v : Option Value) (h : Heap) (L : List Loc) : Prop := v = some (.int (nar .boolean ex)) ∧ Fr n0 L ∧ h = h0
set_option maxRecDepth 65536 in
set_option maxHeartbeats 40000000 in
theorem rmGE (l : Launch) (Z : State) (a0 : Array Value) (hw : ∀ d ∈ tables_1, d.before a0 Z = true) (ws : List Jvm.Cond) (b : Addr) (wd : UInt64) (ex st : Int32) (h0 : Heap) (n0 : Nat) (Z0 : n0 ≤ h0.size) (O : OwnCO Z h0 b wd ex st) :
    MetFree l (⟨"com/example/bellmin/bellmin/check/CheckOptions", "exact", "()Z"⟩ : MethodName) (head1 (Jvm.Cond.code (⟨"com/example/bellmin/bellmin/check/CheckOptions", "exact", "()Z"⟩ : MethodName) prog_5_method_8_code 1 (some .boolean) :: ws) ({ frames := 0, cells := 0, slots := 0, locals := 0 } : Room)) (fun a U => a = #[(.ref b)] ∧ Z.Warmed39 U.vm ∧ U.heap = h0) (fun _ _ _ _ _ => True) (fun _ U oO U' => ∃ v L, oO = .returned v ∧ Q_rmGE Z b wd ex st h0 n0 v U'.heap L ∧ FrameEnd U oO U' L ({ frames := 0, cells := 0, slots := 0, locals := 0 } : Room).cells ({ frames := 0, cells := 0, slots := 0, locals := 0 } : Room).slots) := by
  refine MetFree.of_bodySF (plainFor_of_name pn_rmGE) hisR ?_
  intro p e s m args below meth c s₁ Bd hml0 hP hK
  obtain ⟨rfl, hZ, hh⟩ := hP
  have hx := Bd.exec
  have hby := Bd.bytes
  have hml : c.maxLocals = 1 := hml0
  have hown : s.vm.findClass "com/example/bellmin/bellmin/check/CheckOptions" = some m.cls := findClass_of_methodNamed Bd.named
  have hnm := (name_of_methodNamed Bd.named Bd.method).1
  have hk := Bd.notSynchronized
  have hrt := Bd.returns
  have X0 : Stand p l e ({ frames := 0, cells := 0, slots := 0, locals := 0 } : Room) s m #[(.ref b)] below meth c s₁ [] 0 0 := Stand.of_body Bd
  have e0 : s₁.heap = h0 := by rw [← hh, Bd.state]; rfl
  have N0 := Fr.nil n0
  show OwnGo p.tables e below (OwnEnd s (Q_rmGE Z b wd ex st h0 n0) ({ frames := 0, cells := 0, slots := 0, locals := 0 } : Room).cells ({ frames := 0, cells := 0, slots := 0, locals := 0 } : Room).slots) _
  refine OwnGo.pre (fun t k => castTop (ef_rmGE m b wd ex st) k) ?_
  show OwnGo _ _ _ _ (s₁.setTop (mkF m 0 #[sR b] []))
  refine OwnGo.pre (fun t k => XS.aloadN X0.here hx rfl (hb hby d8_0) rfl rfl k) ?_
  show OwnGo _ _ _ _ (s₁.setTop (mkF m 1 #[sR b] [(.ref b)]))
  obtain ⟨T23, X23, e23, st23⟩ := getF X0 hx hZ hown (host := "") (Or.inl (hw _ (List.mem_of_getElem? (i := 16) rfl))) Via.refl e0 O.2.2.1 (g := (mkF m 1 #[sR b] [(.ref b)])) rfl rfl (hb hby d8_1)
  refine OwnGo.pre (fun t k => st23 t k) ?_
  show OwnGo _ _ _ _ (T23.setTop (mkF m 4 #[sR b] [(.int ex)]))
  exact own_retZ X23 hx hk hrt (hb hby d8_4) ⟨rfl, N0, e23⟩ (by decide) (by decide)
theorem d6_0 : decode prog_5_method_9_code 0 = .ok (.aload_n 0, 1) := by decide +kernel
theorem d6_1 : decode prog_5_method_9_code 1 = .ok (.getfield 24, 3) := by decide +kernel
theorem d6_4 : decode prog_5_method_9_code 4 = .ok (.ireturn, 1) := by decide +kernel
theorem pn_rmGS : plainName "com/example/bellmin/bellmin/check/CheckOptions" = true := by first | (simp [plainName, overriddenIn]; done) | decide +kernel
theorem pd_rmGS : parseMethodDescriptor "()Z" = some ⟨[], (some .boolean)⟩ := by decide +kernel
theorem ef_rmGS (m : MethodId) (b : Addr) (wd : UInt64) (ex st : Int32) : entryFrame m #[(.ref b)] 1 = (mkF m 0 #[sR b] []) := by first | (simp [entryFrame, mkF, argsToLocals, Value.category, maxLocals]; done) | rfl
def Q_rmGS (Z : State) (b : Addr) (wd : UInt64) (ex st : Int32) (h0 : Heap) (n0 : Nat) (v : Option Value) (h : Heap) (L : List Loc) : Prop := v = some (.int (nar .boolean st)) ∧ Fr n0 L ∧ h = h0
set_option maxRecDepth 65536 in
set_option maxHeartbeats 40000000 in
theorem rmGS (l : Launch) (Z : State) (a0 : Array Value) (hw : ∀ d ∈ tables_1, d.before a0 Z = true) (ws : List Jvm.Cond) (b : Addr) (wd : UInt64) (ex st : Int32) (h0 : Heap) (n0 : Nat) (Z0 : n0 ≤ h0.size) (O : OwnCO Z h0 b wd ex st) :
    MetFree l (⟨"com/example/bellmin/bellmin/check/CheckOptions", "strategies", "()Z"⟩ : MethodName) (head1 (Jvm.Cond.code (⟨"com/example/bellmin/bellmin/check/CheckOptions", "strategies", "()Z"⟩ : MethodName) prog_5_method_9_code 1 (some .boolean) :: ws) ({ frames := 0, cells := 0, slots := 0, locals := 0 } : Room)) (fun a U => a = #[(.ref b)] ∧ Z.Warmed39 U.vm ∧ U.heap = h0) (fun _ _ _ _ _ => True) (fun _ U oO U' => ∃ v L, oO = .returned v ∧ Q_rmGS Z b wd ex st h0 n0 v U'.heap L ∧ FrameEnd U oO U' L ({ frames := 0, cells := 0, slots := 0, locals := 0 } : Room).cells ({ frames := 0, cells := 0, slots := 0, locals := 0 } : Room).slots) := by
  refine MetFree.of_bodySF (plainFor_of_name pn_rmGS) hisR ?_
  intro p e s m args below meth c s₁ Bd hml0 hP hK
  obtain ⟨rfl, hZ, hh⟩ := hP
  have hx := Bd.exec
  have hby := Bd.bytes
  have hml : c.maxLocals = 1 := hml0
  have hown : s.vm.findClass "com/example/bellmin/bellmin/check/CheckOptions" = some m.cls := findClass_of_methodNamed Bd.named
  have hnm := (name_of_methodNamed Bd.named Bd.method).1
  have hk := Bd.notSynchronized
  have hrt := Bd.returns
  have X0 : Stand p l e ({ frames := 0, cells := 0, slots := 0, locals := 0 } : Room) s m #[(.ref b)] below meth c s₁ [] 0 0 := Stand.of_body Bd
  have e0 : s₁.heap = h0 := by rw [← hh, Bd.state]; rfl
  have N0 := Fr.nil n0
  show OwnGo p.tables e below (OwnEnd s (Q_rmGS Z b wd ex st h0 n0) ({ frames := 0, cells := 0, slots := 0, locals := 0 } : Room).cells ({ frames := 0, cells := 0, slots := 0, locals := 0 } : Room).slots) _
  refine OwnGo.pre (fun t k => castTop (ef_rmGS m b wd ex st) k) ?_
  show OwnGo _ _ _ _ (s₁.setTop (mkF m 0 #[sR b] []))
  refine OwnGo.pre (fun t k => XS.aloadN X0.here hx rfl (hb hby d6_0) rfl rfl k) ?_
  show OwnGo _ _ _ _ (s₁.setTop (mkF m 1 #[sR b] [(.ref b)]))
  obtain ⟨T24, X24, e24, st24⟩ := getF X0 hx hZ hown (host := "") (Or.inl (hw _ (List.mem_of_getElem? (i := 18) rfl))) Via.refl e0 O.2.2.2.1 (g := (mkF m 1 #[sR b] [(.ref b)])) rfl rfl (hb hby d6_1)
  refine OwnGo.pre (fun t k => st24 t k) ?_
  show OwnGo _ _ _ _ (T24.setTop (mkF m 4 #[sR b] [(.int st)]))
  exact own_retZ X24 hx hk hrt (hb hby d6_4) ⟨rfl, N0, e24⟩ (by decide) (by decide)
theorem d9_0 : decode prog_5_method_10_code 0 = .ok (.aload_n 0, 1) := by decide +kernel
theorem d9_1 : decode prog_5_method_10_code 1 = .ok (.getfield 27, 3) := by decide +kernel
theorem d9_4 : decode prog_5_method_10_code 4 = .ok (.areturn, 1) := by decide +kernel
theorem pn_rmGA : plainName "com/example/bellmin/bellmin/check/CheckOptions" = true := by first | (simp [plainName, overriddenIn]; done) | decide +kernel
theorem pd_rmGA : parseMethodDescriptor "()Ljava/nio/file/Path;" = some ⟨[], (some (.object "java/nio/file/Path"))⟩ := by decide +kernel
theorem ef_rmGA (m : MethodId) (b : Addr) (wd : UInt64) (ex st : Int32) : entryFrame m #[(.ref b)] 1 = (mkF m 0 #[sR b] []) := by first | (simp [entryFrame, mkF, argsToLocals, Value.category, maxLocals]; done) | rfl
def Q_rmGA (Z : State) (b : Addr) (wd : UInt64) (ex st : Int32) (h0 : Heap) (n0 : Nat) (v : Option Value) (h : Heap) (L : List Loc) : Prop := v = some .null ∧ Fr n0 L ∧ h = h0
set_option maxRecDepth 65536 in
set_option maxHeartbeats 40000000 in
theorem rmGA (l : Launch) (Z : State) (a0 : Array Value) (hw : ∀ d ∈ tables_1, d.before a0 Z = true) (ws : List Jvm.Cond) (b : Addr) (wd : UInt64) (ex st : Int32) (h0 : Heap) (n0 : Nat) (Z0 : n0 ≤ h0.size) (O : OwnCO Z h0 b wd ex st) :
    MetFree l (⟨"com/example/bellmin/bellmin/check/CheckOptions", "applied", "()Ljava/nio/file/Path;"⟩ : MethodName) (head1 (Jvm.Cond.code (⟨"com/example/bellmin/bellmin/check/CheckOptions", "applied", "()Ljava/nio/file/Path;"⟩ : MethodName) prog_5_method_10_code 1 (some (.object "java/nio/file/Path")) :: ws) ({ frames := 0, cells := 0, slots := 0, locals := 0 } : Room)) (fun a U => a = #[(.ref b)] ∧ Z.Warmed39 U.vm ∧ U.heap = h0) (fun _ _ _ _ _ => True) (fun _ U oO U' => ∃ v L, oO = .returned v ∧ Q_rmGA Z b wd ex st h0 n0 v U'.heap L ∧ FrameEnd U oO U' L ({ frames := 0, cells := 0, slots := 0, locals := 0 } : Room).cells ({ frames := 0, cells := 0, slots := 0, locals := 0 } : Room).slots) := by
  refine MetFree.of_bodySF (plainFor_of_name pn_rmGA) hisR ?_
  intro p e s m args below meth c s₁ Bd hml0 hP hK
  obtain ⟨rfl, hZ, hh⟩ := hP
  have hx := Bd.exec
  have hby := Bd.bytes
  have hml : c.maxLocals = 1 := hml0
  have hown : s.vm.findClass "com/example/bellmin/bellmin/check/CheckOptions" = some m.cls := findClass_of_methodNamed Bd.named
  have hnm := (name_of_methodNamed Bd.named Bd.method).1
  have hk := Bd.notSynchronized
  have hrt := Bd.returns
  have X0 : Stand p l e ({ frames := 0, cells := 0, slots := 0, locals := 0 } : Room) s m #[(.ref b)] below meth c s₁ [] 0 0 := Stand.of_body Bd
  have e0 : s₁.heap = h0 := by rw [← hh, Bd.state]; rfl
  have N0 := Fr.nil n0
  show OwnGo p.tables e below (OwnEnd s (Q_rmGA Z b wd ex st h0 n0) ({ frames := 0, cells := 0, slots := 0, locals := 0 } : Room).cells ({ frames := 0, cells := 0, slots := 0, locals := 0 } : Room).slots) _
  refine OwnGo.pre (fun t k => castTop (ef_rmGA m b wd ex st) k) ?_
  show OwnGo _ _ _ _ (s₁.setTop (mkF m 0 #[sR b] []))
  refine OwnGo.pre (fun t k => XS.aloadN X0.here hx rfl (hb hby d9_0) rfl rfl k) ?_
  show OwnGo _ _ _ _ (s₁.setTop (mkF m 1 #[sR b] [(.ref b)]))
  obtain ⟨T25, X25, e25, st25⟩ := getF X0 hx hZ hown (host := "") (Or.inl (hw _ (List.mem_of_getElem? (i := 20) rfl))) Via.refl e0 O.2.2.2.2 (g := (mkF m 1 #[sR b] [(.ref b)])) rfl rfl (hb hby d9_1)
  refine OwnGo.pre (fun t k => st25 t k) ?_
  show OwnGo _ _ _ _ (T25.setTop (mkF m 4 #[sR b] [.null]))
  exact own_retA X25 hx hk hrt (hb hby d9_4) rfl ⟨rfl, N0, e25⟩ (by decide) (by decide)
theorem own_defN : Jvm.Free.Fl.NoNaN64 4517329193108106637 := by unfold Jvm.Free.Fl.NoNaN64; decide
theorem pn_rmL : plainName "com/example/bellmin/bellmin/check/CheckOptionsWithStrategiesPinLaw" = true := by first | (simp [plainName, overriddenIn]; done) | decide +kernel
theorem ef_rmL (m : MethodId) (p0 p1 p2 : Int32) : entryFrame m #[(.int p0), (.int p1), (.int p2)] maxLocals = (mkF m 0 #[sI p0, sI p1, sI p2, uU, uU, uU, uU, uU, uU, uU, uU, uU, uU] []) := by first | (simp [entryFrame, mkF, argsToLocals, Value.category, maxLocals]; done) | rfl
def Q_rmL (Z : State) (p0 p1 p2 : Int32) (h0 : Heap) (n0 : Nat) (v : Option Value) (h : Heap) (L : List Loc) : Prop := v = some (.int 1) ∧ Fr n0 L
set_option maxRecDepth 65536 in
set_option maxHeartbeats 40000000 in
theorem rmL (l : Launch) (Z : State) (a0 : Array Value) (hw : ∀ d ∈ tables_1, d.before a0 Z = true) (ws : List Jvm.Cond) (p0 p1 p2 : Int32) (h0 : Heap) (n0 : Nat) (Z0 : n0 ≤ h0.size)  :
    MetFree l x (head1 (Jvm.Cond.code x code maxLocals ret :: ws) room_1) (fun a U => a = #[(.int p0), (.int p1), (.int p2)] ∧ Z.Warmed39 U.vm ∧ U.heap = h0) (fun _ _ _ _ _ => True) (fun _ U oO U' => ∃ v L, oO = .returned v ∧ Q_rmL Z p0 p1 p2 h0 n0 v U'.heap L ∧ FrameEnd U oO U' L room_1.cells room_1.slots) := by
  refine MetFree.of_bodySF (plainFor_of_name pn_rmL) hisR ?_
  intro p e s m args below meth c s₁ Bd hml0 hP hK
  obtain ⟨rfl, hZ, hh⟩ := hP
  have hx := Bd.exec
  have hby := Bd.bytes
  have hml : c.maxLocals = 13 := hml0
  have hown : s.vm.findClass "com/example/bellmin/bellmin/check/CheckOptionsWithStrategiesPinLaw" = some m.cls := findClass_of_methodNamed Bd.named
  have hnm := (name_of_methodNamed Bd.named Bd.method).1
  have hk := Bd.notSynchronized
  have hrt := Bd.returns
  have X0 : Stand p l e room_1 s m #[(.int p0), (.int p1), (.int p2)] below meth c s₁ [] 0 0 := Stand.of_body Bd
  have e0 : s₁.heap = h0 := by rw [← hh, Bd.state]; rfl
  have N0 := Fr.nil n0
  show OwnGo p.tables e below (OwnEnd s (Q_rmL Z p0 p1 p2 h0 n0) room_1.cells room_1.slots) _
  refine OwnGo.pre (fun t k => castTop (ef_rmL m p0 p1 p2) k) ?_
  show OwnGo _ _ _ _ (s₁.setTop (mkF m 0 #[sI p0, sI p1, sI p2, uU, uU, uU, uU, uU, uU, uU, uU, uU, uU] []))
  refine OwnGo.pre (fun t k => XS.iloadN X0.here hx rfl (hb hby at_0) rfl (XS.iconst X0.here hx rfl (hb hby at_1) (own_iand X0.here hx rfl (hb hby at_2) rfl rfl k))) ?_
  show OwnGo _ _ _ _ (s₁.setTop (mkF m 3 #[sI p0, sI p1, sI p2, uU, uU, uU, uU, uU, uU, uU, uU, uU, uU] [(.int (p2 &&& (1 : Int32)))]))
  by_cases hf1 : ifCond.holds .eq (p2 &&& (1 : Int32)) = true
  · skip
    refine OwnGo.pre (fun t k => XS.ifYes X0.here hx rfl (pc0 := 3) (pc' := 10) rfl (hb hby at_3) rfl hf1 (by decide) (by decide) (XS.iconst X0.here hx rfl (hb hby at_10) (XS.istoreN X0.here hx rfl (hb hby at_11) rfl (l' := #[sI p0, sI p1, sI p2, sI (0 : Int32), uU, uU, uU, uU, uU, uU, uU, uU, uU]) rfl (XS.iloadN X0.here hx rfl (hb hby at_12) rfl (XS.iconst X0.here hx rfl (hb hby at_13) (own_iand X0.here hx rfl (hb hby at_14) rfl rfl k)))))) ?_
    show OwnGo _ _ _ _ (s₁.setTop (mkF m 15 #[sI p0, sI p1, sI p2, sI (0 : Int32), uU, uU, uU, uU, uU, uU, uU, uU, uU] [(.int (p2 &&& (2 : Int32)))]))
    by_cases hf2 : ifCond.holds .eq (p2 &&& (2 : Int32)) = true
    · skip
      refine OwnGo.pre (fun t k => XS.ifYes X0.here hx rfl (pc0 := 15) (pc' := 22) rfl (hb hby at_15) rfl hf2 (by decide) (by decide) (XS.iconst X0.here hx rfl (hb hby at_22) (XS.istore X0.here hx rfl (hb hby at_23) rfl (l' := #[sI p0, sI p1, sI p2, sI (0 : Int32), sI (0 : Int32), uU, uU, uU, uU, uU, uU, uU, uU]) rfl (XS.iloadN X0.here hx rfl (hb hby at_25) rfl (XS.iconst X0.here hx rfl (hb hby at_26) (own_iand X0.here hx rfl (hb hby at_27) rfl rfl k)))))) ?_
      show OwnGo _ _ _ _ (s₁.setTop (mkF m 28 #[sI p0, sI p1, sI p2, sI (0 : Int32), sI (0 : Int32), uU, uU, uU, uU, uU, uU, uU, uU] [(.int (p2 &&& (4 : Int32)))]))
      by_cases hf4 : ifCond.holds .eq (p2 &&& (4 : Int32)) = true
      · skip
        refine OwnGo.pre (fun t k => XS.ifYes X0.here hx rfl (pc0 := 28) (pc' := 35) rfl (hb hby at_28) rfl hf4 (by decide) (by decide) (XS.iconst X0.here hx rfl (hb hby at_35) (XS.istore X0.here hx rfl (hb hby at_36) rfl (l' := #[sI p0, sI p1, sI p2, sI (0 : Int32), sI (0 : Int32), sI (0 : Int32), uU, uU, uU, uU, uU, uU, uU]) rfl (XS.iloadN X0.here hx rfl (hb hby at_38) rfl (XS.i2dS X0.here hx rfl (hb hby at_39) rfl rfl (XS.iloadN X0.here hx rfl (hb hby at_40) rfl (own_ldcI X0 hx hown (mvT hZ (hw _ (List.mem_of_getElem? (i := 0) rfl))) rfl (hb hby at_41) (own_iand X0.here hx rfl (hb hby at_43) rfl rfl k)))))))) ?_
        show OwnGo _ _ _ _ (s₁.setTop (mkF m 44 #[sI p0, sI p1, sI p2, sI (0 : Int32), sI (0 : Int32), sI (0 : Int32), uU, uU, uU, uU, uU, uU, uU] [(.int (p1 &&& (65535 : Int32))), (.double (FP.i2d p0))]))
        obtain ⟨mb, hmb⟩ : ∃ v, (p1 &&& (65535 : Int32)) + (1 : Int32) = v := ⟨_, rfl⟩
        have Hb : mb ≠ 0 := fun q => by have q1 := Jvm.Kit.i32_mask p1 65535 (k := 16) (by decide) (by decide); have q2 : (1 : Int32).toInt = 1 := rfl; have q3 : ((p1 &&& (65535 : Int32)) + 1).toInt = (p1 &&& (65535 : Int32)).toInt + (1 : Int32).toInt := Jvm.Kit.i32_add (by omega) (by omega); rw [hmb, q] at q3; have q4 : (0 : Int32).toInt = 0 := rfl; omega
        have nw0 : Jvm.Free.Fl.NoNaN64 (FP.ddiv (FP.i2d p0) (FP.i2d mb)) := Jvm.Free.Fl.ddiv_out (Jvm.Free.Fl.i2d_fin p0).noNaN (Jvm.Free.Fl.i2d_fin mb) (Jvm.Free.Fl.i2d_nz Hb)
        obtain ⟨dw, hdw⟩ : ∃ v, FP.ddiv (FP.i2d p0) (FP.i2d mb) = v := ⟨_, rfl⟩
        have nw : Jvm.Free.Fl.NoNaN64 dw := hdw ▸ nw0
        refine OwnGo.pre (fun t k => XS.iconst X0.here hx rfl (hb hby at_44) (own_iadd X0.here hx rfl (hb hby at_45) rfl hmb (XS.i2dS X0.here hx rfl (hb hby at_46) rfl rfl (XS.ddivS X0.here hx rfl (hb hby at_47) rfl nw0 hdw (XS.dstore X0.here hx rfl (hb hby at_48) rfl (l' := #[sI p0, sI p1, sI p2, sI (0 : Int32), sI (0 : Int32), sI (0 : Int32), sD dw, uS, uU, uU, uU, uU, uU]) rfl k))))) ?_
        show OwnGo _ _ _ _ (s₁.setTop (mkF m 50 #[sI p0, sI p1, sI p2, sI (0 : Int32), sI (0 : Int32), sI (0 : Int32), sD dw, uS, uU, uU, uU, uU, uU] []))
        obtain ⟨T26, h26, X26, e26, E26, A26, D26, -, st26⟩ := newO X0 hx hZ hown (hw _ (List.mem_of_getElem? (i := 1) rfl)) (hw _ (List.mem_of_getElem? (i := 2) rfl)) (hw _ (List.mem_of_getElem? (i := 3) rfl)) e0 (g := (mkF m 50 #[sI p0, sI p1, sI p2, sI (0 : Int32), sI (0 : Int32), sI (0 : Int32), sD dw, uS, uU, uU, uU, uU, uU] [])) rfl (hb hby at_50) (by decide) (by decide)
        obtain ⟨a26, g26⟩ : ∃ z, z = h0.size := ⟨_, rfl⟩
        rw [← g26] at A26 D26 st26
        have G26 : n0 ≤ a26 := Nat.le_trans Z0 (Nat.le_of_eq g26.symm)
        have Z26 : n0 ≤ h26.size := Nat.le_trans Z0 E26.1
        refine OwnGo.pre (fun t k => st26 t k) ?_
        show OwnGo _ _ _ _ (T26.setTop (mkF m 53 #[sI p0, sI p1, sI p2, sI (0 : Int32), sI (0 : Int32), sI (0 : Int32), sD dw, uS, uU, uU, uU, uU, uU] [(.ref a26)]))
        refine OwnGo.pre (fun t k => XS.dup X26.here hx rfl (hb hby at_53) rfl rfl k) ?_
        show OwnGo _ _ _ _ (T26.setTop (mkF m 54 #[sI p0, sI p1, sI p2, sI (0 : Int32), sI (0 : Int32), sI (0 : Int32), sD dw, uS, uU, uU, uU, uU, uU] [(.ref a26), (.ref a26)]))
        obtain ⟨_, _, ⟨T27, L27, k27, n27⟩, -, X27, ⟨Lc27, hQ27, l27, y27, z27⟩, st27⟩ := X26.specialBack hx (y := (⟨"com/example/bellmin/bellmin/check/CheckOptions", "<init>", "()V"⟩ : MethodName)) rfl hown (mvT hZ (hw _ (List.mem_of_getElem? (i := 4) rfl))) (mvT hZ (hw _ (List.mem_of_getElem? (i := 5) rfl))) (mvT hZ (hw _ (List.mem_of_getElem? (i := 6) rfl))) (by decide) (backOf (W := 1) (rmI0 l Z a0 hw [] a26 h26 n0 Z26 A26 (D26 (Or.inr (hw _ (List.mem_of_getElem? (i := 15) rfl))) (ty := .double) (by decide)) (D26 (Or.inr (hw _ (List.mem_of_getElem? (i := 17) rfl))) (ty := .boolean) (by decide)) (D26 (Or.inr (hw _ (List.mem_of_getElem? (i := 19) rfl))) (ty := .boolean) (by decide)) (D26 (Or.inr (hw _ (List.mem_of_getElem? (i := 21) rfl))) (ty := (.object "java/nio/file/Path")) (by decide)) G26) hZ (hw _ (List.mem_of_getElem? (i := 6) rfl)) (hw _ (List.mem_of_getElem? (i := 3) rfl)) (by decide) (by decide)) (g := (mkF m 54 #[sI p0, sI p1, sI p2, sI (0 : Int32), sI (0 : Int32), sI (0 : Int32), sD dw, uS, uU, uU, uU, uU, uU] [(.ref a26), (.ref a26)])) rfl (by rw [hml]; rfl) (Steps.refl _) (a := a26) (argsL := []) (rest := [(.ref a26)]) (lenOf pd_rmI0 rfl) rfl (by show 2 * 0 + _ ≤ _; exact Nat.le_of_eq rfl) (hb hby at_54) (fun _ _ => ⟨rfl, e26, (by decide : 1 + 0 ≤ _), (by decide : 4 + 0 ≤ _)⟩)
        dsimp only [Pt.U, Pt.locs, Pt.cells, Pt.slots] at X27 l27 y27 z27 st27 hQ27
        subst l27 y27 z27
        obtain ⟨rfl, N27, K27, O27⟩ := hQ27
        refine OwnGo.pre (fun t k => st27.trans k) ?_
        show OwnGo _ _ _ _ (T27.setTop (mkF m 57 #[sI p0, sI p1, sI p2, sI (0 : Int32), sI (0 : Int32), sI (0 : Int32), sD dw, uS, uU, uU, uU, uU, uU] [(.ref a26)]))
        have M27 := Fr.app N0 N27
        have Z27 : n0 ≤ T27.heap.size := Nat.le_trans Z26 K27.1
        refine OwnGo.pre (fun t k => XS.astore X27.here hx rfl (hb hby at_57) rfl rfl (l' := #[sI p0, sI p1, sI p2, sI (0 : Int32), sI (0 : Int32), sI (0 : Int32), sD dw, uS, sR a26, uU, uU, uU, uU]) rfl (XS.iloadN X27.here hx rfl (hb hby at_59) rfl (XS.ifYes X27.here hx rfl (pc0 := 60) (pc' := 72) rfl (hb hby at_60) rfl rfl (by decide) (by decide) (XS.iload X27.here hx rfl (hb hby at_72) rfl (XS.ifYes X27.here hx rfl (pc0 := 74) (pc' := 84) rfl (hb hby at_74) rfl rfl (by decide) (by decide) (XS.iload X27.here hx rfl (hb hby at_84) rfl (XS.ifYes X27.here hx rfl (pc0 := 86) (pc' := 96) rfl (hb hby at_86) rfl rfl (by decide) (by decide) (XS.aload X27.here hx rfl (hb hby at_96) rfl rfl k)))))))) ?_
        show OwnGo _ _ _ _ (T27.setTop (mkF m 98 #[sI p0, sI p1, sI p2, sI (0 : Int32), sI (0 : Int32), sI (0 : Int32), sD dw, uS, sR a26, uU, uU, uU, uU] [(.ref a26)]))
        obtain ⟨cq28, kq28, qa28, qb28, qc28⟩ := isOf hZ rfl O27.1
        obtain ⟨_, _, ⟨T28, L28, k28, n28⟩, -, X28, ⟨Lc28, hQ28, l28, y28, z28⟩, st28⟩ := X27.virtualBack hx (y := (⟨"com/example/bellmin/bellmin/check/CheckOptions", "withStrategies", "()Lcom/example/bellmin/bellmin/check/CheckOptions;"⟩ : MethodName)) (z := (⟨"com/example/bellmin/bellmin/check/CheckOptions", "withStrategies", "()Lcom/example/bellmin/bellmin/check/CheckOptions;"⟩ : MethodName)) hown (mvT hZ (hw _ (List.mem_of_getElem? (i := 28) rfl))) (mvT hZ (hw _ (List.mem_of_getElem? (i := 29) rfl))) (notFace_of_selects (args := #[]) (mvT hZ (hw _ (List.mem_of_getElem? (i := 31) rfl)))) (mvT hZ (hw _ (List.mem_of_getElem? (i := 31) rfl))) (mvT hZ (hw _ (List.mem_of_getElem? (i := 30) rfl))) (by decide) (backOf (W := 0) (rmWS l Z a0 hw [] a26 4517329193108106637 0 0 T27.heap n0 Z27 O27 (Or.inl rfl) (Or.inl rfl)) hZ (hw _ (List.mem_of_getElem? (i := 32) rfl)) (hw _ (List.mem_of_getElem? (i := 3) rfl)) (by decide) (by decide)) qa28 qc28 (g := (mkF m 98 #[sI p0, sI p1, sI p2, sI (0 : Int32), sI (0 : Int32), sI (0 : Int32), sD dw, uS, sR a26, uU, uU, uU, uU] [(.ref a26)])) rfl (by rw [hml]; rfl) (Steps.refl _) (argsL := []) (rest := []) (lenOf pd_rmWS rfl) rfl (by show 2 * 0 + _ ≤ _; exact Nat.le_of_eq rfl) (hb hby at_98) (fun _ _ => ⟨rfl, rfl, (by decide : 1 + 1 ≤ _), (by decide : 4 + 4 ≤ _)⟩)
        dsimp only [Pt.U, Pt.locs, Pt.cells, Pt.slots] at X28 l28 y28 z28 st28 hQ28
        subst l28 y28 z28
        obtain ⟨o28, rfl, g28, N28, K28, O28⟩ := hQ28
        refine OwnGo.pre (fun t k => st28.trans k) ?_
        show OwnGo _ _ _ _ (T28.setTop (mkF m 101 #[sI p0, sI p1, sI p2, sI (0 : Int32), sI (0 : Int32), sI (0 : Int32), sD dw, uS, sR a26, uU, uU, uU, uU] [(.ref o28)]))
        have M28 := Fr.app M27 N28
        have Z28 : n0 ≤ T28.heap.size := Nat.le_trans Z27 K28.1
        have C28_a26 := O27.kp K28 nin0
        refine OwnGo.pre (fun t k => XS.astore X28.here hx rfl (hb hby at_101) rfl rfl (l' := #[sI p0, sI p1, sI p2, sI (0 : Int32), sI (0 : Int32), sI (0 : Int32), sD dw, uS, sR a26, sR o28, uU, uU, uU]) rfl (XS.iloadN X28.here hx rfl (hb hby at_103) rfl (XS.ifYes X28.here hx rfl (pc0 := 104) (pc' := 112) rfl (hb hby at_104) rfl rfl (by decide) (by decide) (own_ldcD X28 hx hown (mvT hZ (hw _ (List.mem_of_getElem? (i := 33) rfl))) rfl (hb hby at_112) (XS.dstore X28.here hx rfl (hb hby at_115) rfl (l' := #[sI p0, sI p1, sI p2, sI (0 : Int32), sI (0 : Int32), sI (0 : Int32), sD dw, uS, sR a26, sR o28, sD (4517329193108106637 : UInt64), uS, uU]) rfl (XS.aload X28.here hx rfl (hb hby at_117) rfl rfl (XS.ifnullNo X28.here hx rfl (hb hby at_119) rfl (XS.aload X28.here hx rfl (hb hby at_122) rfl rfl k)))))))) ?_
        show OwnGo _ _ _ _ (T28.setTop (mkF m 124 #[sI p0, sI p1, sI p2, sI (0 : Int32), sI (0 : Int32), sI (0 : Int32), sD dw, uS, sR a26, sR o28, sD (4517329193108106637 : UInt64), uS, uU] [(.ref o28)]))
        obtain ⟨cq29, kq29, qa29, qb29, qc29⟩ := isOf hZ rfl O28.1
        obtain ⟨_, _, ⟨T29, L29, k29, n29⟩, -, X29, ⟨Lc29, hQ29, l29, y29, z29⟩, st29⟩ := X28.virtualBack hx (y := (⟨"com/example/bellmin/bellmin/check/CheckOptions", "strategies", "()Z"⟩ : MethodName)) (z := (⟨"com/example/bellmin/bellmin/check/CheckOptions", "strategies", "()Z"⟩ : MethodName)) hown (mvT hZ (hw _ (List.mem_of_getElem? (i := 34) rfl))) (mvT hZ (hw _ (List.mem_of_getElem? (i := 35) rfl))) (notFace_of_selects (args := #[]) (mvT hZ (hw _ (List.mem_of_getElem? (i := 37) rfl)))) (mvT hZ (hw _ (List.mem_of_getElem? (i := 37) rfl))) (mvT hZ (hw _ (List.mem_of_getElem? (i := 36) rfl))) (by decide) (backOf (W := 0) (rmGS l Z a0 hw [] o28 4517329193108106637 0 1 T28.heap n0 Z28 O28) hZ (hw _ (List.mem_of_getElem? (i := 38) rfl)) (hw _ (List.mem_of_getElem? (i := 3) rfl)) (by decide) (by decide)) qa29 qc29 (g := (mkF m 124 #[sI p0, sI p1, sI p2, sI (0 : Int32), sI (0 : Int32), sI (0 : Int32), sD dw, uS, sR a26, sR o28, sD (4517329193108106637 : UInt64), uS, uU] [(.ref o28)])) rfl (by rw [hml]; rfl) (Steps.refl _) (argsL := []) (rest := []) (lenOf pd_rmGS rfl) rfl (by show 2 * 0 + _ ≤ _; exact Nat.le_of_eq rfl) (hb hby at_124) (fun _ _ => ⟨rfl, rfl, (by decide : 2 + 0 ≤ _), (by decide : 8 + 0 ≤ _)⟩)
        dsimp only [Pt.U, Pt.locs, Pt.cells, Pt.slots] at X29 l29 y29 z29 st29 hQ29
        subst l29 y29 z29
        obtain ⟨rfl, N29, e29⟩ := hQ29
        refine OwnGo.pre (fun t k => st29.trans k) ?_
        show OwnGo _ _ _ _ (T29.setTop (mkF m 127 #[sI p0, sI p1, sI p2, sI (0 : Int32), sI (0 : Int32), sI (0 : Int32), sD dw, uS, sR a26, sR o28, sD (4517329193108106637 : UInt64), uS, uU] [(.int (nar .boolean 1))]))
        have M29 := Fr.app M28 N29
        refine OwnGo.pre (fun t k => XS.ifNo X29.here hx rfl (hb hby at_127) rfl (by decide) (XS.aload X29.here hx rfl (hb hby at_130) rfl rfl k)) ?_
        show OwnGo _ _ _ _ (T29.setTop (mkF m 132 #[sI p0, sI p1, sI p2, sI (0 : Int32), sI (0 : Int32), sI (0 : Int32), sD dw, uS, sR a26, sR o28, sD (4517329193108106637 : UInt64), uS, uU] [(.ref o28)]))
        obtain ⟨cq30, kq30, qa30, qb30, qc30⟩ := isOf hZ e29 O28.1
        obtain ⟨_, _, ⟨T30, L30, k30, n30⟩, -, X30, ⟨Lc30, hQ30, l30, y30, z30⟩, st30⟩ := X29.virtualBack hx (y := (⟨"com/example/bellmin/bellmin/check/CheckOptions", "width", "()D"⟩ : MethodName)) (z := (⟨"com/example/bellmin/bellmin/check/CheckOptions", "width", "()D"⟩ : MethodName)) hown (mvT hZ (hw _ (List.mem_of_getElem? (i := 39) rfl))) (mvT hZ (hw _ (List.mem_of_getElem? (i := 40) rfl))) (notFace_of_selects (args := #[]) (mvT hZ (hw _ (List.mem_of_getElem? (i := 42) rfl)))) (mvT hZ (hw _ (List.mem_of_getElem? (i := 42) rfl))) (mvT hZ (hw _ (List.mem_of_getElem? (i := 41) rfl))) (by decide) (backOf (W := 0) (rmGW l Z a0 hw [] o28 4517329193108106637 0 1 T28.heap n0 Z28 O28) hZ (hw _ (List.mem_of_getElem? (i := 43) rfl)) (hw _ (List.mem_of_getElem? (i := 3) rfl)) (by decide) (by decide)) qa30 qc30 (g := (mkF m 132 #[sI p0, sI p1, sI p2, sI (0 : Int32), sI (0 : Int32), sI (0 : Int32), sD dw, uS, sR a26, sR o28, sD (4517329193108106637 : UInt64), uS, uU] [(.ref o28)])) rfl (by rw [hml]; rfl) (Steps.refl _) (argsL := []) (rest := []) (lenOf pd_rmGW rfl) rfl (by show 2 * 0 + _ ≤ _; exact Nat.le_of_eq rfl) (hb hby at_132) (fun _ _ => ⟨rfl, e29, (by decide : 2 + 0 ≤ _), (by decide : 8 + 0 ≤ _)⟩)
        dsimp only [Pt.U, Pt.locs, Pt.cells, Pt.slots] at X30 l30 y30 z30 st30 hQ30
        subst l30 y30 z30
        obtain ⟨rfl, N30, e30⟩ := hQ30
        refine OwnGo.pre (fun t k => st30.trans k) ?_
        show OwnGo _ _ _ _ (T30.setTop (mkF m 135 #[sI p0, sI p1, sI p2, sI (0 : Int32), sI (0 : Int32), sI (0 : Int32), sD dw, uS, sR a26, sR o28, sD (4517329193108106637 : UInt64), uS, uU] [(.double 4517329193108106637)]))
        have M30 := Fr.app M29 N30
        refine OwnGo.pre (fun t k => XS.dload X30.here hx rfl (hb hby at_135) rfl (XS.dcmpS X30.here hx rfl (hb hby at_137) rfl rfl (XS.ifNo X30.here hx rfl (hb hby at_138) rfl (by rw [dcmpV_self own_defN]; rfl) (XS.aload X30.here hx rfl (hb hby at_141) rfl rfl k)))) ?_
        show OwnGo _ _ _ _ (T30.setTop (mkF m 143 #[sI p0, sI p1, sI p2, sI (0 : Int32), sI (0 : Int32), sI (0 : Int32), sD dw, uS, sR a26, sR o28, sD (4517329193108106637 : UInt64), uS, uU] [(.ref o28)]))
        obtain ⟨cq31, kq31, qa31, qb31, qc31⟩ := isOf hZ e30 O28.1
        obtain ⟨_, _, ⟨T31, L31, k31, n31⟩, -, X31, ⟨Lc31, hQ31, l31, y31, z31⟩, st31⟩ := X30.virtualBack hx (y := (⟨"com/example/bellmin/bellmin/check/CheckOptions", "exact", "()Z"⟩ : MethodName)) (z := (⟨"com/example/bellmin/bellmin/check/CheckOptions", "exact", "()Z"⟩ : MethodName)) hown (mvT hZ (hw _ (List.mem_of_getElem? (i := 44) rfl))) (mvT hZ (hw _ (List.mem_of_getElem? (i := 45) rfl))) (notFace_of_selects (args := #[]) (mvT hZ (hw _ (List.mem_of_getElem? (i := 47) rfl)))) (mvT hZ (hw _ (List.mem_of_getElem? (i := 47) rfl))) (mvT hZ (hw _ (List.mem_of_getElem? (i := 46) rfl))) (by decide) (backOf (W := 0) (rmGE l Z a0 hw [] o28 4517329193108106637 0 1 T28.heap n0 Z28 O28) hZ (hw _ (List.mem_of_getElem? (i := 48) rfl)) (hw _ (List.mem_of_getElem? (i := 3) rfl)) (by decide) (by decide)) qa31 qc31 (g := (mkF m 143 #[sI p0, sI p1, sI p2, sI (0 : Int32), sI (0 : Int32), sI (0 : Int32), sD dw, uS, sR a26, sR o28, sD (4517329193108106637 : UInt64), uS, uU] [(.ref o28)])) rfl (by rw [hml]; rfl) (Steps.refl _) (argsL := []) (rest := []) (lenOf pd_rmGE rfl) rfl (by show 2 * 0 + _ ≤ _; exact Nat.le_of_eq rfl) (hb hby at_143) (fun _ _ => ⟨rfl, e30, (by decide : 2 + 0 ≤ _), (by decide : 8 + 0 ≤ _)⟩)
        dsimp only [Pt.U, Pt.locs, Pt.cells, Pt.slots] at X31 l31 y31 z31 st31 hQ31
        subst l31 y31 z31
        obtain ⟨rfl, N31, e31⟩ := hQ31
        refine OwnGo.pre (fun t k => st31.trans k) ?_
        show OwnGo _ _ _ _ (T31.setTop (mkF m 146 #[sI p0, sI p1, sI p2, sI (0 : Int32), sI (0 : Int32), sI (0 : Int32), sD dw, uS, sR a26, sR o28, sD (4517329193108106637 : UInt64), uS, uU] [(.int (nar .boolean 0))]))
        have M31 := Fr.app M30 N31
        refine OwnGo.pre (fun t k => XS.iload X31.here hx rfl (hb hby at_146) rfl (XS.icmpNo X31.here hx rfl (hb hby at_148) rfl (by decide) (XS.aload X31.here hx rfl (hb hby at_151) rfl rfl k))) ?_
        show OwnGo _ _ _ _ (T31.setTop (mkF m 153 #[sI p0, sI p1, sI p2, sI (0 : Int32), sI (0 : Int32), sI (0 : Int32), sD dw, uS, sR a26, sR o28, sD (4517329193108106637 : UInt64), uS, uU] [(.ref o28)]))
        obtain ⟨cq32, kq32, qa32, qb32, qc32⟩ := isOf hZ e31 O28.1
        obtain ⟨_, _, ⟨T32, L32, k32, n32⟩, -, X32, ⟨Lc32, hQ32, l32, y32, z32⟩, st32⟩ := X31.virtualBack hx (y := (⟨"com/example/bellmin/bellmin/check/CheckOptions", "applied", "()Ljava/nio/file/Path;"⟩ : MethodName)) (z := (⟨"com/example/bellmin/bellmin/check/CheckOptions", "applied", "()Ljava/nio/file/Path;"⟩ : MethodName)) hown (mvT hZ (hw _ (List.mem_of_getElem? (i := 49) rfl))) (mvT hZ (hw _ (List.mem_of_getElem? (i := 50) rfl))) (notFace_of_selects (args := #[]) (mvT hZ (hw _ (List.mem_of_getElem? (i := 52) rfl)))) (mvT hZ (hw _ (List.mem_of_getElem? (i := 52) rfl))) (mvT hZ (hw _ (List.mem_of_getElem? (i := 51) rfl))) (by decide) (backOf (W := 0) (rmGA l Z a0 hw [] o28 4517329193108106637 0 1 T28.heap n0 Z28 O28) hZ (hw _ (List.mem_of_getElem? (i := 53) rfl)) (hw _ (List.mem_of_getElem? (i := 3) rfl)) (by decide) (by decide)) qa32 qc32 (g := (mkF m 153 #[sI p0, sI p1, sI p2, sI (0 : Int32), sI (0 : Int32), sI (0 : Int32), sD dw, uS, sR a26, sR o28, sD (4517329193108106637 : UInt64), uS, uU] [(.ref o28)])) rfl (by rw [hml]; rfl) (Steps.refl _) (argsL := []) (rest := []) (lenOf pd_rmGA rfl) rfl (by show 2 * 0 + _ ≤ _; exact Nat.le_of_eq rfl) (hb hby at_153) (fun _ _ => ⟨rfl, e31, (by decide : 2 + 0 ≤ _), (by decide : 8 + 0 ≤ _)⟩)
        dsimp only [Pt.U, Pt.locs, Pt.cells, Pt.slots] at X32 l32 y32 z32 st32 hQ32
        subst l32 y32 z32
        obtain ⟨rfl, N32, e32⟩ := hQ32
        refine OwnGo.pre (fun t k => st32.trans k) ?_
        show OwnGo _ _ _ _ (T32.setTop (mkF m 156 #[sI p0, sI p1, sI p2, sI (0 : Int32), sI (0 : Int32), sI (0 : Int32), sD dw, uS, sR a26, sR o28, sD (4517329193108106637 : UInt64), uS, uU] [.null]))
        have M32 := Fr.app M31 N32
        refine OwnGo.pre (fun t k => XT.ifnonnullNo X32.here hx rfl (hb hby at_156) rfl (XS.aload X32.here hx rfl (hb hby at_159) rfl rfl k)) ?_
        show OwnGo _ _ _ _ (T32.setTop (mkF m 161 #[sI p0, sI p1, sI p2, sI (0 : Int32), sI (0 : Int32), sI (0 : Int32), sD dw, uS, sR a26, sR o28, sD (4517329193108106637 : UInt64), uS, uU] [(.ref a26)]))
        obtain ⟨cq33, kq33, qa33, qb33, qc33⟩ := isOf hZ e32 C28_a26.1
        obtain ⟨_, _, ⟨T33, L33, k33, n33⟩, -, X33, ⟨Lc33, hQ33, l33, y33, z33⟩, st33⟩ := X32.virtualBack hx (y := (⟨"com/example/bellmin/bellmin/check/CheckOptions", "strategies", "()Z"⟩ : MethodName)) (z := (⟨"com/example/bellmin/bellmin/check/CheckOptions", "strategies", "()Z"⟩ : MethodName)) hown (mvT hZ (hw _ (List.mem_of_getElem? (i := 34) rfl))) (mvT hZ (hw _ (List.mem_of_getElem? (i := 35) rfl))) (notFace_of_selects (args := #[]) (mvT hZ (hw _ (List.mem_of_getElem? (i := 37) rfl)))) (mvT hZ (hw _ (List.mem_of_getElem? (i := 37) rfl))) (mvT hZ (hw _ (List.mem_of_getElem? (i := 36) rfl))) (by decide) (backOf (W := 0) (rmGS l Z a0 hw [] a26 4517329193108106637 0 0 T28.heap n0 Z28 C28_a26) hZ (hw _ (List.mem_of_getElem? (i := 38) rfl)) (hw _ (List.mem_of_getElem? (i := 3) rfl)) (by decide) (by decide)) qa33 qc33 (g := (mkF m 161 #[sI p0, sI p1, sI p2, sI (0 : Int32), sI (0 : Int32), sI (0 : Int32), sD dw, uS, sR a26, sR o28, sD (4517329193108106637 : UInt64), uS, uU] [(.ref a26)])) rfl (by rw [hml]; rfl) (Steps.refl _) (argsL := []) (rest := []) (lenOf pd_rmGS rfl) rfl (by show 2 * 0 + _ ≤ _; exact Nat.le_of_eq rfl) (hb hby at_161) (fun _ _ => ⟨rfl, e32, (by decide : 2 + 0 ≤ _), (by decide : 8 + 0 ≤ _)⟩)
        dsimp only [Pt.U, Pt.locs, Pt.cells, Pt.slots] at X33 l33 y33 z33 st33 hQ33
        subst l33 y33 z33
        obtain ⟨rfl, N33, e33⟩ := hQ33
        refine OwnGo.pre (fun t k => st33.trans k) ?_
        show OwnGo _ _ _ _ (T33.setTop (mkF m 164 #[sI p0, sI p1, sI p2, sI (0 : Int32), sI (0 : Int32), sI (0 : Int32), sD dw, uS, sR a26, sR o28, sD (4517329193108106637 : UInt64), uS, uU] [(.int (nar .boolean 0))]))
        have M33 := Fr.app M32 N33
        refine OwnGo.pre (fun t k => XS.iload X33.here hx rfl (hb hby at_164) rfl (XS.icmpNo X33.here hx rfl (hb hby at_166) rfl (by decide) (XS.aload X33.here hx rfl (hb hby at_169) rfl rfl k))) ?_
        show OwnGo _ _ _ _ (T33.setTop (mkF m 171 #[sI p0, sI p1, sI p2, sI (0 : Int32), sI (0 : Int32), sI (0 : Int32), sD dw, uS, sR a26, sR o28, sD (4517329193108106637 : UInt64), uS, uU] [(.ref a26)]))
        obtain ⟨cq34, kq34, qa34, qb34, qc34⟩ := isOf hZ e33 C28_a26.1
        obtain ⟨_, _, ⟨T34, L34, k34, n34⟩, -, X34, ⟨Lc34, hQ34, l34, y34, z34⟩, st34⟩ := X33.virtualBack hx (y := (⟨"com/example/bellmin/bellmin/check/CheckOptions", "width", "()D"⟩ : MethodName)) (z := (⟨"com/example/bellmin/bellmin/check/CheckOptions", "width", "()D"⟩ : MethodName)) hown (mvT hZ (hw _ (List.mem_of_getElem? (i := 39) rfl))) (mvT hZ (hw _ (List.mem_of_getElem? (i := 40) rfl))) (notFace_of_selects (args := #[]) (mvT hZ (hw _ (List.mem_of_getElem? (i := 42) rfl)))) (mvT hZ (hw _ (List.mem_of_getElem? (i := 42) rfl))) (mvT hZ (hw _ (List.mem_of_getElem? (i := 41) rfl))) (by decide) (backOf (W := 0) (rmGW l Z a0 hw [] a26 4517329193108106637 0 0 T28.heap n0 Z28 C28_a26) hZ (hw _ (List.mem_of_getElem? (i := 43) rfl)) (hw _ (List.mem_of_getElem? (i := 3) rfl)) (by decide) (by decide)) qa34 qc34 (g := (mkF m 171 #[sI p0, sI p1, sI p2, sI (0 : Int32), sI (0 : Int32), sI (0 : Int32), sD dw, uS, sR a26, sR o28, sD (4517329193108106637 : UInt64), uS, uU] [(.ref a26)])) rfl (by rw [hml]; rfl) (Steps.refl _) (argsL := []) (rest := []) (lenOf pd_rmGW rfl) rfl (by show 2 * 0 + _ ≤ _; exact Nat.le_of_eq rfl) (hb hby at_171) (fun _ _ => ⟨rfl, e33, (by decide : 2 + 0 ≤ _), (by decide : 8 + 0 ≤ _)⟩)
        dsimp only [Pt.U, Pt.locs, Pt.cells, Pt.slots] at X34 l34 y34 z34 st34 hQ34
        subst l34 y34 z34
        obtain ⟨rfl, N34, e34⟩ := hQ34
        refine OwnGo.pre (fun t k => st34.trans k) ?_
        show OwnGo _ _ _ _ (T34.setTop (mkF m 174 #[sI p0, sI p1, sI p2, sI (0 : Int32), sI (0 : Int32), sI (0 : Int32), sD dw, uS, sR a26, sR o28, sD (4517329193108106637 : UInt64), uS, uU] [(.double 4517329193108106637)]))
        have M34 := Fr.app M33 N34
        refine OwnGo.pre (fun t k => XS.dload X34.here hx rfl (hb hby at_174) rfl (XS.dcmpS X34.here hx rfl (hb hby at_176) rfl rfl (XS.ifNo X34.here hx rfl (hb hby at_177) rfl (by rw [dcmpV_self own_defN]; rfl) (XS.aload X34.here hx rfl (hb hby at_180) rfl rfl k)))) ?_
        show OwnGo _ _ _ _ (T34.setTop (mkF m 182 #[sI p0, sI p1, sI p2, sI (0 : Int32), sI (0 : Int32), sI (0 : Int32), sD dw, uS, sR a26, sR o28, sD (4517329193108106637 : UInt64), uS, uU] [(.ref a26)]))
        obtain ⟨cq35, kq35, qa35, qb35, qc35⟩ := isOf hZ e34 C28_a26.1
        obtain ⟨_, _, ⟨T35, L35, k35, n35⟩, -, X35, ⟨Lc35, hQ35, l35, y35, z35⟩, st35⟩ := X34.virtualBack hx (y := (⟨"com/example/bellmin/bellmin/check/CheckOptions", "exact", "()Z"⟩ : MethodName)) (z := (⟨"com/example/bellmin/bellmin/check/CheckOptions", "exact", "()Z"⟩ : MethodName)) hown (mvT hZ (hw _ (List.mem_of_getElem? (i := 44) rfl))) (mvT hZ (hw _ (List.mem_of_getElem? (i := 45) rfl))) (notFace_of_selects (args := #[]) (mvT hZ (hw _ (List.mem_of_getElem? (i := 47) rfl)))) (mvT hZ (hw _ (List.mem_of_getElem? (i := 47) rfl))) (mvT hZ (hw _ (List.mem_of_getElem? (i := 46) rfl))) (by decide) (backOf (W := 0) (rmGE l Z a0 hw [] a26 4517329193108106637 0 0 T28.heap n0 Z28 C28_a26) hZ (hw _ (List.mem_of_getElem? (i := 48) rfl)) (hw _ (List.mem_of_getElem? (i := 3) rfl)) (by decide) (by decide)) qa35 qc35 (g := (mkF m 182 #[sI p0, sI p1, sI p2, sI (0 : Int32), sI (0 : Int32), sI (0 : Int32), sD dw, uS, sR a26, sR o28, sD (4517329193108106637 : UInt64), uS, uU] [(.ref a26)])) rfl (by rw [hml]; rfl) (Steps.refl _) (argsL := []) (rest := []) (lenOf pd_rmGE rfl) rfl (by show 2 * 0 + _ ≤ _; exact Nat.le_of_eq rfl) (hb hby at_182) (fun _ _ => ⟨rfl, e34, (by decide : 2 + 0 ≤ _), (by decide : 8 + 0 ≤ _)⟩)
        dsimp only [Pt.U, Pt.locs, Pt.cells, Pt.slots] at X35 l35 y35 z35 st35 hQ35
        subst l35 y35 z35
        obtain ⟨rfl, N35, e35⟩ := hQ35
        refine OwnGo.pre (fun t k => st35.trans k) ?_
        show OwnGo _ _ _ _ (T35.setTop (mkF m 185 #[sI p0, sI p1, sI p2, sI (0 : Int32), sI (0 : Int32), sI (0 : Int32), sD dw, uS, sR a26, sR o28, sD (4517329193108106637 : UInt64), uS, uU] [(.int (nar .boolean 0))]))
        have M35 := Fr.app M34 N35
        refine OwnGo.pre (fun t k => XS.iload X35.here hx rfl (hb hby at_185) rfl (XS.icmpNo X35.here hx rfl (hb hby at_187) rfl (by decide) (XS.iconst X35.here hx rfl (hb hby at_190) (XS.goto X35.here hx rfl (pc0 := 191) (pc' := 195) rfl (hb hby at_191) (by decide) (by decide) (XS.istore X35.here hx rfl (hb hby at_195) rfl (l' := #[sI p0, sI p1, sI p2, sI (0 : Int32), sI (0 : Int32), sI (0 : Int32), sD dw, uS, sR a26, sR o28, sD (4517329193108106637 : UInt64), uS, sI (1 : Int32)]) rfl (XS.iload X35.here hx rfl (hb hby at_197) rfl k)))))) ?_
        show OwnGo _ _ _ _ (T35.setTop (mkF m 199 #[sI p0, sI p1, sI p2, sI (0 : Int32), sI (0 : Int32), sI (0 : Int32), sD dw, uS, sR a26, sR o28, sD (4517329193108106637 : UInt64), uS, sI (1 : Int32)] [(.int (1 : Int32))]))
        exact own_retZ X35 hx hk hrt (hb hby at_199) ⟨rfl, M35⟩ (by decide) (by decide)
      · skip
        refine OwnGo.pre (fun t k => XS.ifNo X0.here hx rfl (hb hby at_28) rfl (eq_false_of_ne_true hf4) (XS.iconst X0.here hx rfl (hb hby at_31) (XS.goto X0.here hx rfl (pc0 := 32) (pc' := 36) rfl (hb hby at_32) (by decide) (by decide) (XS.istore X0.here hx rfl (hb hby at_36) rfl (l' := #[sI p0, sI p1, sI p2, sI (0 : Int32), sI (0 : Int32), sI (1 : Int32), uU, uU, uU, uU, uU, uU, uU]) rfl (XS.iloadN X0.here hx rfl (hb hby at_38) rfl (XS.i2dS X0.here hx rfl (hb hby at_39) rfl rfl (XS.iloadN X0.here hx rfl (hb hby at_40) rfl (own_ldcI X0 hx hown (mvT hZ (hw _ (List.mem_of_getElem? (i := 0) rfl))) rfl (hb hby at_41) k)))))))) ?_
        show OwnGo _ _ _ _ (s₁.setTop (mkF m 43 #[sI p0, sI p1, sI p2, sI (0 : Int32), sI (0 : Int32), sI (1 : Int32), uU, uU, uU, uU, uU, uU, uU] [(.int (65535 : Int32)), (.int p1), (.double (FP.i2d p0))]))
        obtain ⟨mb, hmb⟩ : ∃ v, (p1 &&& (65535 : Int32)) + (1 : Int32) = v := ⟨_, rfl⟩
        have Hb : mb ≠ 0 := fun q => by have q1 := Jvm.Kit.i32_mask p1 65535 (k := 16) (by decide) (by decide); have q2 : (1 : Int32).toInt = 1 := rfl; have q3 : ((p1 &&& (65535 : Int32)) + 1).toInt = (p1 &&& (65535 : Int32)).toInt + (1 : Int32).toInt := Jvm.Kit.i32_add (by omega) (by omega); rw [hmb, q] at q3; have q4 : (0 : Int32).toInt = 0 := rfl; omega
        have nw0 : Jvm.Free.Fl.NoNaN64 (FP.ddiv (FP.i2d p0) (FP.i2d mb)) := Jvm.Free.Fl.ddiv_out (Jvm.Free.Fl.i2d_fin p0).noNaN (Jvm.Free.Fl.i2d_fin mb) (Jvm.Free.Fl.i2d_nz Hb)
        obtain ⟨dw, hdw⟩ : ∃ v, FP.ddiv (FP.i2d p0) (FP.i2d mb) = v := ⟨_, rfl⟩
        have nw : Jvm.Free.Fl.NoNaN64 dw := hdw ▸ nw0
        refine OwnGo.pre (fun t k => own_iand X0.here hx rfl (hb hby at_43) rfl rfl (XS.iconst X0.here hx rfl (hb hby at_44) (own_iadd X0.here hx rfl (hb hby at_45) rfl hmb (XS.i2dS X0.here hx rfl (hb hby at_46) rfl rfl (XS.ddivS X0.here hx rfl (hb hby at_47) rfl nw0 hdw (XS.dstore X0.here hx rfl (hb hby at_48) rfl (l' := #[sI p0, sI p1, sI p2, sI (0 : Int32), sI (0 : Int32), sI (1 : Int32), sD dw, uS, uU, uU, uU, uU, uU]) rfl k)))))) ?_
        show OwnGo _ _ _ _ (s₁.setTop (mkF m 50 #[sI p0, sI p1, sI p2, sI (0 : Int32), sI (0 : Int32), sI (1 : Int32), sD dw, uS, uU, uU, uU, uU, uU] []))
        obtain ⟨T36, h36, X36, e36, E36, A36, D36, -, st36⟩ := newO X0 hx hZ hown (hw _ (List.mem_of_getElem? (i := 1) rfl)) (hw _ (List.mem_of_getElem? (i := 2) rfl)) (hw _ (List.mem_of_getElem? (i := 3) rfl)) e0 (g := (mkF m 50 #[sI p0, sI p1, sI p2, sI (0 : Int32), sI (0 : Int32), sI (1 : Int32), sD dw, uS, uU, uU, uU, uU, uU] [])) rfl (hb hby at_50) (by decide) (by decide)
        obtain ⟨a36, g36⟩ : ∃ z, z = h0.size := ⟨_, rfl⟩
        rw [← g36] at A36 D36 st36
        have G36 : n0 ≤ a36 := Nat.le_trans Z0 (Nat.le_of_eq g36.symm)
        have Z36 : n0 ≤ h36.size := Nat.le_trans Z0 E36.1
        refine OwnGo.pre (fun t k => st36 t k) ?_
        show OwnGo _ _ _ _ (T36.setTop (mkF m 53 #[sI p0, sI p1, sI p2, sI (0 : Int32), sI (0 : Int32), sI (1 : Int32), sD dw, uS, uU, uU, uU, uU, uU] [(.ref a36)]))
        refine OwnGo.pre (fun t k => XS.dup X36.here hx rfl (hb hby at_53) rfl rfl k) ?_
        show OwnGo _ _ _ _ (T36.setTop (mkF m 54 #[sI p0, sI p1, sI p2, sI (0 : Int32), sI (0 : Int32), sI (1 : Int32), sD dw, uS, uU, uU, uU, uU, uU] [(.ref a36), (.ref a36)]))
        obtain ⟨_, _, ⟨T37, L37, k37, n37⟩, -, X37, ⟨Lc37, hQ37, l37, y37, z37⟩, st37⟩ := X36.specialBack hx (y := (⟨"com/example/bellmin/bellmin/check/CheckOptions", "<init>", "()V"⟩ : MethodName)) rfl hown (mvT hZ (hw _ (List.mem_of_getElem? (i := 4) rfl))) (mvT hZ (hw _ (List.mem_of_getElem? (i := 5) rfl))) (mvT hZ (hw _ (List.mem_of_getElem? (i := 6) rfl))) (by decide) (backOf (W := 1) (rmI0 l Z a0 hw [] a36 h36 n0 Z36 A36 (D36 (Or.inr (hw _ (List.mem_of_getElem? (i := 15) rfl))) (ty := .double) (by decide)) (D36 (Or.inr (hw _ (List.mem_of_getElem? (i := 17) rfl))) (ty := .boolean) (by decide)) (D36 (Or.inr (hw _ (List.mem_of_getElem? (i := 19) rfl))) (ty := .boolean) (by decide)) (D36 (Or.inr (hw _ (List.mem_of_getElem? (i := 21) rfl))) (ty := (.object "java/nio/file/Path")) (by decide)) G36) hZ (hw _ (List.mem_of_getElem? (i := 6) rfl)) (hw _ (List.mem_of_getElem? (i := 3) rfl)) (by decide) (by decide)) (g := (mkF m 54 #[sI p0, sI p1, sI p2, sI (0 : Int32), sI (0 : Int32), sI (1 : Int32), sD dw, uS, uU, uU, uU, uU, uU] [(.ref a36), (.ref a36)])) rfl (by rw [hml]; rfl) (Steps.refl _) (a := a36) (argsL := []) (rest := [(.ref a36)]) (lenOf pd_rmI0 rfl) rfl (by show 2 * 0 + _ ≤ _; exact Nat.le_of_eq rfl) (hb hby at_54) (fun _ _ => ⟨rfl, e36, (by decide : 1 + 0 ≤ _), (by decide : 4 + 0 ≤ _)⟩)
        dsimp only [Pt.U, Pt.locs, Pt.cells, Pt.slots] at X37 l37 y37 z37 st37 hQ37
        subst l37 y37 z37
        obtain ⟨rfl, N37, K37, O37⟩ := hQ37
        refine OwnGo.pre (fun t k => st37.trans k) ?_
        show OwnGo _ _ _ _ (T37.setTop (mkF m 57 #[sI p0, sI p1, sI p2, sI (0 : Int32), sI (0 : Int32), sI (1 : Int32), sD dw, uS, uU, uU, uU, uU, uU] [(.ref a36)]))
        have M37 := Fr.app N0 N37
        have Z37 : n0 ≤ T37.heap.size := Nat.le_trans Z36 K37.1
        refine OwnGo.pre (fun t k => XS.astore X37.here hx rfl (hb hby at_57) rfl rfl (l' := #[sI p0, sI p1, sI p2, sI (0 : Int32), sI (0 : Int32), sI (1 : Int32), sD dw, uS, sR a36, uU, uU, uU, uU]) rfl (XS.iloadN X37.here hx rfl (hb hby at_59) rfl (XS.ifYes X37.here hx rfl (pc0 := 60) (pc' := 72) rfl (hb hby at_60) rfl rfl (by decide) (by decide) (XS.iload X37.here hx rfl (hb hby at_72) rfl (XS.ifYes X37.here hx rfl (pc0 := 74) (pc' := 84) rfl (hb hby at_74) rfl rfl (by decide) (by decide) (XS.iload X37.here hx rfl (hb hby at_84) rfl (XS.ifNo X37.here hx rfl (hb hby at_86) rfl rfl (XS.aload X37.here hx rfl (hb hby at_89) rfl rfl k)))))))) ?_
        show OwnGo _ _ _ _ (T37.setTop (mkF m 91 #[sI p0, sI p1, sI p2, sI (0 : Int32), sI (0 : Int32), sI (1 : Int32), sD dw, uS, sR a36, uU, uU, uU, uU] [(.ref a36)]))
        obtain ⟨cq38, kq38, qa38, qb38, qc38⟩ := isOf hZ rfl O37.1
        obtain ⟨_, _, ⟨T38, L38, k38, n38⟩, -, X38, ⟨Lc38, hQ38, l38, y38, z38⟩, st38⟩ := X37.virtualBack hx (y := (⟨"com/example/bellmin/bellmin/check/CheckOptions", "withStrategies", "()Lcom/example/bellmin/bellmin/check/CheckOptions;"⟩ : MethodName)) (z := (⟨"com/example/bellmin/bellmin/check/CheckOptions", "withStrategies", "()Lcom/example/bellmin/bellmin/check/CheckOptions;"⟩ : MethodName)) hown (mvT hZ (hw _ (List.mem_of_getElem? (i := 28) rfl))) (mvT hZ (hw _ (List.mem_of_getElem? (i := 29) rfl))) (notFace_of_selects (args := #[]) (mvT hZ (hw _ (List.mem_of_getElem? (i := 31) rfl)))) (mvT hZ (hw _ (List.mem_of_getElem? (i := 31) rfl))) (mvT hZ (hw _ (List.mem_of_getElem? (i := 30) rfl))) (by decide) (backOf (W := 0) (rmWS l Z a0 hw [] a36 4517329193108106637 0 0 T37.heap n0 Z37 O37 (Or.inl rfl) (Or.inl rfl)) hZ (hw _ (List.mem_of_getElem? (i := 32) rfl)) (hw _ (List.mem_of_getElem? (i := 3) rfl)) (by decide) (by decide)) qa38 qc38 (g := (mkF m 91 #[sI p0, sI p1, sI p2, sI (0 : Int32), sI (0 : Int32), sI (1 : Int32), sD dw, uS, sR a36, uU, uU, uU, uU] [(.ref a36)])) rfl (by rw [hml]; rfl) (Steps.refl _) (argsL := []) (rest := []) (lenOf pd_rmWS rfl) rfl (by show 2 * 0 + _ ≤ _; exact Nat.le_of_eq rfl) (hb hby at_91) (fun _ _ => ⟨rfl, rfl, (by decide : 1 + 1 ≤ _), (by decide : 4 + 4 ≤ _)⟩)
        dsimp only [Pt.U, Pt.locs, Pt.cells, Pt.slots] at X38 l38 y38 z38 st38 hQ38
        subst l38 y38 z38
        obtain ⟨o38, rfl, g38, N38, K38, O38⟩ := hQ38
        refine OwnGo.pre (fun t k => st38.trans k) ?_
        show OwnGo _ _ _ _ (T38.setTop (mkF m 94 #[sI p0, sI p1, sI p2, sI (0 : Int32), sI (0 : Int32), sI (1 : Int32), sD dw, uS, sR a36, uU, uU, uU, uU] [(.ref o38)]))
        have M38 := Fr.app M37 N38
        have Z38 : n0 ≤ T38.heap.size := Nat.le_trans Z37 K38.1
        have C38_a36 := O37.kp K38 nin0
        refine OwnGo.pre (fun t k => XS.astore X38.here hx rfl (hb hby at_94) rfl rfl (l' := #[sI p0, sI p1, sI p2, sI (0 : Int32), sI (0 : Int32), sI (1 : Int32), sD dw, uS, sR o38, uU, uU, uU, uU]) rfl (XS.aload X38.here hx rfl (hb hby at_96) rfl rfl k)) ?_
        show OwnGo _ _ _ _ (T38.setTop (mkF m 98 #[sI p0, sI p1, sI p2, sI (0 : Int32), sI (0 : Int32), sI (1 : Int32), sD dw, uS, sR o38, uU, uU, uU, uU] [(.ref o38)]))
        obtain ⟨cq39, kq39, qa39, qb39, qc39⟩ := isOf hZ rfl O38.1
        obtain ⟨_, _, ⟨T39, L39, k39, n39⟩, -, X39, ⟨Lc39, hQ39, l39, y39, z39⟩, st39⟩ := X38.virtualBack hx (y := (⟨"com/example/bellmin/bellmin/check/CheckOptions", "withStrategies", "()Lcom/example/bellmin/bellmin/check/CheckOptions;"⟩ : MethodName)) (z := (⟨"com/example/bellmin/bellmin/check/CheckOptions", "withStrategies", "()Lcom/example/bellmin/bellmin/check/CheckOptions;"⟩ : MethodName)) hown (mvT hZ (hw _ (List.mem_of_getElem? (i := 28) rfl))) (mvT hZ (hw _ (List.mem_of_getElem? (i := 29) rfl))) (notFace_of_selects (args := #[]) (mvT hZ (hw _ (List.mem_of_getElem? (i := 31) rfl)))) (mvT hZ (hw _ (List.mem_of_getElem? (i := 31) rfl))) (mvT hZ (hw _ (List.mem_of_getElem? (i := 30) rfl))) (by decide) (backOf (W := 0) (rmWS l Z a0 hw [] o38 4517329193108106637 0 1 T38.heap n0 Z38 O38 (Or.inl rfl) (Or.inr rfl)) hZ (hw _ (List.mem_of_getElem? (i := 32) rfl)) (hw _ (List.mem_of_getElem? (i := 3) rfl)) (by decide) (by decide)) qa39 qc39 (g := (mkF m 98 #[sI p0, sI p1, sI p2, sI (0 : Int32), sI (0 : Int32), sI (1 : Int32), sD dw, uS, sR o38, uU, uU, uU, uU] [(.ref o38)])) rfl (by rw [hml]; rfl) (Steps.refl _) (argsL := []) (rest := []) (lenOf pd_rmWS rfl) rfl (by show 2 * 0 + _ ≤ _; exact Nat.le_of_eq rfl) (hb hby at_98) (fun _ _ => ⟨rfl, rfl, (by decide : 2 + 1 ≤ _), (by decide : 8 + 4 ≤ _)⟩)
        dsimp only [Pt.U, Pt.locs, Pt.cells, Pt.slots] at X39 l39 y39 z39 st39 hQ39
        subst l39 y39 z39
        obtain ⟨o39, rfl, g39, N39, K39, O39⟩ := hQ39
        refine OwnGo.pre (fun t k => st39.trans k) ?_
        show OwnGo _ _ _ _ (T39.setTop (mkF m 101 #[sI p0, sI p1, sI p2, sI (0 : Int32), sI (0 : Int32), sI (1 : Int32), sD dw, uS, sR o38, uU, uU, uU, uU] [(.ref o39)]))
        have M39 := Fr.app M38 N39
        have Z39 : n0 ≤ T39.heap.size := Nat.le_trans Z38 K39.1
        have C39_a36 := C38_a36.kp K39 nin0
        have C39_o38 := O38.kp K39 nin0
        refine OwnGo.pre (fun t k => XS.astore X39.here hx rfl (hb hby at_101) rfl rfl (l' := #[sI p0, sI p1, sI p2, sI (0 : Int32), sI (0 : Int32), sI (1 : Int32), sD dw, uS, sR o38, sR o39, uU, uU, uU]) rfl (XS.iloadN X39.here hx rfl (hb hby at_103) rfl (XS.ifYes X39.here hx rfl (pc0 := 104) (pc' := 112) rfl (hb hby at_104) rfl rfl (by decide) (by decide) (own_ldcD X39 hx hown (mvT hZ (hw _ (List.mem_of_getElem? (i := 33) rfl))) rfl (hb hby at_112) (XS.dstore X39.here hx rfl (hb hby at_115) rfl (l' := #[sI p0, sI p1, sI p2, sI (0 : Int32), sI (0 : Int32), sI (1 : Int32), sD dw, uS, sR o38, sR o39, sD (4517329193108106637 : UInt64), uS, uU]) rfl (XS.aload X39.here hx rfl (hb hby at_117) rfl rfl (XS.ifnullNo X39.here hx rfl (hb hby at_119) rfl (XS.aload X39.here hx rfl (hb hby at_122) rfl rfl k)))))))) ?_
        show OwnGo _ _ _ _ (T39.setTop (mkF m 124 #[sI p0, sI p1, sI p2, sI (0 : Int32), sI (0 : Int32), sI (1 : Int32), sD dw, uS, sR o38, sR o39, sD (4517329193108106637 : UInt64), uS, uU] [(.ref o39)]))
        obtain ⟨cq40, kq40, qa40, qb40, qc40⟩ := isOf hZ rfl O39.1
        obtain ⟨_, _, ⟨T40, L40, k40, n40⟩, -, X40, ⟨Lc40, hQ40, l40, y40, z40⟩, st40⟩ := X39.virtualBack hx (y := (⟨"com/example/bellmin/bellmin/check/CheckOptions", "strategies", "()Z"⟩ : MethodName)) (z := (⟨"com/example/bellmin/bellmin/check/CheckOptions", "strategies", "()Z"⟩ : MethodName)) hown (mvT hZ (hw _ (List.mem_of_getElem? (i := 34) rfl))) (mvT hZ (hw _ (List.mem_of_getElem? (i := 35) rfl))) (notFace_of_selects (args := #[]) (mvT hZ (hw _ (List.mem_of_getElem? (i := 37) rfl)))) (mvT hZ (hw _ (List.mem_of_getElem? (i := 37) rfl))) (mvT hZ (hw _ (List.mem_of_getElem? (i := 36) rfl))) (by decide) (backOf (W := 0) (rmGS l Z a0 hw [] o39 4517329193108106637 0 1 T39.heap n0 Z39 O39) hZ (hw _ (List.mem_of_getElem? (i := 38) rfl)) (hw _ (List.mem_of_getElem? (i := 3) rfl)) (by decide) (by decide)) qa40 qc40 (g := (mkF m 124 #[sI p0, sI p1, sI p2, sI (0 : Int32), sI (0 : Int32), sI (1 : Int32), sD dw, uS, sR o38, sR o39, sD (4517329193108106637 : UInt64), uS, uU] [(.ref o39)])) rfl (by rw [hml]; rfl) (Steps.refl _) (argsL := []) (rest := []) (lenOf pd_rmGS rfl) rfl (by show 2 * 0 + _ ≤ _; exact Nat.le_of_eq rfl) (hb hby at_124) (fun _ _ => ⟨rfl, rfl, (by decide : 3 + 0 ≤ _), (by decide : 12 + 0 ≤ _)⟩)
        dsimp only [Pt.U, Pt.locs, Pt.cells, Pt.slots] at X40 l40 y40 z40 st40 hQ40
        subst l40 y40 z40
        obtain ⟨rfl, N40, e40⟩ := hQ40
        refine OwnGo.pre (fun t k => st40.trans k) ?_
        show OwnGo _ _ _ _ (T40.setTop (mkF m 127 #[sI p0, sI p1, sI p2, sI (0 : Int32), sI (0 : Int32), sI (1 : Int32), sD dw, uS, sR o38, sR o39, sD (4517329193108106637 : UInt64), uS, uU] [(.int (nar .boolean 1))]))
        have M40 := Fr.app M39 N40
        refine OwnGo.pre (fun t k => XS.ifNo X40.here hx rfl (hb hby at_127) rfl (by decide) (XS.aload X40.here hx rfl (hb hby at_130) rfl rfl k)) ?_
        show OwnGo _ _ _ _ (T40.setTop (mkF m 132 #[sI p0, sI p1, sI p2, sI (0 : Int32), sI (0 : Int32), sI (1 : Int32), sD dw, uS, sR o38, sR o39, sD (4517329193108106637 : UInt64), uS, uU] [(.ref o39)]))
        obtain ⟨cq41, kq41, qa41, qb41, qc41⟩ := isOf hZ e40 O39.1
        obtain ⟨_, _, ⟨T41, L41, k41, n41⟩, -, X41, ⟨Lc41, hQ41, l41, y41, z41⟩, st41⟩ := X40.virtualBack hx (y := (⟨"com/example/bellmin/bellmin/check/CheckOptions", "width", "()D"⟩ : MethodName)) (z := (⟨"com/example/bellmin/bellmin/check/CheckOptions", "width", "()D"⟩ : MethodName)) hown (mvT hZ (hw _ (List.mem_of_getElem? (i := 39) rfl))) (mvT hZ (hw _ (List.mem_of_getElem? (i := 40) rfl))) (notFace_of_selects (args := #[]) (mvT hZ (hw _ (List.mem_of_getElem? (i := 42) rfl)))) (mvT hZ (hw _ (List.mem_of_getElem? (i := 42) rfl))) (mvT hZ (hw _ (List.mem_of_getElem? (i := 41) rfl))) (by decide) (backOf (W := 0) (rmGW l Z a0 hw [] o39 4517329193108106637 0 1 T39.heap n0 Z39 O39) hZ (hw _ (List.mem_of_getElem? (i := 43) rfl)) (hw _ (List.mem_of_getElem? (i := 3) rfl)) (by decide) (by decide)) qa41 qc41 (g := (mkF m 132 #[sI p0, sI p1, sI p2, sI (0 : Int32), sI (0 : Int32), sI (1 : Int32), sD dw, uS, sR o38, sR o39, sD (4517329193108106637 : UInt64), uS, uU] [(.ref o39)])) rfl (by rw [hml]; rfl) (Steps.refl _) (argsL := []) (rest := []) (lenOf pd_rmGW rfl) rfl (by show 2 * 0 + _ ≤ _; exact Nat.le_of_eq rfl) (hb hby at_132) (fun _ _ => ⟨rfl, e40, (by decide : 3 + 0 ≤ _), (by decide : 12 + 0 ≤ _)⟩)
        dsimp only [Pt.U, Pt.locs, Pt.cells, Pt.slots] at X41 l41 y41 z41 st41 hQ41
        subst l41 y41 z41
        obtain ⟨rfl, N41, e41⟩ := hQ41
        refine OwnGo.pre (fun t k => st41.trans k) ?_
        show OwnGo _ _ _ _ (T41.setTop (mkF m 135 #[sI p0, sI p1, sI p2, sI (0 : Int32), sI (0 : Int32), sI (1 : Int32), sD dw, uS, sR o38, sR o39, sD (4517329193108106637 : UInt64), uS, uU] [(.double 4517329193108106637)]))
        have M41 := Fr.app M40 N41
        refine OwnGo.pre (fun t k => XS.dload X41.here hx rfl (hb hby at_135) rfl (XS.dcmpS X41.here hx rfl (hb hby at_137) rfl rfl (XS.ifNo X41.here hx rfl (hb hby at_138) rfl (by rw [dcmpV_self own_defN]; rfl) (XS.aload X41.here hx rfl (hb hby at_141) rfl rfl k)))) ?_
        show OwnGo _ _ _ _ (T41.setTop (mkF m 143 #[sI p0, sI p1, sI p2, sI (0 : Int32), sI (0 : Int32), sI (1 : Int32), sD dw, uS, sR o38, sR o39, sD (4517329193108106637 : UInt64), uS, uU] [(.ref o39)]))
        obtain ⟨cq42, kq42, qa42, qb42, qc42⟩ := isOf hZ e41 O39.1
        obtain ⟨_, _, ⟨T42, L42, k42, n42⟩, -, X42, ⟨Lc42, hQ42, l42, y42, z42⟩, st42⟩ := X41.virtualBack hx (y := (⟨"com/example/bellmin/bellmin/check/CheckOptions", "exact", "()Z"⟩ : MethodName)) (z := (⟨"com/example/bellmin/bellmin/check/CheckOptions", "exact", "()Z"⟩ : MethodName)) hown (mvT hZ (hw _ (List.mem_of_getElem? (i := 44) rfl))) (mvT hZ (hw _ (List.mem_of_getElem? (i := 45) rfl))) (notFace_of_selects (args := #[]) (mvT hZ (hw _ (List.mem_of_getElem? (i := 47) rfl)))) (mvT hZ (hw _ (List.mem_of_getElem? (i := 47) rfl))) (mvT hZ (hw _ (List.mem_of_getElem? (i := 46) rfl))) (by decide) (backOf (W := 0) (rmGE l Z a0 hw [] o39 4517329193108106637 0 1 T39.heap n0 Z39 O39) hZ (hw _ (List.mem_of_getElem? (i := 48) rfl)) (hw _ (List.mem_of_getElem? (i := 3) rfl)) (by decide) (by decide)) qa42 qc42 (g := (mkF m 143 #[sI p0, sI p1, sI p2, sI (0 : Int32), sI (0 : Int32), sI (1 : Int32), sD dw, uS, sR o38, sR o39, sD (4517329193108106637 : UInt64), uS, uU] [(.ref o39)])) rfl (by rw [hml]; rfl) (Steps.refl _) (argsL := []) (rest := []) (lenOf pd_rmGE rfl) rfl (by show 2 * 0 + _ ≤ _; exact Nat.le_of_eq rfl) (hb hby at_143) (fun _ _ => ⟨rfl, e41, (by decide : 3 + 0 ≤ _), (by decide : 12 + 0 ≤ _)⟩)
        dsimp only [Pt.U, Pt.locs, Pt.cells, Pt.slots] at X42 l42 y42 z42 st42 hQ42
        subst l42 y42 z42
        obtain ⟨rfl, N42, e42⟩ := hQ42
        refine OwnGo.pre (fun t k => st42.trans k) ?_
        show OwnGo _ _ _ _ (T42.setTop (mkF m 146 #[sI p0, sI p1, sI p2, sI (0 : Int32), sI (0 : Int32), sI (1 : Int32), sD dw, uS, sR o38, sR o39, sD (4517329193108106637 : UInt64), uS, uU] [(.int (nar .boolean 0))]))
        have M42 := Fr.app M41 N42
        refine OwnGo.pre (fun t k => XS.iload X42.here hx rfl (hb hby at_146) rfl (XS.icmpNo X42.here hx rfl (hb hby at_148) rfl (by decide) (XS.aload X42.here hx rfl (hb hby at_151) rfl rfl k))) ?_
        show OwnGo _ _ _ _ (T42.setTop (mkF m 153 #[sI p0, sI p1, sI p2, sI (0 : Int32), sI (0 : Int32), sI (1 : Int32), sD dw, uS, sR o38, sR o39, sD (4517329193108106637 : UInt64), uS, uU] [(.ref o39)]))
        obtain ⟨cq43, kq43, qa43, qb43, qc43⟩ := isOf hZ e42 O39.1
        obtain ⟨_, _, ⟨T43, L43, k43, n43⟩, -, X43, ⟨Lc43, hQ43, l43, y43, z43⟩, st43⟩ := X42.virtualBack hx (y := (⟨"com/example/bellmin/bellmin/check/CheckOptions", "applied", "()Ljava/nio/file/Path;"⟩ : MethodName)) (z := (⟨"com/example/bellmin/bellmin/check/CheckOptions", "applied", "()Ljava/nio/file/Path;"⟩ : MethodName)) hown (mvT hZ (hw _ (List.mem_of_getElem? (i := 49) rfl))) (mvT hZ (hw _ (List.mem_of_getElem? (i := 50) rfl))) (notFace_of_selects (args := #[]) (mvT hZ (hw _ (List.mem_of_getElem? (i := 52) rfl)))) (mvT hZ (hw _ (List.mem_of_getElem? (i := 52) rfl))) (mvT hZ (hw _ (List.mem_of_getElem? (i := 51) rfl))) (by decide) (backOf (W := 0) (rmGA l Z a0 hw [] o39 4517329193108106637 0 1 T39.heap n0 Z39 O39) hZ (hw _ (List.mem_of_getElem? (i := 53) rfl)) (hw _ (List.mem_of_getElem? (i := 3) rfl)) (by decide) (by decide)) qa43 qc43 (g := (mkF m 153 #[sI p0, sI p1, sI p2, sI (0 : Int32), sI (0 : Int32), sI (1 : Int32), sD dw, uS, sR o38, sR o39, sD (4517329193108106637 : UInt64), uS, uU] [(.ref o39)])) rfl (by rw [hml]; rfl) (Steps.refl _) (argsL := []) (rest := []) (lenOf pd_rmGA rfl) rfl (by show 2 * 0 + _ ≤ _; exact Nat.le_of_eq rfl) (hb hby at_153) (fun _ _ => ⟨rfl, e42, (by decide : 3 + 0 ≤ _), (by decide : 12 + 0 ≤ _)⟩)
        dsimp only [Pt.U, Pt.locs, Pt.cells, Pt.slots] at X43 l43 y43 z43 st43 hQ43
        subst l43 y43 z43
        obtain ⟨rfl, N43, e43⟩ := hQ43
        refine OwnGo.pre (fun t k => st43.trans k) ?_
        show OwnGo _ _ _ _ (T43.setTop (mkF m 156 #[sI p0, sI p1, sI p2, sI (0 : Int32), sI (0 : Int32), sI (1 : Int32), sD dw, uS, sR o38, sR o39, sD (4517329193108106637 : UInt64), uS, uU] [.null]))
        have M43 := Fr.app M42 N43
        refine OwnGo.pre (fun t k => XT.ifnonnullNo X43.here hx rfl (hb hby at_156) rfl (XS.aload X43.here hx rfl (hb hby at_159) rfl rfl k)) ?_
        show OwnGo _ _ _ _ (T43.setTop (mkF m 161 #[sI p0, sI p1, sI p2, sI (0 : Int32), sI (0 : Int32), sI (1 : Int32), sD dw, uS, sR o38, sR o39, sD (4517329193108106637 : UInt64), uS, uU] [(.ref o38)]))
        obtain ⟨cq44, kq44, qa44, qb44, qc44⟩ := isOf hZ e43 C39_o38.1
        obtain ⟨_, _, ⟨T44, L44, k44, n44⟩, -, X44, ⟨Lc44, hQ44, l44, y44, z44⟩, st44⟩ := X43.virtualBack hx (y := (⟨"com/example/bellmin/bellmin/check/CheckOptions", "strategies", "()Z"⟩ : MethodName)) (z := (⟨"com/example/bellmin/bellmin/check/CheckOptions", "strategies", "()Z"⟩ : MethodName)) hown (mvT hZ (hw _ (List.mem_of_getElem? (i := 34) rfl))) (mvT hZ (hw _ (List.mem_of_getElem? (i := 35) rfl))) (notFace_of_selects (args := #[]) (mvT hZ (hw _ (List.mem_of_getElem? (i := 37) rfl)))) (mvT hZ (hw _ (List.mem_of_getElem? (i := 37) rfl))) (mvT hZ (hw _ (List.mem_of_getElem? (i := 36) rfl))) (by decide) (backOf (W := 0) (rmGS l Z a0 hw [] o38 4517329193108106637 0 1 T39.heap n0 Z39 C39_o38) hZ (hw _ (List.mem_of_getElem? (i := 38) rfl)) (hw _ (List.mem_of_getElem? (i := 3) rfl)) (by decide) (by decide)) qa44 qc44 (g := (mkF m 161 #[sI p0, sI p1, sI p2, sI (0 : Int32), sI (0 : Int32), sI (1 : Int32), sD dw, uS, sR o38, sR o39, sD (4517329193108106637 : UInt64), uS, uU] [(.ref o38)])) rfl (by rw [hml]; rfl) (Steps.refl _) (argsL := []) (rest := []) (lenOf pd_rmGS rfl) rfl (by show 2 * 0 + _ ≤ _; exact Nat.le_of_eq rfl) (hb hby at_161) (fun _ _ => ⟨rfl, e43, (by decide : 3 + 0 ≤ _), (by decide : 12 + 0 ≤ _)⟩)
        dsimp only [Pt.U, Pt.locs, Pt.cells, Pt.slots] at X44 l44 y44 z44 st44 hQ44
        subst l44 y44 z44
        obtain ⟨rfl, N44, e44⟩ := hQ44
        refine OwnGo.pre (fun t k => st44.trans k) ?_
        show OwnGo _ _ _ _ (T44.setTop (mkF m 164 #[sI p0, sI p1, sI p2, sI (0 : Int32), sI (0 : Int32), sI (1 : Int32), sD dw, uS, sR o38, sR o39, sD (4517329193108106637 : UInt64), uS, uU] [(.int (nar .boolean 1))]))
        have M44 := Fr.app M43 N44
        refine OwnGo.pre (fun t k => XS.iload X44.here hx rfl (hb hby at_164) rfl (XS.icmpNo X44.here hx rfl (hb hby at_166) rfl (by decide) (XS.aload X44.here hx rfl (hb hby at_169) rfl rfl k))) ?_
        show OwnGo _ _ _ _ (T44.setTop (mkF m 171 #[sI p0, sI p1, sI p2, sI (0 : Int32), sI (0 : Int32), sI (1 : Int32), sD dw, uS, sR o38, sR o39, sD (4517329193108106637 : UInt64), uS, uU] [(.ref o38)]))
        obtain ⟨cq45, kq45, qa45, qb45, qc45⟩ := isOf hZ e44 C39_o38.1
        obtain ⟨_, _, ⟨T45, L45, k45, n45⟩, -, X45, ⟨Lc45, hQ45, l45, y45, z45⟩, st45⟩ := X44.virtualBack hx (y := (⟨"com/example/bellmin/bellmin/check/CheckOptions", "width", "()D"⟩ : MethodName)) (z := (⟨"com/example/bellmin/bellmin/check/CheckOptions", "width", "()D"⟩ : MethodName)) hown (mvT hZ (hw _ (List.mem_of_getElem? (i := 39) rfl))) (mvT hZ (hw _ (List.mem_of_getElem? (i := 40) rfl))) (notFace_of_selects (args := #[]) (mvT hZ (hw _ (List.mem_of_getElem? (i := 42) rfl)))) (mvT hZ (hw _ (List.mem_of_getElem? (i := 42) rfl))) (mvT hZ (hw _ (List.mem_of_getElem? (i := 41) rfl))) (by decide) (backOf (W := 0) (rmGW l Z a0 hw [] o38 4517329193108106637 0 1 T39.heap n0 Z39 C39_o38) hZ (hw _ (List.mem_of_getElem? (i := 43) rfl)) (hw _ (List.mem_of_getElem? (i := 3) rfl)) (by decide) (by decide)) qa45 qc45 (g := (mkF m 171 #[sI p0, sI p1, sI p2, sI (0 : Int32), sI (0 : Int32), sI (1 : Int32), sD dw, uS, sR o38, sR o39, sD (4517329193108106637 : UInt64), uS, uU] [(.ref o38)])) rfl (by rw [hml]; rfl) (Steps.refl _) (argsL := []) (rest := []) (lenOf pd_rmGW rfl) rfl (by show 2 * 0 + _ ≤ _; exact Nat.le_of_eq rfl) (hb hby at_171) (fun _ _ => ⟨rfl, e44, (by decide : 3 + 0 ≤ _), (by decide : 12 + 0 ≤ _)⟩)
        dsimp only [Pt.U, Pt.locs, Pt.cells, Pt.slots] at X45 l45 y45 z45 st45 hQ45
        subst l45 y45 z45
        obtain ⟨rfl, N45, e45⟩ := hQ45
        refine OwnGo.pre (fun t k => st45.trans k) ?_
        show OwnGo _ _ _ _ (T45.setTop (mkF m 174 #[sI p0, sI p1, sI p2, sI (0 : Int32), sI (0 : Int32), sI (1 : Int32), sD dw, uS, sR o38, sR o39, sD (4517329193108106637 : UInt64), uS, uU] [(.double 4517329193108106637)]))
        have M45 := Fr.app M44 N45
        refine OwnGo.pre (fun t k => XS.dload X45.here hx rfl (hb hby at_174) rfl (XS.dcmpS X45.here hx rfl (hb hby at_176) rfl rfl (XS.ifNo X45.here hx rfl (hb hby at_177) rfl (by rw [dcmpV_self own_defN]; rfl) (XS.aload X45.here hx rfl (hb hby at_180) rfl rfl k)))) ?_
        show OwnGo _ _ _ _ (T45.setTop (mkF m 182 #[sI p0, sI p1, sI p2, sI (0 : Int32), sI (0 : Int32), sI (1 : Int32), sD dw, uS, sR o38, sR o39, sD (4517329193108106637 : UInt64), uS, uU] [(.ref o38)]))
        obtain ⟨cq46, kq46, qa46, qb46, qc46⟩ := isOf hZ e45 C39_o38.1
        obtain ⟨_, _, ⟨T46, L46, k46, n46⟩, -, X46, ⟨Lc46, hQ46, l46, y46, z46⟩, st46⟩ := X45.virtualBack hx (y := (⟨"com/example/bellmin/bellmin/check/CheckOptions", "exact", "()Z"⟩ : MethodName)) (z := (⟨"com/example/bellmin/bellmin/check/CheckOptions", "exact", "()Z"⟩ : MethodName)) hown (mvT hZ (hw _ (List.mem_of_getElem? (i := 44) rfl))) (mvT hZ (hw _ (List.mem_of_getElem? (i := 45) rfl))) (notFace_of_selects (args := #[]) (mvT hZ (hw _ (List.mem_of_getElem? (i := 47) rfl)))) (mvT hZ (hw _ (List.mem_of_getElem? (i := 47) rfl))) (mvT hZ (hw _ (List.mem_of_getElem? (i := 46) rfl))) (by decide) (backOf (W := 0) (rmGE l Z a0 hw [] o38 4517329193108106637 0 1 T39.heap n0 Z39 C39_o38) hZ (hw _ (List.mem_of_getElem? (i := 48) rfl)) (hw _ (List.mem_of_getElem? (i := 3) rfl)) (by decide) (by decide)) qa46 qc46 (g := (mkF m 182 #[sI p0, sI p1, sI p2, sI (0 : Int32), sI (0 : Int32), sI (1 : Int32), sD dw, uS, sR o38, sR o39, sD (4517329193108106637 : UInt64), uS, uU] [(.ref o38)])) rfl (by rw [hml]; rfl) (Steps.refl _) (argsL := []) (rest := []) (lenOf pd_rmGE rfl) rfl (by show 2 * 0 + _ ≤ _; exact Nat.le_of_eq rfl) (hb hby at_182) (fun _ _ => ⟨rfl, e45, (by decide : 3 + 0 ≤ _), (by decide : 12 + 0 ≤ _)⟩)
        dsimp only [Pt.U, Pt.locs, Pt.cells, Pt.slots] at X46 l46 y46 z46 st46 hQ46
        subst l46 y46 z46
        obtain ⟨rfl, N46, e46⟩ := hQ46
        refine OwnGo.pre (fun t k => st46.trans k) ?_
        show OwnGo _ _ _ _ (T46.setTop (mkF m 185 #[sI p0, sI p1, sI p2, sI (0 : Int32), sI (0 : Int32), sI (1 : Int32), sD dw, uS, sR o38, sR o39, sD (4517329193108106637 : UInt64), uS, uU] [(.int (nar .boolean 0))]))
        have M46 := Fr.app M45 N46
        refine OwnGo.pre (fun t k => XS.iload X46.here hx rfl (hb hby at_185) rfl (XS.icmpNo X46.here hx rfl (hb hby at_187) rfl (by decide) (XS.iconst X46.here hx rfl (hb hby at_190) (XS.goto X46.here hx rfl (pc0 := 191) (pc' := 195) rfl (hb hby at_191) (by decide) (by decide) (XS.istore X46.here hx rfl (hb hby at_195) rfl (l' := #[sI p0, sI p1, sI p2, sI (0 : Int32), sI (0 : Int32), sI (1 : Int32), sD dw, uS, sR o38, sR o39, sD (4517329193108106637 : UInt64), uS, sI (1 : Int32)]) rfl (XS.iload X46.here hx rfl (hb hby at_197) rfl k)))))) ?_
        show OwnGo _ _ _ _ (T46.setTop (mkF m 199 #[sI p0, sI p1, sI p2, sI (0 : Int32), sI (0 : Int32), sI (1 : Int32), sD dw, uS, sR o38, sR o39, sD (4517329193108106637 : UInt64), uS, sI (1 : Int32)] [(.int (1 : Int32))]))
        exact own_retZ X46 hx hk hrt (hb hby at_199) ⟨rfl, M46⟩ (by decide) (by decide)
    · skip
      refine OwnGo.pre (fun t k => XS.ifNo X0.here hx rfl (hb hby at_15) rfl (eq_false_of_ne_true hf2) (XS.iconst X0.here hx rfl (hb hby at_18) (XS.goto X0.here hx rfl (pc0 := 19) (pc' := 23) rfl (hb hby at_19) (by decide) (by decide) (XS.istore X0.here hx rfl (hb hby at_23) rfl (l' := #[sI p0, sI p1, sI p2, sI (0 : Int32), sI (1 : Int32), uU, uU, uU, uU, uU, uU, uU, uU]) rfl (XS.iloadN X0.here hx rfl (hb hby at_25) rfl (XS.iconst X0.here hx rfl (hb hby at_26) (own_iand X0.here hx rfl (hb hby at_27) rfl rfl k))))))) ?_
      show OwnGo _ _ _ _ (s₁.setTop (mkF m 28 #[sI p0, sI p1, sI p2, sI (0 : Int32), sI (1 : Int32), uU, uU, uU, uU, uU, uU, uU, uU] [(.int (p2 &&& (4 : Int32)))]))
      by_cases hf4 : ifCond.holds .eq (p2 &&& (4 : Int32)) = true
      · skip
        refine OwnGo.pre (fun t k => XS.ifYes X0.here hx rfl (pc0 := 28) (pc' := 35) rfl (hb hby at_28) rfl hf4 (by decide) (by decide) (XS.iconst X0.here hx rfl (hb hby at_35) (XS.istore X0.here hx rfl (hb hby at_36) rfl (l' := #[sI p0, sI p1, sI p2, sI (0 : Int32), sI (1 : Int32), sI (0 : Int32), uU, uU, uU, uU, uU, uU, uU]) rfl (XS.iloadN X0.here hx rfl (hb hby at_38) rfl (XS.i2dS X0.here hx rfl (hb hby at_39) rfl rfl (XS.iloadN X0.here hx rfl (hb hby at_40) rfl (own_ldcI X0 hx hown (mvT hZ (hw _ (List.mem_of_getElem? (i := 0) rfl))) rfl (hb hby at_41) (own_iand X0.here hx rfl (hb hby at_43) rfl rfl k)))))))) ?_
        show OwnGo _ _ _ _ (s₁.setTop (mkF m 44 #[sI p0, sI p1, sI p2, sI (0 : Int32), sI (1 : Int32), sI (0 : Int32), uU, uU, uU, uU, uU, uU, uU] [(.int (p1 &&& (65535 : Int32))), (.double (FP.i2d p0))]))
        obtain ⟨mb, hmb⟩ : ∃ v, (p1 &&& (65535 : Int32)) + (1 : Int32) = v := ⟨_, rfl⟩
        have Hb : mb ≠ 0 := fun q => by have q1 := Jvm.Kit.i32_mask p1 65535 (k := 16) (by decide) (by decide); have q2 : (1 : Int32).toInt = 1 := rfl; have q3 : ((p1 &&& (65535 : Int32)) + 1).toInt = (p1 &&& (65535 : Int32)).toInt + (1 : Int32).toInt := Jvm.Kit.i32_add (by omega) (by omega); rw [hmb, q] at q3; have q4 : (0 : Int32).toInt = 0 := rfl; omega
        have nw0 : Jvm.Free.Fl.NoNaN64 (FP.ddiv (FP.i2d p0) (FP.i2d mb)) := Jvm.Free.Fl.ddiv_out (Jvm.Free.Fl.i2d_fin p0).noNaN (Jvm.Free.Fl.i2d_fin mb) (Jvm.Free.Fl.i2d_nz Hb)
        obtain ⟨dw, hdw⟩ : ∃ v, FP.ddiv (FP.i2d p0) (FP.i2d mb) = v := ⟨_, rfl⟩
        have nw : Jvm.Free.Fl.NoNaN64 dw := hdw ▸ nw0
        refine OwnGo.pre (fun t k => XS.iconst X0.here hx rfl (hb hby at_44) (own_iadd X0.here hx rfl (hb hby at_45) rfl hmb (XS.i2dS X0.here hx rfl (hb hby at_46) rfl rfl (XS.ddivS X0.here hx rfl (hb hby at_47) rfl nw0 hdw (XS.dstore X0.here hx rfl (hb hby at_48) rfl (l' := #[sI p0, sI p1, sI p2, sI (0 : Int32), sI (1 : Int32), sI (0 : Int32), sD dw, uS, uU, uU, uU, uU, uU]) rfl k))))) ?_
        show OwnGo _ _ _ _ (s₁.setTop (mkF m 50 #[sI p0, sI p1, sI p2, sI (0 : Int32), sI (1 : Int32), sI (0 : Int32), sD dw, uS, uU, uU, uU, uU, uU] []))
        obtain ⟨T47, h47, X47, e47, E47, A47, D47, -, st47⟩ := newO X0 hx hZ hown (hw _ (List.mem_of_getElem? (i := 1) rfl)) (hw _ (List.mem_of_getElem? (i := 2) rfl)) (hw _ (List.mem_of_getElem? (i := 3) rfl)) e0 (g := (mkF m 50 #[sI p0, sI p1, sI p2, sI (0 : Int32), sI (1 : Int32), sI (0 : Int32), sD dw, uS, uU, uU, uU, uU, uU] [])) rfl (hb hby at_50) (by decide) (by decide)
        obtain ⟨a47, g47⟩ : ∃ z, z = h0.size := ⟨_, rfl⟩
        rw [← g47] at A47 D47 st47
        have G47 : n0 ≤ a47 := Nat.le_trans Z0 (Nat.le_of_eq g47.symm)
        have Z47 : n0 ≤ h47.size := Nat.le_trans Z0 E47.1
        refine OwnGo.pre (fun t k => st47 t k) ?_
        show OwnGo _ _ _ _ (T47.setTop (mkF m 53 #[sI p0, sI p1, sI p2, sI (0 : Int32), sI (1 : Int32), sI (0 : Int32), sD dw, uS, uU, uU, uU, uU, uU] [(.ref a47)]))
        refine OwnGo.pre (fun t k => XS.dup X47.here hx rfl (hb hby at_53) rfl rfl k) ?_
        show OwnGo _ _ _ _ (T47.setTop (mkF m 54 #[sI p0, sI p1, sI p2, sI (0 : Int32), sI (1 : Int32), sI (0 : Int32), sD dw, uS, uU, uU, uU, uU, uU] [(.ref a47), (.ref a47)]))
        obtain ⟨_, _, ⟨T48, L48, k48, n48⟩, -, X48, ⟨Lc48, hQ48, l48, y48, z48⟩, st48⟩ := X47.specialBack hx (y := (⟨"com/example/bellmin/bellmin/check/CheckOptions", "<init>", "()V"⟩ : MethodName)) rfl hown (mvT hZ (hw _ (List.mem_of_getElem? (i := 4) rfl))) (mvT hZ (hw _ (List.mem_of_getElem? (i := 5) rfl))) (mvT hZ (hw _ (List.mem_of_getElem? (i := 6) rfl))) (by decide) (backOf (W := 1) (rmI0 l Z a0 hw [] a47 h47 n0 Z47 A47 (D47 (Or.inr (hw _ (List.mem_of_getElem? (i := 15) rfl))) (ty := .double) (by decide)) (D47 (Or.inr (hw _ (List.mem_of_getElem? (i := 17) rfl))) (ty := .boolean) (by decide)) (D47 (Or.inr (hw _ (List.mem_of_getElem? (i := 19) rfl))) (ty := .boolean) (by decide)) (D47 (Or.inr (hw _ (List.mem_of_getElem? (i := 21) rfl))) (ty := (.object "java/nio/file/Path")) (by decide)) G47) hZ (hw _ (List.mem_of_getElem? (i := 6) rfl)) (hw _ (List.mem_of_getElem? (i := 3) rfl)) (by decide) (by decide)) (g := (mkF m 54 #[sI p0, sI p1, sI p2, sI (0 : Int32), sI (1 : Int32), sI (0 : Int32), sD dw, uS, uU, uU, uU, uU, uU] [(.ref a47), (.ref a47)])) rfl (by rw [hml]; rfl) (Steps.refl _) (a := a47) (argsL := []) (rest := [(.ref a47)]) (lenOf pd_rmI0 rfl) rfl (by show 2 * 0 + _ ≤ _; exact Nat.le_of_eq rfl) (hb hby at_54) (fun _ _ => ⟨rfl, e47, (by decide : 1 + 0 ≤ _), (by decide : 4 + 0 ≤ _)⟩)
        dsimp only [Pt.U, Pt.locs, Pt.cells, Pt.slots] at X48 l48 y48 z48 st48 hQ48
        subst l48 y48 z48
        obtain ⟨rfl, N48, K48, O48⟩ := hQ48
        refine OwnGo.pre (fun t k => st48.trans k) ?_
        show OwnGo _ _ _ _ (T48.setTop (mkF m 57 #[sI p0, sI p1, sI p2, sI (0 : Int32), sI (1 : Int32), sI (0 : Int32), sD dw, uS, uU, uU, uU, uU, uU] [(.ref a47)]))
        have M48 := Fr.app N0 N48
        have Z48 : n0 ≤ T48.heap.size := Nat.le_trans Z47 K48.1
        refine OwnGo.pre (fun t k => XS.astore X48.here hx rfl (hb hby at_57) rfl rfl (l' := #[sI p0, sI p1, sI p2, sI (0 : Int32), sI (1 : Int32), sI (0 : Int32), sD dw, uS, sR a47, uU, uU, uU, uU]) rfl (XS.iloadN X48.here hx rfl (hb hby at_59) rfl (XS.ifYes X48.here hx rfl (pc0 := 60) (pc' := 72) rfl (hb hby at_60) rfl rfl (by decide) (by decide) (XS.iload X48.here hx rfl (hb hby at_72) rfl (XS.ifNo X48.here hx rfl (hb hby at_74) rfl rfl (XS.aload X48.here hx rfl (hb hby at_77) rfl rfl k)))))) ?_
        show OwnGo _ _ _ _ (T48.setTop (mkF m 79 #[sI p0, sI p1, sI p2, sI (0 : Int32), sI (1 : Int32), sI (0 : Int32), sD dw, uS, sR a47, uU, uU, uU, uU] [(.ref a47)]))
        obtain ⟨cq49, kq49, qa49, qb49, qc49⟩ := isOf hZ rfl O48.1
        obtain ⟨_, _, ⟨T49, L49, k49, n49⟩, -, X49, ⟨Lc49, hQ49, l49, y49, z49⟩, st49⟩ := X48.virtualBack hx (y := (⟨"com/example/bellmin/bellmin/check/CheckOptions", "withExact", "()Lcom/example/bellmin/bellmin/check/CheckOptions;"⟩ : MethodName)) (z := (⟨"com/example/bellmin/bellmin/check/CheckOptions", "withExact", "()Lcom/example/bellmin/bellmin/check/CheckOptions;"⟩ : MethodName)) hown (mvT hZ (hw _ (List.mem_of_getElem? (i := 22) rfl))) (mvT hZ (hw _ (List.mem_of_getElem? (i := 23) rfl))) (notFace_of_selects (args := #[]) (mvT hZ (hw _ (List.mem_of_getElem? (i := 25) rfl)))) (mvT hZ (hw _ (List.mem_of_getElem? (i := 25) rfl))) (mvT hZ (hw _ (List.mem_of_getElem? (i := 24) rfl))) (by decide) (backOf (W := 0) (rmWE l Z a0 hw [] a47 4517329193108106637 0 0 T48.heap n0 Z48 O48 (Or.inl rfl) (Or.inl rfl)) hZ (hw _ (List.mem_of_getElem? (i := 26) rfl)) (hw _ (List.mem_of_getElem? (i := 3) rfl)) (by decide) (by decide)) qa49 qc49 (g := (mkF m 79 #[sI p0, sI p1, sI p2, sI (0 : Int32), sI (1 : Int32), sI (0 : Int32), sD dw, uS, sR a47, uU, uU, uU, uU] [(.ref a47)])) rfl (by rw [hml]; rfl) (Steps.refl _) (argsL := []) (rest := []) (lenOf pd_rmWE rfl) rfl (by show 2 * 0 + _ ≤ _; exact Nat.le_of_eq rfl) (hb hby at_79) (fun _ _ => ⟨rfl, rfl, (by decide : 1 + 1 ≤ _), (by decide : 4 + 4 ≤ _)⟩)
        dsimp only [Pt.U, Pt.locs, Pt.cells, Pt.slots] at X49 l49 y49 z49 st49 hQ49
        subst l49 y49 z49
        obtain ⟨o49, rfl, g49, N49, K49, O49⟩ := hQ49
        refine OwnGo.pre (fun t k => st49.trans k) ?_
        show OwnGo _ _ _ _ (T49.setTop (mkF m 82 #[sI p0, sI p1, sI p2, sI (0 : Int32), sI (1 : Int32), sI (0 : Int32), sD dw, uS, sR a47, uU, uU, uU, uU] [(.ref o49)]))
        have M49 := Fr.app M48 N49
        have Z49 : n0 ≤ T49.heap.size := Nat.le_trans Z48 K49.1
        have C49_a47 := O48.kp K49 nin0
        refine OwnGo.pre (fun t k => XS.astore X49.here hx rfl (hb hby at_82) rfl rfl (l' := #[sI p0, sI p1, sI p2, sI (0 : Int32), sI (1 : Int32), sI (0 : Int32), sD dw, uS, sR o49, uU, uU, uU, uU]) rfl (XS.iload X49.here hx rfl (hb hby at_84) rfl (XS.ifYes X49.here hx rfl (pc0 := 86) (pc' := 96) rfl (hb hby at_86) rfl rfl (by decide) (by decide) (XS.aload X49.here hx rfl (hb hby at_96) rfl rfl k)))) ?_
        show OwnGo _ _ _ _ (T49.setTop (mkF m 98 #[sI p0, sI p1, sI p2, sI (0 : Int32), sI (1 : Int32), sI (0 : Int32), sD dw, uS, sR o49, uU, uU, uU, uU] [(.ref o49)]))
        obtain ⟨cq50, kq50, qa50, qb50, qc50⟩ := isOf hZ rfl O49.1
        obtain ⟨_, _, ⟨T50, L50, k50, n50⟩, -, X50, ⟨Lc50, hQ50, l50, y50, z50⟩, st50⟩ := X49.virtualBack hx (y := (⟨"com/example/bellmin/bellmin/check/CheckOptions", "withStrategies", "()Lcom/example/bellmin/bellmin/check/CheckOptions;"⟩ : MethodName)) (z := (⟨"com/example/bellmin/bellmin/check/CheckOptions", "withStrategies", "()Lcom/example/bellmin/bellmin/check/CheckOptions;"⟩ : MethodName)) hown (mvT hZ (hw _ (List.mem_of_getElem? (i := 28) rfl))) (mvT hZ (hw _ (List.mem_of_getElem? (i := 29) rfl))) (notFace_of_selects (args := #[]) (mvT hZ (hw _ (List.mem_of_getElem? (i := 31) rfl)))) (mvT hZ (hw _ (List.mem_of_getElem? (i := 31) rfl))) (mvT hZ (hw _ (List.mem_of_getElem? (i := 30) rfl))) (by decide) (backOf (W := 0) (rmWS l Z a0 hw [] o49 4517329193108106637 1 0 T49.heap n0 Z49 O49 (Or.inr rfl) (Or.inl rfl)) hZ (hw _ (List.mem_of_getElem? (i := 32) rfl)) (hw _ (List.mem_of_getElem? (i := 3) rfl)) (by decide) (by decide)) qa50 qc50 (g := (mkF m 98 #[sI p0, sI p1, sI p2, sI (0 : Int32), sI (1 : Int32), sI (0 : Int32), sD dw, uS, sR o49, uU, uU, uU, uU] [(.ref o49)])) rfl (by rw [hml]; rfl) (Steps.refl _) (argsL := []) (rest := []) (lenOf pd_rmWS rfl) rfl (by show 2 * 0 + _ ≤ _; exact Nat.le_of_eq rfl) (hb hby at_98) (fun _ _ => ⟨rfl, rfl, (by decide : 2 + 1 ≤ _), (by decide : 8 + 4 ≤ _)⟩)
        dsimp only [Pt.U, Pt.locs, Pt.cells, Pt.slots] at X50 l50 y50 z50 st50 hQ50
        subst l50 y50 z50
        obtain ⟨o50, rfl, g50, N50, K50, O50⟩ := hQ50
        refine OwnGo.pre (fun t k => st50.trans k) ?_
        show OwnGo _ _ _ _ (T50.setTop (mkF m 101 #[sI p0, sI p1, sI p2, sI (0 : Int32), sI (1 : Int32), sI (0 : Int32), sD dw, uS, sR o49, uU, uU, uU, uU] [(.ref o50)]))
        have M50 := Fr.app M49 N50
        have Z50 : n0 ≤ T50.heap.size := Nat.le_trans Z49 K50.1
        have C50_a47 := C49_a47.kp K50 nin0
        have C50_o49 := O49.kp K50 nin0
        refine OwnGo.pre (fun t k => XS.astore X50.here hx rfl (hb hby at_101) rfl rfl (l' := #[sI p0, sI p1, sI p2, sI (0 : Int32), sI (1 : Int32), sI (0 : Int32), sD dw, uS, sR o49, sR o50, uU, uU, uU]) rfl (XS.iloadN X50.here hx rfl (hb hby at_103) rfl (XS.ifYes X50.here hx rfl (pc0 := 104) (pc' := 112) rfl (hb hby at_104) rfl rfl (by decide) (by decide) (own_ldcD X50 hx hown (mvT hZ (hw _ (List.mem_of_getElem? (i := 33) rfl))) rfl (hb hby at_112) (XS.dstore X50.here hx rfl (hb hby at_115) rfl (l' := #[sI p0, sI p1, sI p2, sI (0 : Int32), sI (1 : Int32), sI (0 : Int32), sD dw, uS, sR o49, sR o50, sD (4517329193108106637 : UInt64), uS, uU]) rfl (XS.aload X50.here hx rfl (hb hby at_117) rfl rfl (XS.ifnullNo X50.here hx rfl (hb hby at_119) rfl (XS.aload X50.here hx rfl (hb hby at_122) rfl rfl k)))))))) ?_
        show OwnGo _ _ _ _ (T50.setTop (mkF m 124 #[sI p0, sI p1, sI p2, sI (0 : Int32), sI (1 : Int32), sI (0 : Int32), sD dw, uS, sR o49, sR o50, sD (4517329193108106637 : UInt64), uS, uU] [(.ref o50)]))
        obtain ⟨cq51, kq51, qa51, qb51, qc51⟩ := isOf hZ rfl O50.1
        obtain ⟨_, _, ⟨T51, L51, k51, n51⟩, -, X51, ⟨Lc51, hQ51, l51, y51, z51⟩, st51⟩ := X50.virtualBack hx (y := (⟨"com/example/bellmin/bellmin/check/CheckOptions", "strategies", "()Z"⟩ : MethodName)) (z := (⟨"com/example/bellmin/bellmin/check/CheckOptions", "strategies", "()Z"⟩ : MethodName)) hown (mvT hZ (hw _ (List.mem_of_getElem? (i := 34) rfl))) (mvT hZ (hw _ (List.mem_of_getElem? (i := 35) rfl))) (notFace_of_selects (args := #[]) (mvT hZ (hw _ (List.mem_of_getElem? (i := 37) rfl)))) (mvT hZ (hw _ (List.mem_of_getElem? (i := 37) rfl))) (mvT hZ (hw _ (List.mem_of_getElem? (i := 36) rfl))) (by decide) (backOf (W := 0) (rmGS l Z a0 hw [] o50 4517329193108106637 1 1 T50.heap n0 Z50 O50) hZ (hw _ (List.mem_of_getElem? (i := 38) rfl)) (hw _ (List.mem_of_getElem? (i := 3) rfl)) (by decide) (by decide)) qa51 qc51 (g := (mkF m 124 #[sI p0, sI p1, sI p2, sI (0 : Int32), sI (1 : Int32), sI (0 : Int32), sD dw, uS, sR o49, sR o50, sD (4517329193108106637 : UInt64), uS, uU] [(.ref o50)])) rfl (by rw [hml]; rfl) (Steps.refl _) (argsL := []) (rest := []) (lenOf pd_rmGS rfl) rfl (by show 2 * 0 + _ ≤ _; exact Nat.le_of_eq rfl) (hb hby at_124) (fun _ _ => ⟨rfl, rfl, (by decide : 3 + 0 ≤ _), (by decide : 12 + 0 ≤ _)⟩)
        dsimp only [Pt.U, Pt.locs, Pt.cells, Pt.slots] at X51 l51 y51 z51 st51 hQ51
        subst l51 y51 z51
        obtain ⟨rfl, N51, e51⟩ := hQ51
        refine OwnGo.pre (fun t k => st51.trans k) ?_
        show OwnGo _ _ _ _ (T51.setTop (mkF m 127 #[sI p0, sI p1, sI p2, sI (0 : Int32), sI (1 : Int32), sI (0 : Int32), sD dw, uS, sR o49, sR o50, sD (4517329193108106637 : UInt64), uS, uU] [(.int (nar .boolean 1))]))
        have M51 := Fr.app M50 N51
        refine OwnGo.pre (fun t k => XS.ifNo X51.here hx rfl (hb hby at_127) rfl (by decide) (XS.aload X51.here hx rfl (hb hby at_130) rfl rfl k)) ?_
        show OwnGo _ _ _ _ (T51.setTop (mkF m 132 #[sI p0, sI p1, sI p2, sI (0 : Int32), sI (1 : Int32), sI (0 : Int32), sD dw, uS, sR o49, sR o50, sD (4517329193108106637 : UInt64), uS, uU] [(.ref o50)]))
        obtain ⟨cq52, kq52, qa52, qb52, qc52⟩ := isOf hZ e51 O50.1
        obtain ⟨_, _, ⟨T52, L52, k52, n52⟩, -, X52, ⟨Lc52, hQ52, l52, y52, z52⟩, st52⟩ := X51.virtualBack hx (y := (⟨"com/example/bellmin/bellmin/check/CheckOptions", "width", "()D"⟩ : MethodName)) (z := (⟨"com/example/bellmin/bellmin/check/CheckOptions", "width", "()D"⟩ : MethodName)) hown (mvT hZ (hw _ (List.mem_of_getElem? (i := 39) rfl))) (mvT hZ (hw _ (List.mem_of_getElem? (i := 40) rfl))) (notFace_of_selects (args := #[]) (mvT hZ (hw _ (List.mem_of_getElem? (i := 42) rfl)))) (mvT hZ (hw _ (List.mem_of_getElem? (i := 42) rfl))) (mvT hZ (hw _ (List.mem_of_getElem? (i := 41) rfl))) (by decide) (backOf (W := 0) (rmGW l Z a0 hw [] o50 4517329193108106637 1 1 T50.heap n0 Z50 O50) hZ (hw _ (List.mem_of_getElem? (i := 43) rfl)) (hw _ (List.mem_of_getElem? (i := 3) rfl)) (by decide) (by decide)) qa52 qc52 (g := (mkF m 132 #[sI p0, sI p1, sI p2, sI (0 : Int32), sI (1 : Int32), sI (0 : Int32), sD dw, uS, sR o49, sR o50, sD (4517329193108106637 : UInt64), uS, uU] [(.ref o50)])) rfl (by rw [hml]; rfl) (Steps.refl _) (argsL := []) (rest := []) (lenOf pd_rmGW rfl) rfl (by show 2 * 0 + _ ≤ _; exact Nat.le_of_eq rfl) (hb hby at_132) (fun _ _ => ⟨rfl, e51, (by decide : 3 + 0 ≤ _), (by decide : 12 + 0 ≤ _)⟩)
        dsimp only [Pt.U, Pt.locs, Pt.cells, Pt.slots] at X52 l52 y52 z52 st52 hQ52
        subst l52 y52 z52
        obtain ⟨rfl, N52, e52⟩ := hQ52
        refine OwnGo.pre (fun t k => st52.trans k) ?_
        show OwnGo _ _ _ _ (T52.setTop (mkF m 135 #[sI p0, sI p1, sI p2, sI (0 : Int32), sI (1 : Int32), sI (0 : Int32), sD dw, uS, sR o49, sR o50, sD (4517329193108106637 : UInt64), uS, uU] [(.double 4517329193108106637)]))
        have M52 := Fr.app M51 N52
        refine OwnGo.pre (fun t k => XS.dload X52.here hx rfl (hb hby at_135) rfl (XS.dcmpS X52.here hx rfl (hb hby at_137) rfl rfl (XS.ifNo X52.here hx rfl (hb hby at_138) rfl (by rw [dcmpV_self own_defN]; rfl) (XS.aload X52.here hx rfl (hb hby at_141) rfl rfl k)))) ?_
        show OwnGo _ _ _ _ (T52.setTop (mkF m 143 #[sI p0, sI p1, sI p2, sI (0 : Int32), sI (1 : Int32), sI (0 : Int32), sD dw, uS, sR o49, sR o50, sD (4517329193108106637 : UInt64), uS, uU] [(.ref o50)]))
        obtain ⟨cq53, kq53, qa53, qb53, qc53⟩ := isOf hZ e52 O50.1
        obtain ⟨_, _, ⟨T53, L53, k53, n53⟩, -, X53, ⟨Lc53, hQ53, l53, y53, z53⟩, st53⟩ := X52.virtualBack hx (y := (⟨"com/example/bellmin/bellmin/check/CheckOptions", "exact", "()Z"⟩ : MethodName)) (z := (⟨"com/example/bellmin/bellmin/check/CheckOptions", "exact", "()Z"⟩ : MethodName)) hown (mvT hZ (hw _ (List.mem_of_getElem? (i := 44) rfl))) (mvT hZ (hw _ (List.mem_of_getElem? (i := 45) rfl))) (notFace_of_selects (args := #[]) (mvT hZ (hw _ (List.mem_of_getElem? (i := 47) rfl)))) (mvT hZ (hw _ (List.mem_of_getElem? (i := 47) rfl))) (mvT hZ (hw _ (List.mem_of_getElem? (i := 46) rfl))) (by decide) (backOf (W := 0) (rmGE l Z a0 hw [] o50 4517329193108106637 1 1 T50.heap n0 Z50 O50) hZ (hw _ (List.mem_of_getElem? (i := 48) rfl)) (hw _ (List.mem_of_getElem? (i := 3) rfl)) (by decide) (by decide)) qa53 qc53 (g := (mkF m 143 #[sI p0, sI p1, sI p2, sI (0 : Int32), sI (1 : Int32), sI (0 : Int32), sD dw, uS, sR o49, sR o50, sD (4517329193108106637 : UInt64), uS, uU] [(.ref o50)])) rfl (by rw [hml]; rfl) (Steps.refl _) (argsL := []) (rest := []) (lenOf pd_rmGE rfl) rfl (by show 2 * 0 + _ ≤ _; exact Nat.le_of_eq rfl) (hb hby at_143) (fun _ _ => ⟨rfl, e52, (by decide : 3 + 0 ≤ _), (by decide : 12 + 0 ≤ _)⟩)
        dsimp only [Pt.U, Pt.locs, Pt.cells, Pt.slots] at X53 l53 y53 z53 st53 hQ53
        subst l53 y53 z53
        obtain ⟨rfl, N53, e53⟩ := hQ53
        refine OwnGo.pre (fun t k => st53.trans k) ?_
        show OwnGo _ _ _ _ (T53.setTop (mkF m 146 #[sI p0, sI p1, sI p2, sI (0 : Int32), sI (1 : Int32), sI (0 : Int32), sD dw, uS, sR o49, sR o50, sD (4517329193108106637 : UInt64), uS, uU] [(.int (nar .boolean 1))]))
        have M53 := Fr.app M52 N53
        refine OwnGo.pre (fun t k => XS.iload X53.here hx rfl (hb hby at_146) rfl (XS.icmpNo X53.here hx rfl (hb hby at_148) rfl (by decide) (XS.aload X53.here hx rfl (hb hby at_151) rfl rfl k))) ?_
        show OwnGo _ _ _ _ (T53.setTop (mkF m 153 #[sI p0, sI p1, sI p2, sI (0 : Int32), sI (1 : Int32), sI (0 : Int32), sD dw, uS, sR o49, sR o50, sD (4517329193108106637 : UInt64), uS, uU] [(.ref o50)]))
        obtain ⟨cq54, kq54, qa54, qb54, qc54⟩ := isOf hZ e53 O50.1
        obtain ⟨_, _, ⟨T54, L54, k54, n54⟩, -, X54, ⟨Lc54, hQ54, l54, y54, z54⟩, st54⟩ := X53.virtualBack hx (y := (⟨"com/example/bellmin/bellmin/check/CheckOptions", "applied", "()Ljava/nio/file/Path;"⟩ : MethodName)) (z := (⟨"com/example/bellmin/bellmin/check/CheckOptions", "applied", "()Ljava/nio/file/Path;"⟩ : MethodName)) hown (mvT hZ (hw _ (List.mem_of_getElem? (i := 49) rfl))) (mvT hZ (hw _ (List.mem_of_getElem? (i := 50) rfl))) (notFace_of_selects (args := #[]) (mvT hZ (hw _ (List.mem_of_getElem? (i := 52) rfl)))) (mvT hZ (hw _ (List.mem_of_getElem? (i := 52) rfl))) (mvT hZ (hw _ (List.mem_of_getElem? (i := 51) rfl))) (by decide) (backOf (W := 0) (rmGA l Z a0 hw [] o50 4517329193108106637 1 1 T50.heap n0 Z50 O50) hZ (hw _ (List.mem_of_getElem? (i := 53) rfl)) (hw _ (List.mem_of_getElem? (i := 3) rfl)) (by decide) (by decide)) qa54 qc54 (g := (mkF m 153 #[sI p0, sI p1, sI p2, sI (0 : Int32), sI (1 : Int32), sI (0 : Int32), sD dw, uS, sR o49, sR o50, sD (4517329193108106637 : UInt64), uS, uU] [(.ref o50)])) rfl (by rw [hml]; rfl) (Steps.refl _) (argsL := []) (rest := []) (lenOf pd_rmGA rfl) rfl (by show 2 * 0 + _ ≤ _; exact Nat.le_of_eq rfl) (hb hby at_153) (fun _ _ => ⟨rfl, e53, (by decide : 3 + 0 ≤ _), (by decide : 12 + 0 ≤ _)⟩)
        dsimp only [Pt.U, Pt.locs, Pt.cells, Pt.slots] at X54 l54 y54 z54 st54 hQ54
        subst l54 y54 z54
        obtain ⟨rfl, N54, e54⟩ := hQ54
        refine OwnGo.pre (fun t k => st54.trans k) ?_
        show OwnGo _ _ _ _ (T54.setTop (mkF m 156 #[sI p0, sI p1, sI p2, sI (0 : Int32), sI (1 : Int32), sI (0 : Int32), sD dw, uS, sR o49, sR o50, sD (4517329193108106637 : UInt64), uS, uU] [.null]))
        have M54 := Fr.app M53 N54
        refine OwnGo.pre (fun t k => XT.ifnonnullNo X54.here hx rfl (hb hby at_156) rfl (XS.aload X54.here hx rfl (hb hby at_159) rfl rfl k)) ?_
        show OwnGo _ _ _ _ (T54.setTop (mkF m 161 #[sI p0, sI p1, sI p2, sI (0 : Int32), sI (1 : Int32), sI (0 : Int32), sD dw, uS, sR o49, sR o50, sD (4517329193108106637 : UInt64), uS, uU] [(.ref o49)]))
        obtain ⟨cq55, kq55, qa55, qb55, qc55⟩ := isOf hZ e54 C50_o49.1
        obtain ⟨_, _, ⟨T55, L55, k55, n55⟩, -, X55, ⟨Lc55, hQ55, l55, y55, z55⟩, st55⟩ := X54.virtualBack hx (y := (⟨"com/example/bellmin/bellmin/check/CheckOptions", "strategies", "()Z"⟩ : MethodName)) (z := (⟨"com/example/bellmin/bellmin/check/CheckOptions", "strategies", "()Z"⟩ : MethodName)) hown (mvT hZ (hw _ (List.mem_of_getElem? (i := 34) rfl))) (mvT hZ (hw _ (List.mem_of_getElem? (i := 35) rfl))) (notFace_of_selects (args := #[]) (mvT hZ (hw _ (List.mem_of_getElem? (i := 37) rfl)))) (mvT hZ (hw _ (List.mem_of_getElem? (i := 37) rfl))) (mvT hZ (hw _ (List.mem_of_getElem? (i := 36) rfl))) (by decide) (backOf (W := 0) (rmGS l Z a0 hw [] o49 4517329193108106637 1 0 T50.heap n0 Z50 C50_o49) hZ (hw _ (List.mem_of_getElem? (i := 38) rfl)) (hw _ (List.mem_of_getElem? (i := 3) rfl)) (by decide) (by decide)) qa55 qc55 (g := (mkF m 161 #[sI p0, sI p1, sI p2, sI (0 : Int32), sI (1 : Int32), sI (0 : Int32), sD dw, uS, sR o49, sR o50, sD (4517329193108106637 : UInt64), uS, uU] [(.ref o49)])) rfl (by rw [hml]; rfl) (Steps.refl _) (argsL := []) (rest := []) (lenOf pd_rmGS rfl) rfl (by show 2 * 0 + _ ≤ _; exact Nat.le_of_eq rfl) (hb hby at_161) (fun _ _ => ⟨rfl, e54, (by decide : 3 + 0 ≤ _), (by decide : 12 + 0 ≤ _)⟩)
        dsimp only [Pt.U, Pt.locs, Pt.cells, Pt.slots] at X55 l55 y55 z55 st55 hQ55
        subst l55 y55 z55
        obtain ⟨rfl, N55, e55⟩ := hQ55
        refine OwnGo.pre (fun t k => st55.trans k) ?_
        show OwnGo _ _ _ _ (T55.setTop (mkF m 164 #[sI p0, sI p1, sI p2, sI (0 : Int32), sI (1 : Int32), sI (0 : Int32), sD dw, uS, sR o49, sR o50, sD (4517329193108106637 : UInt64), uS, uU] [(.int (nar .boolean 0))]))
        have M55 := Fr.app M54 N55
        refine OwnGo.pre (fun t k => XS.iload X55.here hx rfl (hb hby at_164) rfl (XS.icmpNo X55.here hx rfl (hb hby at_166) rfl (by decide) (XS.aload X55.here hx rfl (hb hby at_169) rfl rfl k))) ?_
        show OwnGo _ _ _ _ (T55.setTop (mkF m 171 #[sI p0, sI p1, sI p2, sI (0 : Int32), sI (1 : Int32), sI (0 : Int32), sD dw, uS, sR o49, sR o50, sD (4517329193108106637 : UInt64), uS, uU] [(.ref o49)]))
        obtain ⟨cq56, kq56, qa56, qb56, qc56⟩ := isOf hZ e55 C50_o49.1
        obtain ⟨_, _, ⟨T56, L56, k56, n56⟩, -, X56, ⟨Lc56, hQ56, l56, y56, z56⟩, st56⟩ := X55.virtualBack hx (y := (⟨"com/example/bellmin/bellmin/check/CheckOptions", "width", "()D"⟩ : MethodName)) (z := (⟨"com/example/bellmin/bellmin/check/CheckOptions", "width", "()D"⟩ : MethodName)) hown (mvT hZ (hw _ (List.mem_of_getElem? (i := 39) rfl))) (mvT hZ (hw _ (List.mem_of_getElem? (i := 40) rfl))) (notFace_of_selects (args := #[]) (mvT hZ (hw _ (List.mem_of_getElem? (i := 42) rfl)))) (mvT hZ (hw _ (List.mem_of_getElem? (i := 42) rfl))) (mvT hZ (hw _ (List.mem_of_getElem? (i := 41) rfl))) (by decide) (backOf (W := 0) (rmGW l Z a0 hw [] o49 4517329193108106637 1 0 T50.heap n0 Z50 C50_o49) hZ (hw _ (List.mem_of_getElem? (i := 43) rfl)) (hw _ (List.mem_of_getElem? (i := 3) rfl)) (by decide) (by decide)) qa56 qc56 (g := (mkF m 171 #[sI p0, sI p1, sI p2, sI (0 : Int32), sI (1 : Int32), sI (0 : Int32), sD dw, uS, sR o49, sR o50, sD (4517329193108106637 : UInt64), uS, uU] [(.ref o49)])) rfl (by rw [hml]; rfl) (Steps.refl _) (argsL := []) (rest := []) (lenOf pd_rmGW rfl) rfl (by show 2 * 0 + _ ≤ _; exact Nat.le_of_eq rfl) (hb hby at_171) (fun _ _ => ⟨rfl, e55, (by decide : 3 + 0 ≤ _), (by decide : 12 + 0 ≤ _)⟩)
        dsimp only [Pt.U, Pt.locs, Pt.cells, Pt.slots] at X56 l56 y56 z56 st56 hQ56
        subst l56 y56 z56
        obtain ⟨rfl, N56, e56⟩ := hQ56
        refine OwnGo.pre (fun t k => st56.trans k) ?_
        show OwnGo _ _ _ _ (T56.setTop (mkF m 174 #[sI p0, sI p1, sI p2, sI (0 : Int32), sI (1 : Int32), sI (0 : Int32), sD dw, uS, sR o49, sR o50, sD (4517329193108106637 : UInt64), uS, uU] [(.double 4517329193108106637)]))
        have M56 := Fr.app M55 N56
        refine OwnGo.pre (fun t k => XS.dload X56.here hx rfl (hb hby at_174) rfl (XS.dcmpS X56.here hx rfl (hb hby at_176) rfl rfl (XS.ifNo X56.here hx rfl (hb hby at_177) rfl (by rw [dcmpV_self own_defN]; rfl) (XS.aload X56.here hx rfl (hb hby at_180) rfl rfl k)))) ?_
        show OwnGo _ _ _ _ (T56.setTop (mkF m 182 #[sI p0, sI p1, sI p2, sI (0 : Int32), sI (1 : Int32), sI (0 : Int32), sD dw, uS, sR o49, sR o50, sD (4517329193108106637 : UInt64), uS, uU] [(.ref o49)]))
        obtain ⟨cq57, kq57, qa57, qb57, qc57⟩ := isOf hZ e56 C50_o49.1
        obtain ⟨_, _, ⟨T57, L57, k57, n57⟩, -, X57, ⟨Lc57, hQ57, l57, y57, z57⟩, st57⟩ := X56.virtualBack hx (y := (⟨"com/example/bellmin/bellmin/check/CheckOptions", "exact", "()Z"⟩ : MethodName)) (z := (⟨"com/example/bellmin/bellmin/check/CheckOptions", "exact", "()Z"⟩ : MethodName)) hown (mvT hZ (hw _ (List.mem_of_getElem? (i := 44) rfl))) (mvT hZ (hw _ (List.mem_of_getElem? (i := 45) rfl))) (notFace_of_selects (args := #[]) (mvT hZ (hw _ (List.mem_of_getElem? (i := 47) rfl)))) (mvT hZ (hw _ (List.mem_of_getElem? (i := 47) rfl))) (mvT hZ (hw _ (List.mem_of_getElem? (i := 46) rfl))) (by decide) (backOf (W := 0) (rmGE l Z a0 hw [] o49 4517329193108106637 1 0 T50.heap n0 Z50 C50_o49) hZ (hw _ (List.mem_of_getElem? (i := 48) rfl)) (hw _ (List.mem_of_getElem? (i := 3) rfl)) (by decide) (by decide)) qa57 qc57 (g := (mkF m 182 #[sI p0, sI p1, sI p2, sI (0 : Int32), sI (1 : Int32), sI (0 : Int32), sD dw, uS, sR o49, sR o50, sD (4517329193108106637 : UInt64), uS, uU] [(.ref o49)])) rfl (by rw [hml]; rfl) (Steps.refl _) (argsL := []) (rest := []) (lenOf pd_rmGE rfl) rfl (by show 2 * 0 + _ ≤ _; exact Nat.le_of_eq rfl) (hb hby at_182) (fun _ _ => ⟨rfl, e56, (by decide : 3 + 0 ≤ _), (by decide : 12 + 0 ≤ _)⟩)
        dsimp only [Pt.U, Pt.locs, Pt.cells, Pt.slots] at X57 l57 y57 z57 st57 hQ57
        subst l57 y57 z57
        obtain ⟨rfl, N57, e57⟩ := hQ57
        refine OwnGo.pre (fun t k => st57.trans k) ?_
        show OwnGo _ _ _ _ (T57.setTop (mkF m 185 #[sI p0, sI p1, sI p2, sI (0 : Int32), sI (1 : Int32), sI (0 : Int32), sD dw, uS, sR o49, sR o50, sD (4517329193108106637 : UInt64), uS, uU] [(.int (nar .boolean 1))]))
        have M57 := Fr.app M56 N57
        refine OwnGo.pre (fun t k => XS.iload X57.here hx rfl (hb hby at_185) rfl (XS.icmpNo X57.here hx rfl (hb hby at_187) rfl (by decide) (XS.iconst X57.here hx rfl (hb hby at_190) (XS.goto X57.here hx rfl (pc0 := 191) (pc' := 195) rfl (hb hby at_191) (by decide) (by decide) (XS.istore X57.here hx rfl (hb hby at_195) rfl (l' := #[sI p0, sI p1, sI p2, sI (0 : Int32), sI (1 : Int32), sI (0 : Int32), sD dw, uS, sR o49, sR o50, sD (4517329193108106637 : UInt64), uS, sI (1 : Int32)]) rfl (XS.iload X57.here hx rfl (hb hby at_197) rfl k)))))) ?_
        show OwnGo _ _ _ _ (T57.setTop (mkF m 199 #[sI p0, sI p1, sI p2, sI (0 : Int32), sI (1 : Int32), sI (0 : Int32), sD dw, uS, sR o49, sR o50, sD (4517329193108106637 : UInt64), uS, sI (1 : Int32)] [(.int (1 : Int32))]))
        exact own_retZ X57 hx hk hrt (hb hby at_199) ⟨rfl, M57⟩ (by decide) (by decide)
      · skip
        refine OwnGo.pre (fun t k => XS.ifNo X0.here hx rfl (hb hby at_28) rfl (eq_false_of_ne_true hf4) (XS.iconst X0.here hx rfl (hb hby at_31) (XS.goto X0.here hx rfl (pc0 := 32) (pc' := 36) rfl (hb hby at_32) (by decide) (by decide) (XS.istore X0.here hx rfl (hb hby at_36) rfl (l' := #[sI p0, sI p1, sI p2, sI (0 : Int32), sI (1 : Int32), sI (1 : Int32), uU, uU, uU, uU, uU, uU, uU]) rfl (XS.iloadN X0.here hx rfl (hb hby at_38) rfl (XS.i2dS X0.here hx rfl (hb hby at_39) rfl rfl (XS.iloadN X0.here hx rfl (hb hby at_40) rfl (own_ldcI X0 hx hown (mvT hZ (hw _ (List.mem_of_getElem? (i := 0) rfl))) rfl (hb hby at_41) k)))))))) ?_
        show OwnGo _ _ _ _ (s₁.setTop (mkF m 43 #[sI p0, sI p1, sI p2, sI (0 : Int32), sI (1 : Int32), sI (1 : Int32), uU, uU, uU, uU, uU, uU, uU] [(.int (65535 : Int32)), (.int p1), (.double (FP.i2d p0))]))
        obtain ⟨mb, hmb⟩ : ∃ v, (p1 &&& (65535 : Int32)) + (1 : Int32) = v := ⟨_, rfl⟩
        have Hb : mb ≠ 0 := fun q => by have q1 := Jvm.Kit.i32_mask p1 65535 (k := 16) (by decide) (by decide); have q2 : (1 : Int32).toInt = 1 := rfl; have q3 : ((p1 &&& (65535 : Int32)) + 1).toInt = (p1 &&& (65535 : Int32)).toInt + (1 : Int32).toInt := Jvm.Kit.i32_add (by omega) (by omega); rw [hmb, q] at q3; have q4 : (0 : Int32).toInt = 0 := rfl; omega
        have nw0 : Jvm.Free.Fl.NoNaN64 (FP.ddiv (FP.i2d p0) (FP.i2d mb)) := Jvm.Free.Fl.ddiv_out (Jvm.Free.Fl.i2d_fin p0).noNaN (Jvm.Free.Fl.i2d_fin mb) (Jvm.Free.Fl.i2d_nz Hb)
        obtain ⟨dw, hdw⟩ : ∃ v, FP.ddiv (FP.i2d p0) (FP.i2d mb) = v := ⟨_, rfl⟩
        have nw : Jvm.Free.Fl.NoNaN64 dw := hdw ▸ nw0
        refine OwnGo.pre (fun t k => own_iand X0.here hx rfl (hb hby at_43) rfl rfl (XS.iconst X0.here hx rfl (hb hby at_44) (own_iadd X0.here hx rfl (hb hby at_45) rfl hmb (XS.i2dS X0.here hx rfl (hb hby at_46) rfl rfl (XS.ddivS X0.here hx rfl (hb hby at_47) rfl nw0 hdw (XS.dstore X0.here hx rfl (hb hby at_48) rfl (l' := #[sI p0, sI p1, sI p2, sI (0 : Int32), sI (1 : Int32), sI (1 : Int32), sD dw, uS, uU, uU, uU, uU, uU]) rfl k)))))) ?_
        show OwnGo _ _ _ _ (s₁.setTop (mkF m 50 #[sI p0, sI p1, sI p2, sI (0 : Int32), sI (1 : Int32), sI (1 : Int32), sD dw, uS, uU, uU, uU, uU, uU] []))
        obtain ⟨T58, h58, X58, e58, E58, A58, D58, -, st58⟩ := newO X0 hx hZ hown (hw _ (List.mem_of_getElem? (i := 1) rfl)) (hw _ (List.mem_of_getElem? (i := 2) rfl)) (hw _ (List.mem_of_getElem? (i := 3) rfl)) e0 (g := (mkF m 50 #[sI p0, sI p1, sI p2, sI (0 : Int32), sI (1 : Int32), sI (1 : Int32), sD dw, uS, uU, uU, uU, uU, uU] [])) rfl (hb hby at_50) (by decide) (by decide)
        obtain ⟨a58, g58⟩ : ∃ z, z = h0.size := ⟨_, rfl⟩
        rw [← g58] at A58 D58 st58
        have G58 : n0 ≤ a58 := Nat.le_trans Z0 (Nat.le_of_eq g58.symm)
        have Z58 : n0 ≤ h58.size := Nat.le_trans Z0 E58.1
        refine OwnGo.pre (fun t k => st58 t k) ?_
        show OwnGo _ _ _ _ (T58.setTop (mkF m 53 #[sI p0, sI p1, sI p2, sI (0 : Int32), sI (1 : Int32), sI (1 : Int32), sD dw, uS, uU, uU, uU, uU, uU] [(.ref a58)]))
        refine OwnGo.pre (fun t k => XS.dup X58.here hx rfl (hb hby at_53) rfl rfl k) ?_
        show OwnGo _ _ _ _ (T58.setTop (mkF m 54 #[sI p0, sI p1, sI p2, sI (0 : Int32), sI (1 : Int32), sI (1 : Int32), sD dw, uS, uU, uU, uU, uU, uU] [(.ref a58), (.ref a58)]))
        obtain ⟨_, _, ⟨T59, L59, k59, n59⟩, -, X59, ⟨Lc59, hQ59, l59, y59, z59⟩, st59⟩ := X58.specialBack hx (y := (⟨"com/example/bellmin/bellmin/check/CheckOptions", "<init>", "()V"⟩ : MethodName)) rfl hown (mvT hZ (hw _ (List.mem_of_getElem? (i := 4) rfl))) (mvT hZ (hw _ (List.mem_of_getElem? (i := 5) rfl))) (mvT hZ (hw _ (List.mem_of_getElem? (i := 6) rfl))) (by decide) (backOf (W := 1) (rmI0 l Z a0 hw [] a58 h58 n0 Z58 A58 (D58 (Or.inr (hw _ (List.mem_of_getElem? (i := 15) rfl))) (ty := .double) (by decide)) (D58 (Or.inr (hw _ (List.mem_of_getElem? (i := 17) rfl))) (ty := .boolean) (by decide)) (D58 (Or.inr (hw _ (List.mem_of_getElem? (i := 19) rfl))) (ty := .boolean) (by decide)) (D58 (Or.inr (hw _ (List.mem_of_getElem? (i := 21) rfl))) (ty := (.object "java/nio/file/Path")) (by decide)) G58) hZ (hw _ (List.mem_of_getElem? (i := 6) rfl)) (hw _ (List.mem_of_getElem? (i := 3) rfl)) (by decide) (by decide)) (g := (mkF m 54 #[sI p0, sI p1, sI p2, sI (0 : Int32), sI (1 : Int32), sI (1 : Int32), sD dw, uS, uU, uU, uU, uU, uU] [(.ref a58), (.ref a58)])) rfl (by rw [hml]; rfl) (Steps.refl _) (a := a58) (argsL := []) (rest := [(.ref a58)]) (lenOf pd_rmI0 rfl) rfl (by show 2 * 0 + _ ≤ _; exact Nat.le_of_eq rfl) (hb hby at_54) (fun _ _ => ⟨rfl, e58, (by decide : 1 + 0 ≤ _), (by decide : 4 + 0 ≤ _)⟩)
        dsimp only [Pt.U, Pt.locs, Pt.cells, Pt.slots] at X59 l59 y59 z59 st59 hQ59
        subst l59 y59 z59
        obtain ⟨rfl, N59, K59, O59⟩ := hQ59
        refine OwnGo.pre (fun t k => st59.trans k) ?_
        show OwnGo _ _ _ _ (T59.setTop (mkF m 57 #[sI p0, sI p1, sI p2, sI (0 : Int32), sI (1 : Int32), sI (1 : Int32), sD dw, uS, uU, uU, uU, uU, uU] [(.ref a58)]))
        have M59 := Fr.app N0 N59
        have Z59 : n0 ≤ T59.heap.size := Nat.le_trans Z58 K59.1
        refine OwnGo.pre (fun t k => XS.astore X59.here hx rfl (hb hby at_57) rfl rfl (l' := #[sI p0, sI p1, sI p2, sI (0 : Int32), sI (1 : Int32), sI (1 : Int32), sD dw, uS, sR a58, uU, uU, uU, uU]) rfl (XS.iloadN X59.here hx rfl (hb hby at_59) rfl (XS.ifYes X59.here hx rfl (pc0 := 60) (pc' := 72) rfl (hb hby at_60) rfl rfl (by decide) (by decide) (XS.iload X59.here hx rfl (hb hby at_72) rfl (XS.ifNo X59.here hx rfl (hb hby at_74) rfl rfl (XS.aload X59.here hx rfl (hb hby at_77) rfl rfl k)))))) ?_
        show OwnGo _ _ _ _ (T59.setTop (mkF m 79 #[sI p0, sI p1, sI p2, sI (0 : Int32), sI (1 : Int32), sI (1 : Int32), sD dw, uS, sR a58, uU, uU, uU, uU] [(.ref a58)]))
        obtain ⟨cq60, kq60, qa60, qb60, qc60⟩ := isOf hZ rfl O59.1
        obtain ⟨_, _, ⟨T60, L60, k60, n60⟩, -, X60, ⟨Lc60, hQ60, l60, y60, z60⟩, st60⟩ := X59.virtualBack hx (y := (⟨"com/example/bellmin/bellmin/check/CheckOptions", "withExact", "()Lcom/example/bellmin/bellmin/check/CheckOptions;"⟩ : MethodName)) (z := (⟨"com/example/bellmin/bellmin/check/CheckOptions", "withExact", "()Lcom/example/bellmin/bellmin/check/CheckOptions;"⟩ : MethodName)) hown (mvT hZ (hw _ (List.mem_of_getElem? (i := 22) rfl))) (mvT hZ (hw _ (List.mem_of_getElem? (i := 23) rfl))) (notFace_of_selects (args := #[]) (mvT hZ (hw _ (List.mem_of_getElem? (i := 25) rfl)))) (mvT hZ (hw _ (List.mem_of_getElem? (i := 25) rfl))) (mvT hZ (hw _ (List.mem_of_getElem? (i := 24) rfl))) (by decide) (backOf (W := 0) (rmWE l Z a0 hw [] a58 4517329193108106637 0 0 T59.heap n0 Z59 O59 (Or.inl rfl) (Or.inl rfl)) hZ (hw _ (List.mem_of_getElem? (i := 26) rfl)) (hw _ (List.mem_of_getElem? (i := 3) rfl)) (by decide) (by decide)) qa60 qc60 (g := (mkF m 79 #[sI p0, sI p1, sI p2, sI (0 : Int32), sI (1 : Int32), sI (1 : Int32), sD dw, uS, sR a58, uU, uU, uU, uU] [(.ref a58)])) rfl (by rw [hml]; rfl) (Steps.refl _) (argsL := []) (rest := []) (lenOf pd_rmWE rfl) rfl (by show 2 * 0 + _ ≤ _; exact Nat.le_of_eq rfl) (hb hby at_79) (fun _ _ => ⟨rfl, rfl, (by decide : 1 + 1 ≤ _), (by decide : 4 + 4 ≤ _)⟩)
        dsimp only [Pt.U, Pt.locs, Pt.cells, Pt.slots] at X60 l60 y60 z60 st60 hQ60
        subst l60 y60 z60
        obtain ⟨o60, rfl, g60, N60, K60, O60⟩ := hQ60
        refine OwnGo.pre (fun t k => st60.trans k) ?_
        show OwnGo _ _ _ _ (T60.setTop (mkF m 82 #[sI p0, sI p1, sI p2, sI (0 : Int32), sI (1 : Int32), sI (1 : Int32), sD dw, uS, sR a58, uU, uU, uU, uU] [(.ref o60)]))
        have M60 := Fr.app M59 N60
        have Z60 : n0 ≤ T60.heap.size := Nat.le_trans Z59 K60.1
        have C60_a58 := O59.kp K60 nin0
        refine OwnGo.pre (fun t k => XS.astore X60.here hx rfl (hb hby at_82) rfl rfl (l' := #[sI p0, sI p1, sI p2, sI (0 : Int32), sI (1 : Int32), sI (1 : Int32), sD dw, uS, sR o60, uU, uU, uU, uU]) rfl (XS.iload X60.here hx rfl (hb hby at_84) rfl (XS.ifNo X60.here hx rfl (hb hby at_86) rfl rfl (XS.aload X60.here hx rfl (hb hby at_89) rfl rfl k)))) ?_
        show OwnGo _ _ _ _ (T60.setTop (mkF m 91 #[sI p0, sI p1, sI p2, sI (0 : Int32), sI (1 : Int32), sI (1 : Int32), sD dw, uS, sR o60, uU, uU, uU, uU] [(.ref o60)]))
        obtain ⟨cq61, kq61, qa61, qb61, qc61⟩ := isOf hZ rfl O60.1
        obtain ⟨_, _, ⟨T61, L61, k61, n61⟩, -, X61, ⟨Lc61, hQ61, l61, y61, z61⟩, st61⟩ := X60.virtualBack hx (y := (⟨"com/example/bellmin/bellmin/check/CheckOptions", "withStrategies", "()Lcom/example/bellmin/bellmin/check/CheckOptions;"⟩ : MethodName)) (z := (⟨"com/example/bellmin/bellmin/check/CheckOptions", "withStrategies", "()Lcom/example/bellmin/bellmin/check/CheckOptions;"⟩ : MethodName)) hown (mvT hZ (hw _ (List.mem_of_getElem? (i := 28) rfl))) (mvT hZ (hw _ (List.mem_of_getElem? (i := 29) rfl))) (notFace_of_selects (args := #[]) (mvT hZ (hw _ (List.mem_of_getElem? (i := 31) rfl)))) (mvT hZ (hw _ (List.mem_of_getElem? (i := 31) rfl))) (mvT hZ (hw _ (List.mem_of_getElem? (i := 30) rfl))) (by decide) (backOf (W := 0) (rmWS l Z a0 hw [] o60 4517329193108106637 1 0 T60.heap n0 Z60 O60 (Or.inr rfl) (Or.inl rfl)) hZ (hw _ (List.mem_of_getElem? (i := 32) rfl)) (hw _ (List.mem_of_getElem? (i := 3) rfl)) (by decide) (by decide)) qa61 qc61 (g := (mkF m 91 #[sI p0, sI p1, sI p2, sI (0 : Int32), sI (1 : Int32), sI (1 : Int32), sD dw, uS, sR o60, uU, uU, uU, uU] [(.ref o60)])) rfl (by rw [hml]; rfl) (Steps.refl _) (argsL := []) (rest := []) (lenOf pd_rmWS rfl) rfl (by show 2 * 0 + _ ≤ _; exact Nat.le_of_eq rfl) (hb hby at_91) (fun _ _ => ⟨rfl, rfl, (by decide : 2 + 1 ≤ _), (by decide : 8 + 4 ≤ _)⟩)
        dsimp only [Pt.U, Pt.locs, Pt.cells, Pt.slots] at X61 l61 y61 z61 st61 hQ61
        subst l61 y61 z61
        obtain ⟨o61, rfl, g61, N61, K61, O61⟩ := hQ61
        refine OwnGo.pre (fun t k => st61.trans k) ?_
        show OwnGo _ _ _ _ (T61.setTop (mkF m 94 #[sI p0, sI p1, sI p2, sI (0 : Int32), sI (1 : Int32), sI (1 : Int32), sD dw, uS, sR o60, uU, uU, uU, uU] [(.ref o61)]))
        have M61 := Fr.app M60 N61
        have Z61 : n0 ≤ T61.heap.size := Nat.le_trans Z60 K61.1
        have C61_a58 := C60_a58.kp K61 nin0
        have C61_o60 := O60.kp K61 nin0
        refine OwnGo.pre (fun t k => XS.astore X61.here hx rfl (hb hby at_94) rfl rfl (l' := #[sI p0, sI p1, sI p2, sI (0 : Int32), sI (1 : Int32), sI (1 : Int32), sD dw, uS, sR o61, uU, uU, uU, uU]) rfl (XS.aload X61.here hx rfl (hb hby at_96) rfl rfl k)) ?_
        show OwnGo _ _ _ _ (T61.setTop (mkF m 98 #[sI p0, sI p1, sI p2, sI (0 : Int32), sI (1 : Int32), sI (1 : Int32), sD dw, uS, sR o61, uU, uU, uU, uU] [(.ref o61)]))
        obtain ⟨cq62, kq62, qa62, qb62, qc62⟩ := isOf hZ rfl O61.1
        obtain ⟨_, _, ⟨T62, L62, k62, n62⟩, -, X62, ⟨Lc62, hQ62, l62, y62, z62⟩, st62⟩ := X61.virtualBack hx (y := (⟨"com/example/bellmin/bellmin/check/CheckOptions", "withStrategies", "()Lcom/example/bellmin/bellmin/check/CheckOptions;"⟩ : MethodName)) (z := (⟨"com/example/bellmin/bellmin/check/CheckOptions", "withStrategies", "()Lcom/example/bellmin/bellmin/check/CheckOptions;"⟩ : MethodName)) hown (mvT hZ (hw _ (List.mem_of_getElem? (i := 28) rfl))) (mvT hZ (hw _ (List.mem_of_getElem? (i := 29) rfl))) (notFace_of_selects (args := #[]) (mvT hZ (hw _ (List.mem_of_getElem? (i := 31) rfl)))) (mvT hZ (hw _ (List.mem_of_getElem? (i := 31) rfl))) (mvT hZ (hw _ (List.mem_of_getElem? (i := 30) rfl))) (by decide) (backOf (W := 0) (rmWS l Z a0 hw [] o61 4517329193108106637 1 1 T61.heap n0 Z61 O61 (Or.inr rfl) (Or.inr rfl)) hZ (hw _ (List.mem_of_getElem? (i := 32) rfl)) (hw _ (List.mem_of_getElem? (i := 3) rfl)) (by decide) (by decide)) qa62 qc62 (g := (mkF m 98 #[sI p0, sI p1, sI p2, sI (0 : Int32), sI (1 : Int32), sI (1 : Int32), sD dw, uS, sR o61, uU, uU, uU, uU] [(.ref o61)])) rfl (by rw [hml]; rfl) (Steps.refl _) (argsL := []) (rest := []) (lenOf pd_rmWS rfl) rfl (by show 2 * 0 + _ ≤ _; exact Nat.le_of_eq rfl) (hb hby at_98) (fun _ _ => ⟨rfl, rfl, (by decide : 3 + 1 ≤ _), (by decide : 12 + 4 ≤ _)⟩)
        dsimp only [Pt.U, Pt.locs, Pt.cells, Pt.slots] at X62 l62 y62 z62 st62 hQ62
        subst l62 y62 z62
        obtain ⟨o62, rfl, g62, N62, K62, O62⟩ := hQ62
        refine OwnGo.pre (fun t k => st62.trans k) ?_
        show OwnGo _ _ _ _ (T62.setTop (mkF m 101 #[sI p0, sI p1, sI p2, sI (0 : Int32), sI (1 : Int32), sI (1 : Int32), sD dw, uS, sR o61, uU, uU, uU, uU] [(.ref o62)]))
        have M62 := Fr.app M61 N62
        have Z62 : n0 ≤ T62.heap.size := Nat.le_trans Z61 K62.1
        have C62_a58 := C61_a58.kp K62 nin0
        have C62_o60 := C61_o60.kp K62 nin0
        have C62_o61 := O61.kp K62 nin0
        refine OwnGo.pre (fun t k => XS.astore X62.here hx rfl (hb hby at_101) rfl rfl (l' := #[sI p0, sI p1, sI p2, sI (0 : Int32), sI (1 : Int32), sI (1 : Int32), sD dw, uS, sR o61, sR o62, uU, uU, uU]) rfl (XS.iloadN X62.here hx rfl (hb hby at_103) rfl (XS.ifYes X62.here hx rfl (pc0 := 104) (pc' := 112) rfl (hb hby at_104) rfl rfl (by decide) (by decide) (own_ldcD X62 hx hown (mvT hZ (hw _ (List.mem_of_getElem? (i := 33) rfl))) rfl (hb hby at_112) (XS.dstore X62.here hx rfl (hb hby at_115) rfl (l' := #[sI p0, sI p1, sI p2, sI (0 : Int32), sI (1 : Int32), sI (1 : Int32), sD dw, uS, sR o61, sR o62, sD (4517329193108106637 : UInt64), uS, uU]) rfl (XS.aload X62.here hx rfl (hb hby at_117) rfl rfl (XS.ifnullNo X62.here hx rfl (hb hby at_119) rfl (XS.aload X62.here hx rfl (hb hby at_122) rfl rfl k)))))))) ?_
        show OwnGo _ _ _ _ (T62.setTop (mkF m 124 #[sI p0, sI p1, sI p2, sI (0 : Int32), sI (1 : Int32), sI (1 : Int32), sD dw, uS, sR o61, sR o62, sD (4517329193108106637 : UInt64), uS, uU] [(.ref o62)]))
        obtain ⟨cq63, kq63, qa63, qb63, qc63⟩ := isOf hZ rfl O62.1
        obtain ⟨_, _, ⟨T63, L63, k63, n63⟩, -, X63, ⟨Lc63, hQ63, l63, y63, z63⟩, st63⟩ := X62.virtualBack hx (y := (⟨"com/example/bellmin/bellmin/check/CheckOptions", "strategies", "()Z"⟩ : MethodName)) (z := (⟨"com/example/bellmin/bellmin/check/CheckOptions", "strategies", "()Z"⟩ : MethodName)) hown (mvT hZ (hw _ (List.mem_of_getElem? (i := 34) rfl))) (mvT hZ (hw _ (List.mem_of_getElem? (i := 35) rfl))) (notFace_of_selects (args := #[]) (mvT hZ (hw _ (List.mem_of_getElem? (i := 37) rfl)))) (mvT hZ (hw _ (List.mem_of_getElem? (i := 37) rfl))) (mvT hZ (hw _ (List.mem_of_getElem? (i := 36) rfl))) (by decide) (backOf (W := 0) (rmGS l Z a0 hw [] o62 4517329193108106637 1 1 T62.heap n0 Z62 O62) hZ (hw _ (List.mem_of_getElem? (i := 38) rfl)) (hw _ (List.mem_of_getElem? (i := 3) rfl)) (by decide) (by decide)) qa63 qc63 (g := (mkF m 124 #[sI p0, sI p1, sI p2, sI (0 : Int32), sI (1 : Int32), sI (1 : Int32), sD dw, uS, sR o61, sR o62, sD (4517329193108106637 : UInt64), uS, uU] [(.ref o62)])) rfl (by rw [hml]; rfl) (Steps.refl _) (argsL := []) (rest := []) (lenOf pd_rmGS rfl) rfl (by show 2 * 0 + _ ≤ _; exact Nat.le_of_eq rfl) (hb hby at_124) (fun _ _ => ⟨rfl, rfl, (by decide : 4 + 0 ≤ _), (by decide : 16 + 0 ≤ _)⟩)
        dsimp only [Pt.U, Pt.locs, Pt.cells, Pt.slots] at X63 l63 y63 z63 st63 hQ63
        subst l63 y63 z63
        obtain ⟨rfl, N63, e63⟩ := hQ63
        refine OwnGo.pre (fun t k => st63.trans k) ?_
        show OwnGo _ _ _ _ (T63.setTop (mkF m 127 #[sI p0, sI p1, sI p2, sI (0 : Int32), sI (1 : Int32), sI (1 : Int32), sD dw, uS, sR o61, sR o62, sD (4517329193108106637 : UInt64), uS, uU] [(.int (nar .boolean 1))]))
        have M63 := Fr.app M62 N63
        refine OwnGo.pre (fun t k => XS.ifNo X63.here hx rfl (hb hby at_127) rfl (by decide) (XS.aload X63.here hx rfl (hb hby at_130) rfl rfl k)) ?_
        show OwnGo _ _ _ _ (T63.setTop (mkF m 132 #[sI p0, sI p1, sI p2, sI (0 : Int32), sI (1 : Int32), sI (1 : Int32), sD dw, uS, sR o61, sR o62, sD (4517329193108106637 : UInt64), uS, uU] [(.ref o62)]))
        obtain ⟨cq64, kq64, qa64, qb64, qc64⟩ := isOf hZ e63 O62.1
        obtain ⟨_, _, ⟨T64, L64, k64, n64⟩, -, X64, ⟨Lc64, hQ64, l64, y64, z64⟩, st64⟩ := X63.virtualBack hx (y := (⟨"com/example/bellmin/bellmin/check/CheckOptions", "width", "()D"⟩ : MethodName)) (z := (⟨"com/example/bellmin/bellmin/check/CheckOptions", "width", "()D"⟩ : MethodName)) hown (mvT hZ (hw _ (List.mem_of_getElem? (i := 39) rfl))) (mvT hZ (hw _ (List.mem_of_getElem? (i := 40) rfl))) (notFace_of_selects (args := #[]) (mvT hZ (hw _ (List.mem_of_getElem? (i := 42) rfl)))) (mvT hZ (hw _ (List.mem_of_getElem? (i := 42) rfl))) (mvT hZ (hw _ (List.mem_of_getElem? (i := 41) rfl))) (by decide) (backOf (W := 0) (rmGW l Z a0 hw [] o62 4517329193108106637 1 1 T62.heap n0 Z62 O62) hZ (hw _ (List.mem_of_getElem? (i := 43) rfl)) (hw _ (List.mem_of_getElem? (i := 3) rfl)) (by decide) (by decide)) qa64 qc64 (g := (mkF m 132 #[sI p0, sI p1, sI p2, sI (0 : Int32), sI (1 : Int32), sI (1 : Int32), sD dw, uS, sR o61, sR o62, sD (4517329193108106637 : UInt64), uS, uU] [(.ref o62)])) rfl (by rw [hml]; rfl) (Steps.refl _) (argsL := []) (rest := []) (lenOf pd_rmGW rfl) rfl (by show 2 * 0 + _ ≤ _; exact Nat.le_of_eq rfl) (hb hby at_132) (fun _ _ => ⟨rfl, e63, (by decide : 4 + 0 ≤ _), (by decide : 16 + 0 ≤ _)⟩)
        dsimp only [Pt.U, Pt.locs, Pt.cells, Pt.slots] at X64 l64 y64 z64 st64 hQ64
        subst l64 y64 z64
        obtain ⟨rfl, N64, e64⟩ := hQ64
        refine OwnGo.pre (fun t k => st64.trans k) ?_
        show OwnGo _ _ _ _ (T64.setTop (mkF m 135 #[sI p0, sI p1, sI p2, sI (0 : Int32), sI (1 : Int32), sI (1 : Int32), sD dw, uS, sR o61, sR o62, sD (4517329193108106637 : UInt64), uS, uU] [(.double 4517329193108106637)]))
        have M64 := Fr.app M63 N64
        refine OwnGo.pre (fun t k => XS.dload X64.here hx rfl (hb hby at_135) rfl (XS.dcmpS X64.here hx rfl (hb hby at_137) rfl rfl (XS.ifNo X64.here hx rfl (hb hby at_138) rfl (by rw [dcmpV_self own_defN]; rfl) (XS.aload X64.here hx rfl (hb hby at_141) rfl rfl k)))) ?_
        show OwnGo _ _ _ _ (T64.setTop (mkF m 143 #[sI p0, sI p1, sI p2, sI (0 : Int32), sI (1 : Int32), sI (1 : Int32), sD dw, uS, sR o61, sR o62, sD (4517329193108106637 : UInt64), uS, uU] [(.ref o62)]))
        obtain ⟨cq65, kq65, qa65, qb65, qc65⟩ := isOf hZ e64 O62.1
        obtain ⟨_, _, ⟨T65, L65, k65, n65⟩, -, X65, ⟨Lc65, hQ65, l65, y65, z65⟩, st65⟩ := X64.virtualBack hx (y := (⟨"com/example/bellmin/bellmin/check/CheckOptions", "exact", "()Z"⟩ : MethodName)) (z := (⟨"com/example/bellmin/bellmin/check/CheckOptions", "exact", "()Z"⟩ : MethodName)) hown (mvT hZ (hw _ (List.mem_of_getElem? (i := 44) rfl))) (mvT hZ (hw _ (List.mem_of_getElem? (i := 45) rfl))) (notFace_of_selects (args := #[]) (mvT hZ (hw _ (List.mem_of_getElem? (i := 47) rfl)))) (mvT hZ (hw _ (List.mem_of_getElem? (i := 47) rfl))) (mvT hZ (hw _ (List.mem_of_getElem? (i := 46) rfl))) (by decide) (backOf (W := 0) (rmGE l Z a0 hw [] o62 4517329193108106637 1 1 T62.heap n0 Z62 O62) hZ (hw _ (List.mem_of_getElem? (i := 48) rfl)) (hw _ (List.mem_of_getElem? (i := 3) rfl)) (by decide) (by decide)) qa65 qc65 (g := (mkF m 143 #[sI p0, sI p1, sI p2, sI (0 : Int32), sI (1 : Int32), sI (1 : Int32), sD dw, uS, sR o61, sR o62, sD (4517329193108106637 : UInt64), uS, uU] [(.ref o62)])) rfl (by rw [hml]; rfl) (Steps.refl _) (argsL := []) (rest := []) (lenOf pd_rmGE rfl) rfl (by show 2 * 0 + _ ≤ _; exact Nat.le_of_eq rfl) (hb hby at_143) (fun _ _ => ⟨rfl, e64, (by decide : 4 + 0 ≤ _), (by decide : 16 + 0 ≤ _)⟩)
        dsimp only [Pt.U, Pt.locs, Pt.cells, Pt.slots] at X65 l65 y65 z65 st65 hQ65
        subst l65 y65 z65
        obtain ⟨rfl, N65, e65⟩ := hQ65
        refine OwnGo.pre (fun t k => st65.trans k) ?_
        show OwnGo _ _ _ _ (T65.setTop (mkF m 146 #[sI p0, sI p1, sI p2, sI (0 : Int32), sI (1 : Int32), sI (1 : Int32), sD dw, uS, sR o61, sR o62, sD (4517329193108106637 : UInt64), uS, uU] [(.int (nar .boolean 1))]))
        have M65 := Fr.app M64 N65
        refine OwnGo.pre (fun t k => XS.iload X65.here hx rfl (hb hby at_146) rfl (XS.icmpNo X65.here hx rfl (hb hby at_148) rfl (by decide) (XS.aload X65.here hx rfl (hb hby at_151) rfl rfl k))) ?_
        show OwnGo _ _ _ _ (T65.setTop (mkF m 153 #[sI p0, sI p1, sI p2, sI (0 : Int32), sI (1 : Int32), sI (1 : Int32), sD dw, uS, sR o61, sR o62, sD (4517329193108106637 : UInt64), uS, uU] [(.ref o62)]))
        obtain ⟨cq66, kq66, qa66, qb66, qc66⟩ := isOf hZ e65 O62.1
        obtain ⟨_, _, ⟨T66, L66, k66, n66⟩, -, X66, ⟨Lc66, hQ66, l66, y66, z66⟩, st66⟩ := X65.virtualBack hx (y := (⟨"com/example/bellmin/bellmin/check/CheckOptions", "applied", "()Ljava/nio/file/Path;"⟩ : MethodName)) (z := (⟨"com/example/bellmin/bellmin/check/CheckOptions", "applied", "()Ljava/nio/file/Path;"⟩ : MethodName)) hown (mvT hZ (hw _ (List.mem_of_getElem? (i := 49) rfl))) (mvT hZ (hw _ (List.mem_of_getElem? (i := 50) rfl))) (notFace_of_selects (args := #[]) (mvT hZ (hw _ (List.mem_of_getElem? (i := 52) rfl)))) (mvT hZ (hw _ (List.mem_of_getElem? (i := 52) rfl))) (mvT hZ (hw _ (List.mem_of_getElem? (i := 51) rfl))) (by decide) (backOf (W := 0) (rmGA l Z a0 hw [] o62 4517329193108106637 1 1 T62.heap n0 Z62 O62) hZ (hw _ (List.mem_of_getElem? (i := 53) rfl)) (hw _ (List.mem_of_getElem? (i := 3) rfl)) (by decide) (by decide)) qa66 qc66 (g := (mkF m 153 #[sI p0, sI p1, sI p2, sI (0 : Int32), sI (1 : Int32), sI (1 : Int32), sD dw, uS, sR o61, sR o62, sD (4517329193108106637 : UInt64), uS, uU] [(.ref o62)])) rfl (by rw [hml]; rfl) (Steps.refl _) (argsL := []) (rest := []) (lenOf pd_rmGA rfl) rfl (by show 2 * 0 + _ ≤ _; exact Nat.le_of_eq rfl) (hb hby at_153) (fun _ _ => ⟨rfl, e65, (by decide : 4 + 0 ≤ _), (by decide : 16 + 0 ≤ _)⟩)
        dsimp only [Pt.U, Pt.locs, Pt.cells, Pt.slots] at X66 l66 y66 z66 st66 hQ66
        subst l66 y66 z66
        obtain ⟨rfl, N66, e66⟩ := hQ66
        refine OwnGo.pre (fun t k => st66.trans k) ?_
        show OwnGo _ _ _ _ (T66.setTop (mkF m 156 #[sI p0, sI p1, sI p2, sI (0 : Int32), sI (1 : Int32), sI (1 : Int32), sD dw, uS, sR o61, sR o62, sD (4517329193108106637 : UInt64), uS, uU] [.null]))
        have M66 := Fr.app M65 N66
        refine OwnGo.pre (fun t k => XT.ifnonnullNo X66.here hx rfl (hb hby at_156) rfl (XS.aload X66.here hx rfl (hb hby at_159) rfl rfl k)) ?_
        show OwnGo _ _ _ _ (T66.setTop (mkF m 161 #[sI p0, sI p1, sI p2, sI (0 : Int32), sI (1 : Int32), sI (1 : Int32), sD dw, uS, sR o61, sR o62, sD (4517329193108106637 : UInt64), uS, uU] [(.ref o61)]))
        obtain ⟨cq67, kq67, qa67, qb67, qc67⟩ := isOf hZ e66 C62_o61.1
        obtain ⟨_, _, ⟨T67, L67, k67, n67⟩, -, X67, ⟨Lc67, hQ67, l67, y67, z67⟩, st67⟩ := X66.virtualBack hx (y := (⟨"com/example/bellmin/bellmin/check/CheckOptions", "strategies", "()Z"⟩ : MethodName)) (z := (⟨"com/example/bellmin/bellmin/check/CheckOptions", "strategies", "()Z"⟩ : MethodName)) hown (mvT hZ (hw _ (List.mem_of_getElem? (i := 34) rfl))) (mvT hZ (hw _ (List.mem_of_getElem? (i := 35) rfl))) (notFace_of_selects (args := #[]) (mvT hZ (hw _ (List.mem_of_getElem? (i := 37) rfl)))) (mvT hZ (hw _ (List.mem_of_getElem? (i := 37) rfl))) (mvT hZ (hw _ (List.mem_of_getElem? (i := 36) rfl))) (by decide) (backOf (W := 0) (rmGS l Z a0 hw [] o61 4517329193108106637 1 1 T62.heap n0 Z62 C62_o61) hZ (hw _ (List.mem_of_getElem? (i := 38) rfl)) (hw _ (List.mem_of_getElem? (i := 3) rfl)) (by decide) (by decide)) qa67 qc67 (g := (mkF m 161 #[sI p0, sI p1, sI p2, sI (0 : Int32), sI (1 : Int32), sI (1 : Int32), sD dw, uS, sR o61, sR o62, sD (4517329193108106637 : UInt64), uS, uU] [(.ref o61)])) rfl (by rw [hml]; rfl) (Steps.refl _) (argsL := []) (rest := []) (lenOf pd_rmGS rfl) rfl (by show 2 * 0 + _ ≤ _; exact Nat.le_of_eq rfl) (hb hby at_161) (fun _ _ => ⟨rfl, e66, (by decide : 4 + 0 ≤ _), (by decide : 16 + 0 ≤ _)⟩)
        dsimp only [Pt.U, Pt.locs, Pt.cells, Pt.slots] at X67 l67 y67 z67 st67 hQ67
        subst l67 y67 z67
        obtain ⟨rfl, N67, e67⟩ := hQ67
        refine OwnGo.pre (fun t k => st67.trans k) ?_
        show OwnGo _ _ _ _ (T67.setTop (mkF m 164 #[sI p0, sI p1, sI p2, sI (0 : Int32), sI (1 : Int32), sI (1 : Int32), sD dw, uS, sR o61, sR o62, sD (4517329193108106637 : UInt64), uS, uU] [(.int (nar .boolean 1))]))
        have M67 := Fr.app M66 N67
        refine OwnGo.pre (fun t k => XS.iload X67.here hx rfl (hb hby at_164) rfl (XS.icmpNo X67.here hx rfl (hb hby at_166) rfl (by decide) (XS.aload X67.here hx rfl (hb hby at_169) rfl rfl k))) ?_
        show OwnGo _ _ _ _ (T67.setTop (mkF m 171 #[sI p0, sI p1, sI p2, sI (0 : Int32), sI (1 : Int32), sI (1 : Int32), sD dw, uS, sR o61, sR o62, sD (4517329193108106637 : UInt64), uS, uU] [(.ref o61)]))
        obtain ⟨cq68, kq68, qa68, qb68, qc68⟩ := isOf hZ e67 C62_o61.1
        obtain ⟨_, _, ⟨T68, L68, k68, n68⟩, -, X68, ⟨Lc68, hQ68, l68, y68, z68⟩, st68⟩ := X67.virtualBack hx (y := (⟨"com/example/bellmin/bellmin/check/CheckOptions", "width", "()D"⟩ : MethodName)) (z := (⟨"com/example/bellmin/bellmin/check/CheckOptions", "width", "()D"⟩ : MethodName)) hown (mvT hZ (hw _ (List.mem_of_getElem? (i := 39) rfl))) (mvT hZ (hw _ (List.mem_of_getElem? (i := 40) rfl))) (notFace_of_selects (args := #[]) (mvT hZ (hw _ (List.mem_of_getElem? (i := 42) rfl)))) (mvT hZ (hw _ (List.mem_of_getElem? (i := 42) rfl))) (mvT hZ (hw _ (List.mem_of_getElem? (i := 41) rfl))) (by decide) (backOf (W := 0) (rmGW l Z a0 hw [] o61 4517329193108106637 1 1 T62.heap n0 Z62 C62_o61) hZ (hw _ (List.mem_of_getElem? (i := 43) rfl)) (hw _ (List.mem_of_getElem? (i := 3) rfl)) (by decide) (by decide)) qa68 qc68 (g := (mkF m 171 #[sI p0, sI p1, sI p2, sI (0 : Int32), sI (1 : Int32), sI (1 : Int32), sD dw, uS, sR o61, sR o62, sD (4517329193108106637 : UInt64), uS, uU] [(.ref o61)])) rfl (by rw [hml]; rfl) (Steps.refl _) (argsL := []) (rest := []) (lenOf pd_rmGW rfl) rfl (by show 2 * 0 + _ ≤ _; exact Nat.le_of_eq rfl) (hb hby at_171) (fun _ _ => ⟨rfl, e67, (by decide : 4 + 0 ≤ _), (by decide : 16 + 0 ≤ _)⟩)
        dsimp only [Pt.U, Pt.locs, Pt.cells, Pt.slots] at X68 l68 y68 z68 st68 hQ68
        subst l68 y68 z68
        obtain ⟨rfl, N68, e68⟩ := hQ68
        refine OwnGo.pre (fun t k => st68.trans k) ?_
        show OwnGo _ _ _ _ (T68.setTop (mkF m 174 #[sI p0, sI p1, sI p2, sI (0 : Int32), sI (1 : Int32), sI (1 : Int32), sD dw, uS, sR o61, sR o62, sD (4517329193108106637 : UInt64), uS, uU] [(.double 4517329193108106637)]))
        have M68 := Fr.app M67 N68
        refine OwnGo.pre (fun t k => XS.dload X68.here hx rfl (hb hby at_174) rfl (XS.dcmpS X68.here hx rfl (hb hby at_176) rfl rfl (XS.ifNo X68.here hx rfl (hb hby at_177) rfl (by rw [dcmpV_self own_defN]; rfl) (XS.aload X68.here hx rfl (hb hby at_180) rfl rfl k)))) ?_
        show OwnGo _ _ _ _ (T68.setTop (mkF m 182 #[sI p0, sI p1, sI p2, sI (0 : Int32), sI (1 : Int32), sI (1 : Int32), sD dw, uS, sR o61, sR o62, sD (4517329193108106637 : UInt64), uS, uU] [(.ref o61)]))
        obtain ⟨cq69, kq69, qa69, qb69, qc69⟩ := isOf hZ e68 C62_o61.1
        obtain ⟨_, _, ⟨T69, L69, k69, n69⟩, -, X69, ⟨Lc69, hQ69, l69, y69, z69⟩, st69⟩ := X68.virtualBack hx (y := (⟨"com/example/bellmin/bellmin/check/CheckOptions", "exact", "()Z"⟩ : MethodName)) (z := (⟨"com/example/bellmin/bellmin/check/CheckOptions", "exact", "()Z"⟩ : MethodName)) hown (mvT hZ (hw _ (List.mem_of_getElem? (i := 44) rfl))) (mvT hZ (hw _ (List.mem_of_getElem? (i := 45) rfl))) (notFace_of_selects (args := #[]) (mvT hZ (hw _ (List.mem_of_getElem? (i := 47) rfl)))) (mvT hZ (hw _ (List.mem_of_getElem? (i := 47) rfl))) (mvT hZ (hw _ (List.mem_of_getElem? (i := 46) rfl))) (by decide) (backOf (W := 0) (rmGE l Z a0 hw [] o61 4517329193108106637 1 1 T62.heap n0 Z62 C62_o61) hZ (hw _ (List.mem_of_getElem? (i := 48) rfl)) (hw _ (List.mem_of_getElem? (i := 3) rfl)) (by decide) (by decide)) qa69 qc69 (g := (mkF m 182 #[sI p0, sI p1, sI p2, sI (0 : Int32), sI (1 : Int32), sI (1 : Int32), sD dw, uS, sR o61, sR o62, sD (4517329193108106637 : UInt64), uS, uU] [(.ref o61)])) rfl (by rw [hml]; rfl) (Steps.refl _) (argsL := []) (rest := []) (lenOf pd_rmGE rfl) rfl (by show 2 * 0 + _ ≤ _; exact Nat.le_of_eq rfl) (hb hby at_182) (fun _ _ => ⟨rfl, e68, (by decide : 4 + 0 ≤ _), (by decide : 16 + 0 ≤ _)⟩)
        dsimp only [Pt.U, Pt.locs, Pt.cells, Pt.slots] at X69 l69 y69 z69 st69 hQ69
        subst l69 y69 z69
        obtain ⟨rfl, N69, e69⟩ := hQ69
        refine OwnGo.pre (fun t k => st69.trans k) ?_
        show OwnGo _ _ _ _ (T69.setTop (mkF m 185 #[sI p0, sI p1, sI p2, sI (0 : Int32), sI (1 : Int32), sI (1 : Int32), sD dw, uS, sR o61, sR o62, sD (4517329193108106637 : UInt64), uS, uU] [(.int (nar .boolean 1))]))
        have M69 := Fr.app M68 N69
        refine OwnGo.pre (fun t k => XS.iload X69.here hx rfl (hb hby at_185) rfl (XS.icmpNo X69.here hx rfl (hb hby at_187) rfl (by decide) (XS.iconst X69.here hx rfl (hb hby at_190) (XS.goto X69.here hx rfl (pc0 := 191) (pc' := 195) rfl (hb hby at_191) (by decide) (by decide) (XS.istore X69.here hx rfl (hb hby at_195) rfl (l' := #[sI p0, sI p1, sI p2, sI (0 : Int32), sI (1 : Int32), sI (1 : Int32), sD dw, uS, sR o61, sR o62, sD (4517329193108106637 : UInt64), uS, sI (1 : Int32)]) rfl (XS.iload X69.here hx rfl (hb hby at_197) rfl k)))))) ?_
        show OwnGo _ _ _ _ (T69.setTop (mkF m 199 #[sI p0, sI p1, sI p2, sI (0 : Int32), sI (1 : Int32), sI (1 : Int32), sD dw, uS, sR o61, sR o62, sD (4517329193108106637 : UInt64), uS, sI (1 : Int32)] [(.int (1 : Int32))]))
        exact own_retZ X69 hx hk hrt (hb hby at_199) ⟨rfl, M69⟩ (by decide) (by decide)
  · skip
    refine OwnGo.pre (fun t k => XS.ifNo X0.here hx rfl (hb hby at_3) rfl (eq_false_of_ne_true hf1) (XS.iconst X0.here hx rfl (hb hby at_6) (XS.goto X0.here hx rfl (pc0 := 7) (pc' := 11) rfl (hb hby at_7) (by decide) (by decide) (XS.istoreN X0.here hx rfl (hb hby at_11) rfl (l' := #[sI p0, sI p1, sI p2, sI (1 : Int32), uU, uU, uU, uU, uU, uU, uU, uU, uU]) rfl (XS.iloadN X0.here hx rfl (hb hby at_12) rfl (XS.iconst X0.here hx rfl (hb hby at_13) (own_iand X0.here hx rfl (hb hby at_14) rfl rfl k))))))) ?_
    show OwnGo _ _ _ _ (s₁.setTop (mkF m 15 #[sI p0, sI p1, sI p2, sI (1 : Int32), uU, uU, uU, uU, uU, uU, uU, uU, uU] [(.int (p2 &&& (2 : Int32)))]))
    by_cases hf2 : ifCond.holds .eq (p2 &&& (2 : Int32)) = true
    · skip
      refine OwnGo.pre (fun t k => XS.ifYes X0.here hx rfl (pc0 := 15) (pc' := 22) rfl (hb hby at_15) rfl hf2 (by decide) (by decide) (XS.iconst X0.here hx rfl (hb hby at_22) (XS.istore X0.here hx rfl (hb hby at_23) rfl (l' := #[sI p0, sI p1, sI p2, sI (1 : Int32), sI (0 : Int32), uU, uU, uU, uU, uU, uU, uU, uU]) rfl (XS.iloadN X0.here hx rfl (hb hby at_25) rfl (XS.iconst X0.here hx rfl (hb hby at_26) (own_iand X0.here hx rfl (hb hby at_27) rfl rfl k)))))) ?_
      show OwnGo _ _ _ _ (s₁.setTop (mkF m 28 #[sI p0, sI p1, sI p2, sI (1 : Int32), sI (0 : Int32), uU, uU, uU, uU, uU, uU, uU, uU] [(.int (p2 &&& (4 : Int32)))]))
      by_cases hf4 : ifCond.holds .eq (p2 &&& (4 : Int32)) = true
      · skip
        refine OwnGo.pre (fun t k => XS.ifYes X0.here hx rfl (pc0 := 28) (pc' := 35) rfl (hb hby at_28) rfl hf4 (by decide) (by decide) (XS.iconst X0.here hx rfl (hb hby at_35) (XS.istore X0.here hx rfl (hb hby at_36) rfl (l' := #[sI p0, sI p1, sI p2, sI (1 : Int32), sI (0 : Int32), sI (0 : Int32), uU, uU, uU, uU, uU, uU, uU]) rfl (XS.iloadN X0.here hx rfl (hb hby at_38) rfl (XS.i2dS X0.here hx rfl (hb hby at_39) rfl rfl (XS.iloadN X0.here hx rfl (hb hby at_40) rfl (own_ldcI X0 hx hown (mvT hZ (hw _ (List.mem_of_getElem? (i := 0) rfl))) rfl (hb hby at_41) (own_iand X0.here hx rfl (hb hby at_43) rfl rfl k)))))))) ?_
        show OwnGo _ _ _ _ (s₁.setTop (mkF m 44 #[sI p0, sI p1, sI p2, sI (1 : Int32), sI (0 : Int32), sI (0 : Int32), uU, uU, uU, uU, uU, uU, uU] [(.int (p1 &&& (65535 : Int32))), (.double (FP.i2d p0))]))
        obtain ⟨mb, hmb⟩ : ∃ v, (p1 &&& (65535 : Int32)) + (1 : Int32) = v := ⟨_, rfl⟩
        have Hb : mb ≠ 0 := fun q => by have q1 := Jvm.Kit.i32_mask p1 65535 (k := 16) (by decide) (by decide); have q2 : (1 : Int32).toInt = 1 := rfl; have q3 : ((p1 &&& (65535 : Int32)) + 1).toInt = (p1 &&& (65535 : Int32)).toInt + (1 : Int32).toInt := Jvm.Kit.i32_add (by omega) (by omega); rw [hmb, q] at q3; have q4 : (0 : Int32).toInt = 0 := rfl; omega
        have nw0 : Jvm.Free.Fl.NoNaN64 (FP.ddiv (FP.i2d p0) (FP.i2d mb)) := Jvm.Free.Fl.ddiv_out (Jvm.Free.Fl.i2d_fin p0).noNaN (Jvm.Free.Fl.i2d_fin mb) (Jvm.Free.Fl.i2d_nz Hb)
        obtain ⟨dw, hdw⟩ : ∃ v, FP.ddiv (FP.i2d p0) (FP.i2d mb) = v := ⟨_, rfl⟩
        have nw : Jvm.Free.Fl.NoNaN64 dw := hdw ▸ nw0
        refine OwnGo.pre (fun t k => XS.iconst X0.here hx rfl (hb hby at_44) (own_iadd X0.here hx rfl (hb hby at_45) rfl hmb (XS.i2dS X0.here hx rfl (hb hby at_46) rfl rfl (XS.ddivS X0.here hx rfl (hb hby at_47) rfl nw0 hdw (XS.dstore X0.here hx rfl (hb hby at_48) rfl (l' := #[sI p0, sI p1, sI p2, sI (1 : Int32), sI (0 : Int32), sI (0 : Int32), sD dw, uS, uU, uU, uU, uU, uU]) rfl k))))) ?_
        show OwnGo _ _ _ _ (s₁.setTop (mkF m 50 #[sI p0, sI p1, sI p2, sI (1 : Int32), sI (0 : Int32), sI (0 : Int32), sD dw, uS, uU, uU, uU, uU, uU] []))
        obtain ⟨T70, h70, X70, e70, E70, A70, D70, -, st70⟩ := newO X0 hx hZ hown (hw _ (List.mem_of_getElem? (i := 1) rfl)) (hw _ (List.mem_of_getElem? (i := 2) rfl)) (hw _ (List.mem_of_getElem? (i := 3) rfl)) e0 (g := (mkF m 50 #[sI p0, sI p1, sI p2, sI (1 : Int32), sI (0 : Int32), sI (0 : Int32), sD dw, uS, uU, uU, uU, uU, uU] [])) rfl (hb hby at_50) (by decide) (by decide)
        obtain ⟨a70, g70⟩ : ∃ z, z = h0.size := ⟨_, rfl⟩
        rw [← g70] at A70 D70 st70
        have G70 : n0 ≤ a70 := Nat.le_trans Z0 (Nat.le_of_eq g70.symm)
        have Z70 : n0 ≤ h70.size := Nat.le_trans Z0 E70.1
        refine OwnGo.pre (fun t k => st70 t k) ?_
        show OwnGo _ _ _ _ (T70.setTop (mkF m 53 #[sI p0, sI p1, sI p2, sI (1 : Int32), sI (0 : Int32), sI (0 : Int32), sD dw, uS, uU, uU, uU, uU, uU] [(.ref a70)]))
        refine OwnGo.pre (fun t k => XS.dup X70.here hx rfl (hb hby at_53) rfl rfl k) ?_
        show OwnGo _ _ _ _ (T70.setTop (mkF m 54 #[sI p0, sI p1, sI p2, sI (1 : Int32), sI (0 : Int32), sI (0 : Int32), sD dw, uS, uU, uU, uU, uU, uU] [(.ref a70), (.ref a70)]))
        obtain ⟨_, _, ⟨T71, L71, k71, n71⟩, -, X71, ⟨Lc71, hQ71, l71, y71, z71⟩, st71⟩ := X70.specialBack hx (y := (⟨"com/example/bellmin/bellmin/check/CheckOptions", "<init>", "()V"⟩ : MethodName)) rfl hown (mvT hZ (hw _ (List.mem_of_getElem? (i := 4) rfl))) (mvT hZ (hw _ (List.mem_of_getElem? (i := 5) rfl))) (mvT hZ (hw _ (List.mem_of_getElem? (i := 6) rfl))) (by decide) (backOf (W := 1) (rmI0 l Z a0 hw [] a70 h70 n0 Z70 A70 (D70 (Or.inr (hw _ (List.mem_of_getElem? (i := 15) rfl))) (ty := .double) (by decide)) (D70 (Or.inr (hw _ (List.mem_of_getElem? (i := 17) rfl))) (ty := .boolean) (by decide)) (D70 (Or.inr (hw _ (List.mem_of_getElem? (i := 19) rfl))) (ty := .boolean) (by decide)) (D70 (Or.inr (hw _ (List.mem_of_getElem? (i := 21) rfl))) (ty := (.object "java/nio/file/Path")) (by decide)) G70) hZ (hw _ (List.mem_of_getElem? (i := 6) rfl)) (hw _ (List.mem_of_getElem? (i := 3) rfl)) (by decide) (by decide)) (g := (mkF m 54 #[sI p0, sI p1, sI p2, sI (1 : Int32), sI (0 : Int32), sI (0 : Int32), sD dw, uS, uU, uU, uU, uU, uU] [(.ref a70), (.ref a70)])) rfl (by rw [hml]; rfl) (Steps.refl _) (a := a70) (argsL := []) (rest := [(.ref a70)]) (lenOf pd_rmI0 rfl) rfl (by show 2 * 0 + _ ≤ _; exact Nat.le_of_eq rfl) (hb hby at_54) (fun _ _ => ⟨rfl, e70, (by decide : 1 + 0 ≤ _), (by decide : 4 + 0 ≤ _)⟩)
        dsimp only [Pt.U, Pt.locs, Pt.cells, Pt.slots] at X71 l71 y71 z71 st71 hQ71
        subst l71 y71 z71
        obtain ⟨rfl, N71, K71, O71⟩ := hQ71
        refine OwnGo.pre (fun t k => st71.trans k) ?_
        show OwnGo _ _ _ _ (T71.setTop (mkF m 57 #[sI p0, sI p1, sI p2, sI (1 : Int32), sI (0 : Int32), sI (0 : Int32), sD dw, uS, uU, uU, uU, uU, uU] [(.ref a70)]))
        have M71 := Fr.app N0 N71
        have Z71 : n0 ≤ T71.heap.size := Nat.le_trans Z70 K71.1
        refine OwnGo.pre (fun t k => XS.astore X71.here hx rfl (hb hby at_57) rfl rfl (l' := #[sI p0, sI p1, sI p2, sI (1 : Int32), sI (0 : Int32), sI (0 : Int32), sD dw, uS, sR a70, uU, uU, uU, uU]) rfl (XS.iloadN X71.here hx rfl (hb hby at_59) rfl (XS.ifNo X71.here hx rfl (hb hby at_60) rfl rfl (XS.aload X71.here hx rfl (hb hby at_63) rfl rfl (XS.dload X71.here hx rfl (hb hby at_65) rfl k))))) ?_
        show OwnGo _ _ _ _ (T71.setTop (mkF m 67 #[sI p0, sI p1, sI p2, sI (1 : Int32), sI (0 : Int32), sI (0 : Int32), sD dw, uS, sR a70, uU, uU, uU, uU] [(.double dw), (.ref a70)]))
        obtain ⟨cq72, kq72, qa72, qb72, qc72⟩ := isOf hZ rfl O71.1
        obtain ⟨_, _, ⟨T72, L72, k72, n72⟩, -, X72, ⟨Lc72, hQ72, l72, y72, z72⟩, st72⟩ := X71.virtualBack hx (y := (⟨"com/example/bellmin/bellmin/check/CheckOptions", "withWidth", "(D)Lcom/example/bellmin/bellmin/check/CheckOptions;"⟩ : MethodName)) (z := (⟨"com/example/bellmin/bellmin/check/CheckOptions", "withWidth", "(D)Lcom/example/bellmin/bellmin/check/CheckOptions;"⟩ : MethodName)) hown (mvT hZ (hw _ (List.mem_of_getElem? (i := 54) rfl))) (mvT hZ (hw _ (List.mem_of_getElem? (i := 55) rfl))) (notFace_of_selects (args := #[]) (mvT hZ (hw _ (List.mem_of_getElem? (i := 57) rfl)))) (mvT hZ (hw _ (List.mem_of_getElem? (i := 57) rfl))) (mvT hZ (hw _ (List.mem_of_getElem? (i := 56) rfl))) (by decide) (backOf (W := 0) (rmWW l Z a0 hw [] a70 dw 4517329193108106637 0 0 T71.heap n0 Z71 O71 (Or.inl rfl) (Or.inl rfl)) hZ (hw _ (List.mem_of_getElem? (i := 58) rfl)) (hw _ (List.mem_of_getElem? (i := 3) rfl)) (by decide) (by decide)) qa72 qc72 (g := (mkF m 67 #[sI p0, sI p1, sI p2, sI (1 : Int32), sI (0 : Int32), sI (0 : Int32), sD dw, uS, sR a70, uU, uU, uU, uU] [(.double dw), (.ref a70)])) rfl (by rw [hml]; rfl) (Steps.refl _) (argsL := [(.double dw)]) (rest := []) (lenOf pd_rmWW rfl) rfl (by show 2 * 0 + _ ≤ _; exact Nat.le_of_eq rfl) (hb hby at_67) (fun _ _ => ⟨rfl, rfl, (by decide : 1 + 1 ≤ _), (by decide : 4 + 4 ≤ _)⟩)
        dsimp only [Pt.U, Pt.locs, Pt.cells, Pt.slots] at X72 l72 y72 z72 st72 hQ72
        subst l72 y72 z72
        obtain ⟨o72, rfl, g72, N72, K72, O72⟩ := hQ72
        refine OwnGo.pre (fun t k => st72.trans k) ?_
        show OwnGo _ _ _ _ (T72.setTop (mkF m 70 #[sI p0, sI p1, sI p2, sI (1 : Int32), sI (0 : Int32), sI (0 : Int32), sD dw, uS, sR a70, uU, uU, uU, uU] [(.ref o72)]))
        have M72 := Fr.app M71 N72
        have Z72 : n0 ≤ T72.heap.size := Nat.le_trans Z71 K72.1
        have C72_a70 := O71.kp K72 nin0
        refine OwnGo.pre (fun t k => XS.astore X72.here hx rfl (hb hby at_70) rfl rfl (l' := #[sI p0, sI p1, sI p2, sI (1 : Int32), sI (0 : Int32), sI (0 : Int32), sD dw, uS, sR o72, uU, uU, uU, uU]) rfl (XS.iload X72.here hx rfl (hb hby at_72) rfl (XS.ifYes X72.here hx rfl (pc0 := 74) (pc' := 84) rfl (hb hby at_74) rfl rfl (by decide) (by decide) (XS.iload X72.here hx rfl (hb hby at_84) rfl (XS.ifYes X72.here hx rfl (pc0 := 86) (pc' := 96) rfl (hb hby at_86) rfl rfl (by decide) (by decide) (XS.aload X72.here hx rfl (hb hby at_96) rfl rfl k)))))) ?_
        show OwnGo _ _ _ _ (T72.setTop (mkF m 98 #[sI p0, sI p1, sI p2, sI (1 : Int32), sI (0 : Int32), sI (0 : Int32), sD dw, uS, sR o72, uU, uU, uU, uU] [(.ref o72)]))
        obtain ⟨cq73, kq73, qa73, qb73, qc73⟩ := isOf hZ rfl O72.1
        obtain ⟨_, _, ⟨T73, L73, k73, n73⟩, -, X73, ⟨Lc73, hQ73, l73, y73, z73⟩, st73⟩ := X72.virtualBack hx (y := (⟨"com/example/bellmin/bellmin/check/CheckOptions", "withStrategies", "()Lcom/example/bellmin/bellmin/check/CheckOptions;"⟩ : MethodName)) (z := (⟨"com/example/bellmin/bellmin/check/CheckOptions", "withStrategies", "()Lcom/example/bellmin/bellmin/check/CheckOptions;"⟩ : MethodName)) hown (mvT hZ (hw _ (List.mem_of_getElem? (i := 28) rfl))) (mvT hZ (hw _ (List.mem_of_getElem? (i := 29) rfl))) (notFace_of_selects (args := #[]) (mvT hZ (hw _ (List.mem_of_getElem? (i := 31) rfl)))) (mvT hZ (hw _ (List.mem_of_getElem? (i := 31) rfl))) (mvT hZ (hw _ (List.mem_of_getElem? (i := 30) rfl))) (by decide) (backOf (W := 0) (rmWS l Z a0 hw [] o72 dw 0 0 T72.heap n0 Z72 O72 (Or.inl rfl) (Or.inl rfl)) hZ (hw _ (List.mem_of_getElem? (i := 32) rfl)) (hw _ (List.mem_of_getElem? (i := 3) rfl)) (by decide) (by decide)) qa73 qc73 (g := (mkF m 98 #[sI p0, sI p1, sI p2, sI (1 : Int32), sI (0 : Int32), sI (0 : Int32), sD dw, uS, sR o72, uU, uU, uU, uU] [(.ref o72)])) rfl (by rw [hml]; rfl) (Steps.refl _) (argsL := []) (rest := []) (lenOf pd_rmWS rfl) rfl (by show 2 * 0 + _ ≤ _; exact Nat.le_of_eq rfl) (hb hby at_98) (fun _ _ => ⟨rfl, rfl, (by decide : 2 + 1 ≤ _), (by decide : 8 + 4 ≤ _)⟩)
        dsimp only [Pt.U, Pt.locs, Pt.cells, Pt.slots] at X73 l73 y73 z73 st73 hQ73
        subst l73 y73 z73
        obtain ⟨o73, rfl, g73, N73, K73, O73⟩ := hQ73
        refine OwnGo.pre (fun t k => st73.trans k) ?_
        show OwnGo _ _ _ _ (T73.setTop (mkF m 101 #[sI p0, sI p1, sI p2, sI (1 : Int32), sI (0 : Int32), sI (0 : Int32), sD dw, uS, sR o72, uU, uU, uU, uU] [(.ref o73)]))
        have M73 := Fr.app M72 N73
        have Z73 : n0 ≤ T73.heap.size := Nat.le_trans Z72 K73.1
        have C73_a70 := C72_a70.kp K73 nin0
        have C73_o72 := O72.kp K73 nin0
        refine OwnGo.pre (fun t k => XS.astore X73.here hx rfl (hb hby at_101) rfl rfl (l' := #[sI p0, sI p1, sI p2, sI (1 : Int32), sI (0 : Int32), sI (0 : Int32), sD dw, uS, sR o72, sR o73, uU, uU, uU]) rfl (XS.iloadN X73.here hx rfl (hb hby at_103) rfl (XS.ifNo X73.here hx rfl (hb hby at_104) rfl rfl (XS.dload X73.here hx rfl (hb hby at_107) rfl (XS.goto X73.here hx rfl (pc0 := 109) (pc' := 115) rfl (hb hby at_109) (by decide) (by decide) (XS.dstore X73.here hx rfl (hb hby at_115) rfl (l' := #[sI p0, sI p1, sI p2, sI (1 : Int32), sI (0 : Int32), sI (0 : Int32), sD dw, uS, sR o72, sR o73, sD dw, uS, uU]) rfl (XS.aload X73.here hx rfl (hb hby at_117) rfl rfl (XS.ifnullNo X73.here hx rfl (hb hby at_119) rfl k)))))))) ?_
        show OwnGo _ _ _ _ (T73.setTop (mkF m 122 #[sI p0, sI p1, sI p2, sI (1 : Int32), sI (0 : Int32), sI (0 : Int32), sD dw, uS, sR o72, sR o73, sD dw, uS, uU] []))
        refine OwnGo.pre (fun t k => XS.aload X73.here hx rfl (hb hby at_122) rfl rfl k) ?_
        show OwnGo _ _ _ _ (T73.setTop (mkF m 124 #[sI p0, sI p1, sI p2, sI (1 : Int32), sI (0 : Int32), sI (0 : Int32), sD dw, uS, sR o72, sR o73, sD dw, uS, uU] [(.ref o73)]))
        obtain ⟨cq74, kq74, qa74, qb74, qc74⟩ := isOf hZ rfl O73.1
        obtain ⟨_, _, ⟨T74, L74, k74, n74⟩, -, X74, ⟨Lc74, hQ74, l74, y74, z74⟩, st74⟩ := X73.virtualBack hx (y := (⟨"com/example/bellmin/bellmin/check/CheckOptions", "strategies", "()Z"⟩ : MethodName)) (z := (⟨"com/example/bellmin/bellmin/check/CheckOptions", "strategies", "()Z"⟩ : MethodName)) hown (mvT hZ (hw _ (List.mem_of_getElem? (i := 34) rfl))) (mvT hZ (hw _ (List.mem_of_getElem? (i := 35) rfl))) (notFace_of_selects (args := #[]) (mvT hZ (hw _ (List.mem_of_getElem? (i := 37) rfl)))) (mvT hZ (hw _ (List.mem_of_getElem? (i := 37) rfl))) (mvT hZ (hw _ (List.mem_of_getElem? (i := 36) rfl))) (by decide) (backOf (W := 0) (rmGS l Z a0 hw [] o73 dw 0 1 T73.heap n0 Z73 O73) hZ (hw _ (List.mem_of_getElem? (i := 38) rfl)) (hw _ (List.mem_of_getElem? (i := 3) rfl)) (by decide) (by decide)) qa74 qc74 (g := (mkF m 124 #[sI p0, sI p1, sI p2, sI (1 : Int32), sI (0 : Int32), sI (0 : Int32), sD dw, uS, sR o72, sR o73, sD dw, uS, uU] [(.ref o73)])) rfl (by rw [hml]; rfl) (Steps.refl _) (argsL := []) (rest := []) (lenOf pd_rmGS rfl) rfl (by show 2 * 0 + _ ≤ _; exact Nat.le_of_eq rfl) (hb hby at_124) (fun _ _ => ⟨rfl, rfl, (by decide : 3 + 0 ≤ _), (by decide : 12 + 0 ≤ _)⟩)
        dsimp only [Pt.U, Pt.locs, Pt.cells, Pt.slots] at X74 l74 y74 z74 st74 hQ74
        subst l74 y74 z74
        obtain ⟨rfl, N74, e74⟩ := hQ74
        refine OwnGo.pre (fun t k => st74.trans k) ?_
        show OwnGo _ _ _ _ (T74.setTop (mkF m 127 #[sI p0, sI p1, sI p2, sI (1 : Int32), sI (0 : Int32), sI (0 : Int32), sD dw, uS, sR o72, sR o73, sD dw, uS, uU] [(.int (nar .boolean 1))]))
        have M74 := Fr.app M73 N74
        refine OwnGo.pre (fun t k => XS.ifNo X74.here hx rfl (hb hby at_127) rfl (by decide) (XS.aload X74.here hx rfl (hb hby at_130) rfl rfl k)) ?_
        show OwnGo _ _ _ _ (T74.setTop (mkF m 132 #[sI p0, sI p1, sI p2, sI (1 : Int32), sI (0 : Int32), sI (0 : Int32), sD dw, uS, sR o72, sR o73, sD dw, uS, uU] [(.ref o73)]))
        obtain ⟨cq75, kq75, qa75, qb75, qc75⟩ := isOf hZ e74 O73.1
        obtain ⟨_, _, ⟨T75, L75, k75, n75⟩, -, X75, ⟨Lc75, hQ75, l75, y75, z75⟩, st75⟩ := X74.virtualBack hx (y := (⟨"com/example/bellmin/bellmin/check/CheckOptions", "width", "()D"⟩ : MethodName)) (z := (⟨"com/example/bellmin/bellmin/check/CheckOptions", "width", "()D"⟩ : MethodName)) hown (mvT hZ (hw _ (List.mem_of_getElem? (i := 39) rfl))) (mvT hZ (hw _ (List.mem_of_getElem? (i := 40) rfl))) (notFace_of_selects (args := #[]) (mvT hZ (hw _ (List.mem_of_getElem? (i := 42) rfl)))) (mvT hZ (hw _ (List.mem_of_getElem? (i := 42) rfl))) (mvT hZ (hw _ (List.mem_of_getElem? (i := 41) rfl))) (by decide) (backOf (W := 0) (rmGW l Z a0 hw [] o73 dw 0 1 T73.heap n0 Z73 O73) hZ (hw _ (List.mem_of_getElem? (i := 43) rfl)) (hw _ (List.mem_of_getElem? (i := 3) rfl)) (by decide) (by decide)) qa75 qc75 (g := (mkF m 132 #[sI p0, sI p1, sI p2, sI (1 : Int32), sI (0 : Int32), sI (0 : Int32), sD dw, uS, sR o72, sR o73, sD dw, uS, uU] [(.ref o73)])) rfl (by rw [hml]; rfl) (Steps.refl _) (argsL := []) (rest := []) (lenOf pd_rmGW rfl) rfl (by show 2 * 0 + _ ≤ _; exact Nat.le_of_eq rfl) (hb hby at_132) (fun _ _ => ⟨rfl, e74, (by decide : 3 + 0 ≤ _), (by decide : 12 + 0 ≤ _)⟩)
        dsimp only [Pt.U, Pt.locs, Pt.cells, Pt.slots] at X75 l75 y75 z75 st75 hQ75
        subst l75 y75 z75
        obtain ⟨rfl, N75, e75⟩ := hQ75
        refine OwnGo.pre (fun t k => st75.trans k) ?_
        show OwnGo _ _ _ _ (T75.setTop (mkF m 135 #[sI p0, sI p1, sI p2, sI (1 : Int32), sI (0 : Int32), sI (0 : Int32), sD dw, uS, sR o72, sR o73, sD dw, uS, uU] [(.double dw)]))
        have M75 := Fr.app M74 N75
        refine OwnGo.pre (fun t k => XS.dload X75.here hx rfl (hb hby at_135) rfl (XS.dcmpS X75.here hx rfl (hb hby at_137) rfl rfl (XS.ifNo X75.here hx rfl (hb hby at_138) rfl (by rw [dcmpV_self nw]; rfl) (XS.aload X75.here hx rfl (hb hby at_141) rfl rfl k)))) ?_
        show OwnGo _ _ _ _ (T75.setTop (mkF m 143 #[sI p0, sI p1, sI p2, sI (1 : Int32), sI (0 : Int32), sI (0 : Int32), sD dw, uS, sR o72, sR o73, sD dw, uS, uU] [(.ref o73)]))
        obtain ⟨cq76, kq76, qa76, qb76, qc76⟩ := isOf hZ e75 O73.1
        obtain ⟨_, _, ⟨T76, L76, k76, n76⟩, -, X76, ⟨Lc76, hQ76, l76, y76, z76⟩, st76⟩ := X75.virtualBack hx (y := (⟨"com/example/bellmin/bellmin/check/CheckOptions", "exact", "()Z"⟩ : MethodName)) (z := (⟨"com/example/bellmin/bellmin/check/CheckOptions", "exact", "()Z"⟩ : MethodName)) hown (mvT hZ (hw _ (List.mem_of_getElem? (i := 44) rfl))) (mvT hZ (hw _ (List.mem_of_getElem? (i := 45) rfl))) (notFace_of_selects (args := #[]) (mvT hZ (hw _ (List.mem_of_getElem? (i := 47) rfl)))) (mvT hZ (hw _ (List.mem_of_getElem? (i := 47) rfl))) (mvT hZ (hw _ (List.mem_of_getElem? (i := 46) rfl))) (by decide) (backOf (W := 0) (rmGE l Z a0 hw [] o73 dw 0 1 T73.heap n0 Z73 O73) hZ (hw _ (List.mem_of_getElem? (i := 48) rfl)) (hw _ (List.mem_of_getElem? (i := 3) rfl)) (by decide) (by decide)) qa76 qc76 (g := (mkF m 143 #[sI p0, sI p1, sI p2, sI (1 : Int32), sI (0 : Int32), sI (0 : Int32), sD dw, uS, sR o72, sR o73, sD dw, uS, uU] [(.ref o73)])) rfl (by rw [hml]; rfl) (Steps.refl _) (argsL := []) (rest := []) (lenOf pd_rmGE rfl) rfl (by show 2 * 0 + _ ≤ _; exact Nat.le_of_eq rfl) (hb hby at_143) (fun _ _ => ⟨rfl, e75, (by decide : 3 + 0 ≤ _), (by decide : 12 + 0 ≤ _)⟩)
        dsimp only [Pt.U, Pt.locs, Pt.cells, Pt.slots] at X76 l76 y76 z76 st76 hQ76
        subst l76 y76 z76
        obtain ⟨rfl, N76, e76⟩ := hQ76
        refine OwnGo.pre (fun t k => st76.trans k) ?_
        show OwnGo _ _ _ _ (T76.setTop (mkF m 146 #[sI p0, sI p1, sI p2, sI (1 : Int32), sI (0 : Int32), sI (0 : Int32), sD dw, uS, sR o72, sR o73, sD dw, uS, uU] [(.int (nar .boolean 0))]))
        have M76 := Fr.app M75 N76
        refine OwnGo.pre (fun t k => XS.iload X76.here hx rfl (hb hby at_146) rfl (XS.icmpNo X76.here hx rfl (hb hby at_148) rfl (by decide) (XS.aload X76.here hx rfl (hb hby at_151) rfl rfl k))) ?_
        show OwnGo _ _ _ _ (T76.setTop (mkF m 153 #[sI p0, sI p1, sI p2, sI (1 : Int32), sI (0 : Int32), sI (0 : Int32), sD dw, uS, sR o72, sR o73, sD dw, uS, uU] [(.ref o73)]))
        obtain ⟨cq77, kq77, qa77, qb77, qc77⟩ := isOf hZ e76 O73.1
        obtain ⟨_, _, ⟨T77, L77, k77, n77⟩, -, X77, ⟨Lc77, hQ77, l77, y77, z77⟩, st77⟩ := X76.virtualBack hx (y := (⟨"com/example/bellmin/bellmin/check/CheckOptions", "applied", "()Ljava/nio/file/Path;"⟩ : MethodName)) (z := (⟨"com/example/bellmin/bellmin/check/CheckOptions", "applied", "()Ljava/nio/file/Path;"⟩ : MethodName)) hown (mvT hZ (hw _ (List.mem_of_getElem? (i := 49) rfl))) (mvT hZ (hw _ (List.mem_of_getElem? (i := 50) rfl))) (notFace_of_selects (args := #[]) (mvT hZ (hw _ (List.mem_of_getElem? (i := 52) rfl)))) (mvT hZ (hw _ (List.mem_of_getElem? (i := 52) rfl))) (mvT hZ (hw _ (List.mem_of_getElem? (i := 51) rfl))) (by decide) (backOf (W := 0) (rmGA l Z a0 hw [] o73 dw 0 1 T73.heap n0 Z73 O73) hZ (hw _ (List.mem_of_getElem? (i := 53) rfl)) (hw _ (List.mem_of_getElem? (i := 3) rfl)) (by decide) (by decide)) qa77 qc77 (g := (mkF m 153 #[sI p0, sI p1, sI p2, sI (1 : Int32), sI (0 : Int32), sI (0 : Int32), sD dw, uS, sR o72, sR o73, sD dw, uS, uU] [(.ref o73)])) rfl (by rw [hml]; rfl) (Steps.refl _) (argsL := []) (rest := []) (lenOf pd_rmGA rfl) rfl (by show 2 * 0 + _ ≤ _; exact Nat.le_of_eq rfl) (hb hby at_153) (fun _ _ => ⟨rfl, e76, (by decide : 3 + 0 ≤ _), (by decide : 12 + 0 ≤ _)⟩)
        dsimp only [Pt.U, Pt.locs, Pt.cells, Pt.slots] at X77 l77 y77 z77 st77 hQ77
        subst l77 y77 z77
        obtain ⟨rfl, N77, e77⟩ := hQ77
        refine OwnGo.pre (fun t k => st77.trans k) ?_
        show OwnGo _ _ _ _ (T77.setTop (mkF m 156 #[sI p0, sI p1, sI p2, sI (1 : Int32), sI (0 : Int32), sI (0 : Int32), sD dw, uS, sR o72, sR o73, sD dw, uS, uU] [.null]))
        have M77 := Fr.app M76 N77
        refine OwnGo.pre (fun t k => XT.ifnonnullNo X77.here hx rfl (hb hby at_156) rfl (XS.aload X77.here hx rfl (hb hby at_159) rfl rfl k)) ?_
        show OwnGo _ _ _ _ (T77.setTop (mkF m 161 #[sI p0, sI p1, sI p2, sI (1 : Int32), sI (0 : Int32), sI (0 : Int32), sD dw, uS, sR o72, sR o73, sD dw, uS, uU] [(.ref o72)]))
        obtain ⟨cq78, kq78, qa78, qb78, qc78⟩ := isOf hZ e77 C73_o72.1
        obtain ⟨_, _, ⟨T78, L78, k78, n78⟩, -, X78, ⟨Lc78, hQ78, l78, y78, z78⟩, st78⟩ := X77.virtualBack hx (y := (⟨"com/example/bellmin/bellmin/check/CheckOptions", "strategies", "()Z"⟩ : MethodName)) (z := (⟨"com/example/bellmin/bellmin/check/CheckOptions", "strategies", "()Z"⟩ : MethodName)) hown (mvT hZ (hw _ (List.mem_of_getElem? (i := 34) rfl))) (mvT hZ (hw _ (List.mem_of_getElem? (i := 35) rfl))) (notFace_of_selects (args := #[]) (mvT hZ (hw _ (List.mem_of_getElem? (i := 37) rfl)))) (mvT hZ (hw _ (List.mem_of_getElem? (i := 37) rfl))) (mvT hZ (hw _ (List.mem_of_getElem? (i := 36) rfl))) (by decide) (backOf (W := 0) (rmGS l Z a0 hw [] o72 dw 0 0 T73.heap n0 Z73 C73_o72) hZ (hw _ (List.mem_of_getElem? (i := 38) rfl)) (hw _ (List.mem_of_getElem? (i := 3) rfl)) (by decide) (by decide)) qa78 qc78 (g := (mkF m 161 #[sI p0, sI p1, sI p2, sI (1 : Int32), sI (0 : Int32), sI (0 : Int32), sD dw, uS, sR o72, sR o73, sD dw, uS, uU] [(.ref o72)])) rfl (by rw [hml]; rfl) (Steps.refl _) (argsL := []) (rest := []) (lenOf pd_rmGS rfl) rfl (by show 2 * 0 + _ ≤ _; exact Nat.le_of_eq rfl) (hb hby at_161) (fun _ _ => ⟨rfl, e77, (by decide : 3 + 0 ≤ _), (by decide : 12 + 0 ≤ _)⟩)
        dsimp only [Pt.U, Pt.locs, Pt.cells, Pt.slots] at X78 l78 y78 z78 st78 hQ78
        subst l78 y78 z78
        obtain ⟨rfl, N78, e78⟩ := hQ78
        refine OwnGo.pre (fun t k => st78.trans k) ?_
        show OwnGo _ _ _ _ (T78.setTop (mkF m 164 #[sI p0, sI p1, sI p2, sI (1 : Int32), sI (0 : Int32), sI (0 : Int32), sD dw, uS, sR o72, sR o73, sD dw, uS, uU] [(.int (nar .boolean 0))]))
        have M78 := Fr.app M77 N78
        refine OwnGo.pre (fun t k => XS.iload X78.here hx rfl (hb hby at_164) rfl (XS.icmpNo X78.here hx rfl (hb hby at_166) rfl (by decide) (XS.aload X78.here hx rfl (hb hby at_169) rfl rfl k))) ?_
        show OwnGo _ _ _ _ (T78.setTop (mkF m 171 #[sI p0, sI p1, sI p2, sI (1 : Int32), sI (0 : Int32), sI (0 : Int32), sD dw, uS, sR o72, sR o73, sD dw, uS, uU] [(.ref o72)]))
        obtain ⟨cq79, kq79, qa79, qb79, qc79⟩ := isOf hZ e78 C73_o72.1
        obtain ⟨_, _, ⟨T79, L79, k79, n79⟩, -, X79, ⟨Lc79, hQ79, l79, y79, z79⟩, st79⟩ := X78.virtualBack hx (y := (⟨"com/example/bellmin/bellmin/check/CheckOptions", "width", "()D"⟩ : MethodName)) (z := (⟨"com/example/bellmin/bellmin/check/CheckOptions", "width", "()D"⟩ : MethodName)) hown (mvT hZ (hw _ (List.mem_of_getElem? (i := 39) rfl))) (mvT hZ (hw _ (List.mem_of_getElem? (i := 40) rfl))) (notFace_of_selects (args := #[]) (mvT hZ (hw _ (List.mem_of_getElem? (i := 42) rfl)))) (mvT hZ (hw _ (List.mem_of_getElem? (i := 42) rfl))) (mvT hZ (hw _ (List.mem_of_getElem? (i := 41) rfl))) (by decide) (backOf (W := 0) (rmGW l Z a0 hw [] o72 dw 0 0 T73.heap n0 Z73 C73_o72) hZ (hw _ (List.mem_of_getElem? (i := 43) rfl)) (hw _ (List.mem_of_getElem? (i := 3) rfl)) (by decide) (by decide)) qa79 qc79 (g := (mkF m 171 #[sI p0, sI p1, sI p2, sI (1 : Int32), sI (0 : Int32), sI (0 : Int32), sD dw, uS, sR o72, sR o73, sD dw, uS, uU] [(.ref o72)])) rfl (by rw [hml]; rfl) (Steps.refl _) (argsL := []) (rest := []) (lenOf pd_rmGW rfl) rfl (by show 2 * 0 + _ ≤ _; exact Nat.le_of_eq rfl) (hb hby at_171) (fun _ _ => ⟨rfl, e78, (by decide : 3 + 0 ≤ _), (by decide : 12 + 0 ≤ _)⟩)
        dsimp only [Pt.U, Pt.locs, Pt.cells, Pt.slots] at X79 l79 y79 z79 st79 hQ79
        subst l79 y79 z79
        obtain ⟨rfl, N79, e79⟩ := hQ79
        refine OwnGo.pre (fun t k => st79.trans k) ?_
        show OwnGo _ _ _ _ (T79.setTop (mkF m 174 #[sI p0, sI p1, sI p2, sI (1 : Int32), sI (0 : Int32), sI (0 : Int32), sD dw, uS, sR o72, sR o73, sD dw, uS, uU] [(.double dw)]))
        have M79 := Fr.app M78 N79
        refine OwnGo.pre (fun t k => XS.dload X79.here hx rfl (hb hby at_174) rfl (XS.dcmpS X79.here hx rfl (hb hby at_176) rfl rfl (XS.ifNo X79.here hx rfl (hb hby at_177) rfl (by rw [dcmpV_self nw]; rfl) (XS.aload X79.here hx rfl (hb hby at_180) rfl rfl k)))) ?_
        show OwnGo _ _ _ _ (T79.setTop (mkF m 182 #[sI p0, sI p1, sI p2, sI (1 : Int32), sI (0 : Int32), sI (0 : Int32), sD dw, uS, sR o72, sR o73, sD dw, uS, uU] [(.ref o72)]))
        obtain ⟨cq80, kq80, qa80, qb80, qc80⟩ := isOf hZ e79 C73_o72.1
        obtain ⟨_, _, ⟨T80, L80, k80, n80⟩, -, X80, ⟨Lc80, hQ80, l80, y80, z80⟩, st80⟩ := X79.virtualBack hx (y := (⟨"com/example/bellmin/bellmin/check/CheckOptions", "exact", "()Z"⟩ : MethodName)) (z := (⟨"com/example/bellmin/bellmin/check/CheckOptions", "exact", "()Z"⟩ : MethodName)) hown (mvT hZ (hw _ (List.mem_of_getElem? (i := 44) rfl))) (mvT hZ (hw _ (List.mem_of_getElem? (i := 45) rfl))) (notFace_of_selects (args := #[]) (mvT hZ (hw _ (List.mem_of_getElem? (i := 47) rfl)))) (mvT hZ (hw _ (List.mem_of_getElem? (i := 47) rfl))) (mvT hZ (hw _ (List.mem_of_getElem? (i := 46) rfl))) (by decide) (backOf (W := 0) (rmGE l Z a0 hw [] o72 dw 0 0 T73.heap n0 Z73 C73_o72) hZ (hw _ (List.mem_of_getElem? (i := 48) rfl)) (hw _ (List.mem_of_getElem? (i := 3) rfl)) (by decide) (by decide)) qa80 qc80 (g := (mkF m 182 #[sI p0, sI p1, sI p2, sI (1 : Int32), sI (0 : Int32), sI (0 : Int32), sD dw, uS, sR o72, sR o73, sD dw, uS, uU] [(.ref o72)])) rfl (by rw [hml]; rfl) (Steps.refl _) (argsL := []) (rest := []) (lenOf pd_rmGE rfl) rfl (by show 2 * 0 + _ ≤ _; exact Nat.le_of_eq rfl) (hb hby at_182) (fun _ _ => ⟨rfl, e79, (by decide : 3 + 0 ≤ _), (by decide : 12 + 0 ≤ _)⟩)
        dsimp only [Pt.U, Pt.locs, Pt.cells, Pt.slots] at X80 l80 y80 z80 st80 hQ80
        subst l80 y80 z80
        obtain ⟨rfl, N80, e80⟩ := hQ80
        refine OwnGo.pre (fun t k => st80.trans k) ?_
        show OwnGo _ _ _ _ (T80.setTop (mkF m 185 #[sI p0, sI p1, sI p2, sI (1 : Int32), sI (0 : Int32), sI (0 : Int32), sD dw, uS, sR o72, sR o73, sD dw, uS, uU] [(.int (nar .boolean 0))]))
        have M80 := Fr.app M79 N80
        refine OwnGo.pre (fun t k => XS.iload X80.here hx rfl (hb hby at_185) rfl (XS.icmpNo X80.here hx rfl (hb hby at_187) rfl (by decide) (XS.iconst X80.here hx rfl (hb hby at_190) (XS.goto X80.here hx rfl (pc0 := 191) (pc' := 195) rfl (hb hby at_191) (by decide) (by decide) (XS.istore X80.here hx rfl (hb hby at_195) rfl (l' := #[sI p0, sI p1, sI p2, sI (1 : Int32), sI (0 : Int32), sI (0 : Int32), sD dw, uS, sR o72, sR o73, sD dw, uS, sI (1 : Int32)]) rfl (XS.iload X80.here hx rfl (hb hby at_197) rfl k)))))) ?_
        show OwnGo _ _ _ _ (T80.setTop (mkF m 199 #[sI p0, sI p1, sI p2, sI (1 : Int32), sI (0 : Int32), sI (0 : Int32), sD dw, uS, sR o72, sR o73, sD dw, uS, sI (1 : Int32)] [(.int (1 : Int32))]))
        exact own_retZ X80 hx hk hrt (hb hby at_199) ⟨rfl, M80⟩ (by decide) (by decide)
      · skip
        refine OwnGo.pre (fun t k => XS.ifNo X0.here hx rfl (hb hby at_28) rfl (eq_false_of_ne_true hf4) (XS.iconst X0.here hx rfl (hb hby at_31) (XS.goto X0.here hx rfl (pc0 := 32) (pc' := 36) rfl (hb hby at_32) (by decide) (by decide) (XS.istore X0.here hx rfl (hb hby at_36) rfl (l' := #[sI p0, sI p1, sI p2, sI (1 : Int32), sI (0 : Int32), sI (1 : Int32), uU, uU, uU, uU, uU, uU, uU]) rfl (XS.iloadN X0.here hx rfl (hb hby at_38) rfl (XS.i2dS X0.here hx rfl (hb hby at_39) rfl rfl (XS.iloadN X0.here hx rfl (hb hby at_40) rfl (own_ldcI X0 hx hown (mvT hZ (hw _ (List.mem_of_getElem? (i := 0) rfl))) rfl (hb hby at_41) k)))))))) ?_
        show OwnGo _ _ _ _ (s₁.setTop (mkF m 43 #[sI p0, sI p1, sI p2, sI (1 : Int32), sI (0 : Int32), sI (1 : Int32), uU, uU, uU, uU, uU, uU, uU] [(.int (65535 : Int32)), (.int p1), (.double (FP.i2d p0))]))
        obtain ⟨mb, hmb⟩ : ∃ v, (p1 &&& (65535 : Int32)) + (1 : Int32) = v := ⟨_, rfl⟩
        have Hb : mb ≠ 0 := fun q => by have q1 := Jvm.Kit.i32_mask p1 65535 (k := 16) (by decide) (by decide); have q2 : (1 : Int32).toInt = 1 := rfl; have q3 : ((p1 &&& (65535 : Int32)) + 1).toInt = (p1 &&& (65535 : Int32)).toInt + (1 : Int32).toInt := Jvm.Kit.i32_add (by omega) (by omega); rw [hmb, q] at q3; have q4 : (0 : Int32).toInt = 0 := rfl; omega
        have nw0 : Jvm.Free.Fl.NoNaN64 (FP.ddiv (FP.i2d p0) (FP.i2d mb)) := Jvm.Free.Fl.ddiv_out (Jvm.Free.Fl.i2d_fin p0).noNaN (Jvm.Free.Fl.i2d_fin mb) (Jvm.Free.Fl.i2d_nz Hb)
        obtain ⟨dw, hdw⟩ : ∃ v, FP.ddiv (FP.i2d p0) (FP.i2d mb) = v := ⟨_, rfl⟩
        have nw : Jvm.Free.Fl.NoNaN64 dw := hdw ▸ nw0
        refine OwnGo.pre (fun t k => own_iand X0.here hx rfl (hb hby at_43) rfl rfl (XS.iconst X0.here hx rfl (hb hby at_44) (own_iadd X0.here hx rfl (hb hby at_45) rfl hmb (XS.i2dS X0.here hx rfl (hb hby at_46) rfl rfl (XS.ddivS X0.here hx rfl (hb hby at_47) rfl nw0 hdw (XS.dstore X0.here hx rfl (hb hby at_48) rfl (l' := #[sI p0, sI p1, sI p2, sI (1 : Int32), sI (0 : Int32), sI (1 : Int32), sD dw, uS, uU, uU, uU, uU, uU]) rfl k)))))) ?_
        show OwnGo _ _ _ _ (s₁.setTop (mkF m 50 #[sI p0, sI p1, sI p2, sI (1 : Int32), sI (0 : Int32), sI (1 : Int32), sD dw, uS, uU, uU, uU, uU, uU] []))
        obtain ⟨T81, h81, X81, e81, E81, A81, D81, -, st81⟩ := newO X0 hx hZ hown (hw _ (List.mem_of_getElem? (i := 1) rfl)) (hw _ (List.mem_of_getElem? (i := 2) rfl)) (hw _ (List.mem_of_getElem? (i := 3) rfl)) e0 (g := (mkF m 50 #[sI p0, sI p1, sI p2, sI (1 : Int32), sI (0 : Int32), sI (1 : Int32), sD dw, uS, uU, uU, uU, uU, uU] [])) rfl (hb hby at_50) (by decide) (by decide)
        obtain ⟨a81, g81⟩ : ∃ z, z = h0.size := ⟨_, rfl⟩
        rw [← g81] at A81 D81 st81
        have G81 : n0 ≤ a81 := Nat.le_trans Z0 (Nat.le_of_eq g81.symm)
        have Z81 : n0 ≤ h81.size := Nat.le_trans Z0 E81.1
        refine OwnGo.pre (fun t k => st81 t k) ?_
        show OwnGo _ _ _ _ (T81.setTop (mkF m 53 #[sI p0, sI p1, sI p2, sI (1 : Int32), sI (0 : Int32), sI (1 : Int32), sD dw, uS, uU, uU, uU, uU, uU] [(.ref a81)]))
        refine OwnGo.pre (fun t k => XS.dup X81.here hx rfl (hb hby at_53) rfl rfl k) ?_
        show OwnGo _ _ _ _ (T81.setTop (mkF m 54 #[sI p0, sI p1, sI p2, sI (1 : Int32), sI (0 : Int32), sI (1 : Int32), sD dw, uS, uU, uU, uU, uU, uU] [(.ref a81), (.ref a81)]))
        obtain ⟨_, _, ⟨T82, L82, k82, n82⟩, -, X82, ⟨Lc82, hQ82, l82, y82, z82⟩, st82⟩ := X81.specialBack hx (y := (⟨"com/example/bellmin/bellmin/check/CheckOptions", "<init>", "()V"⟩ : MethodName)) rfl hown (mvT hZ (hw _ (List.mem_of_getElem? (i := 4) rfl))) (mvT hZ (hw _ (List.mem_of_getElem? (i := 5) rfl))) (mvT hZ (hw _ (List.mem_of_getElem? (i := 6) rfl))) (by decide) (backOf (W := 1) (rmI0 l Z a0 hw [] a81 h81 n0 Z81 A81 (D81 (Or.inr (hw _ (List.mem_of_getElem? (i := 15) rfl))) (ty := .double) (by decide)) (D81 (Or.inr (hw _ (List.mem_of_getElem? (i := 17) rfl))) (ty := .boolean) (by decide)) (D81 (Or.inr (hw _ (List.mem_of_getElem? (i := 19) rfl))) (ty := .boolean) (by decide)) (D81 (Or.inr (hw _ (List.mem_of_getElem? (i := 21) rfl))) (ty := (.object "java/nio/file/Path")) (by decide)) G81) hZ (hw _ (List.mem_of_getElem? (i := 6) rfl)) (hw _ (List.mem_of_getElem? (i := 3) rfl)) (by decide) (by decide)) (g := (mkF m 54 #[sI p0, sI p1, sI p2, sI (1 : Int32), sI (0 : Int32), sI (1 : Int32), sD dw, uS, uU, uU, uU, uU, uU] [(.ref a81), (.ref a81)])) rfl (by rw [hml]; rfl) (Steps.refl _) (a := a81) (argsL := []) (rest := [(.ref a81)]) (lenOf pd_rmI0 rfl) rfl (by show 2 * 0 + _ ≤ _; exact Nat.le_of_eq rfl) (hb hby at_54) (fun _ _ => ⟨rfl, e81, (by decide : 1 + 0 ≤ _), (by decide : 4 + 0 ≤ _)⟩)
        dsimp only [Pt.U, Pt.locs, Pt.cells, Pt.slots] at X82 l82 y82 z82 st82 hQ82
        subst l82 y82 z82
        obtain ⟨rfl, N82, K82, O82⟩ := hQ82
        refine OwnGo.pre (fun t k => st82.trans k) ?_
        show OwnGo _ _ _ _ (T82.setTop (mkF m 57 #[sI p0, sI p1, sI p2, sI (1 : Int32), sI (0 : Int32), sI (1 : Int32), sD dw, uS, uU, uU, uU, uU, uU] [(.ref a81)]))
        have M82 := Fr.app N0 N82
        have Z82 : n0 ≤ T82.heap.size := Nat.le_trans Z81 K82.1
        refine OwnGo.pre (fun t k => XS.astore X82.here hx rfl (hb hby at_57) rfl rfl (l' := #[sI p0, sI p1, sI p2, sI (1 : Int32), sI (0 : Int32), sI (1 : Int32), sD dw, uS, sR a81, uU, uU, uU, uU]) rfl (XS.iloadN X82.here hx rfl (hb hby at_59) rfl (XS.ifNo X82.here hx rfl (hb hby at_60) rfl rfl (XS.aload X82.here hx rfl (hb hby at_63) rfl rfl (XS.dload X82.here hx rfl (hb hby at_65) rfl k))))) ?_
        show OwnGo _ _ _ _ (T82.setTop (mkF m 67 #[sI p0, sI p1, sI p2, sI (1 : Int32), sI (0 : Int32), sI (1 : Int32), sD dw, uS, sR a81, uU, uU, uU, uU] [(.double dw), (.ref a81)]))
        obtain ⟨cq83, kq83, qa83, qb83, qc83⟩ := isOf hZ rfl O82.1
        obtain ⟨_, _, ⟨T83, L83, k83, n83⟩, -, X83, ⟨Lc83, hQ83, l83, y83, z83⟩, st83⟩ := X82.virtualBack hx (y := (⟨"com/example/bellmin/bellmin/check/CheckOptions", "withWidth", "(D)Lcom/example/bellmin/bellmin/check/CheckOptions;"⟩ : MethodName)) (z := (⟨"com/example/bellmin/bellmin/check/CheckOptions", "withWidth", "(D)Lcom/example/bellmin/bellmin/check/CheckOptions;"⟩ : MethodName)) hown (mvT hZ (hw _ (List.mem_of_getElem? (i := 54) rfl))) (mvT hZ (hw _ (List.mem_of_getElem? (i := 55) rfl))) (notFace_of_selects (args := #[]) (mvT hZ (hw _ (List.mem_of_getElem? (i := 57) rfl)))) (mvT hZ (hw _ (List.mem_of_getElem? (i := 57) rfl))) (mvT hZ (hw _ (List.mem_of_getElem? (i := 56) rfl))) (by decide) (backOf (W := 0) (rmWW l Z a0 hw [] a81 dw 4517329193108106637 0 0 T82.heap n0 Z82 O82 (Or.inl rfl) (Or.inl rfl)) hZ (hw _ (List.mem_of_getElem? (i := 58) rfl)) (hw _ (List.mem_of_getElem? (i := 3) rfl)) (by decide) (by decide)) qa83 qc83 (g := (mkF m 67 #[sI p0, sI p1, sI p2, sI (1 : Int32), sI (0 : Int32), sI (1 : Int32), sD dw, uS, sR a81, uU, uU, uU, uU] [(.double dw), (.ref a81)])) rfl (by rw [hml]; rfl) (Steps.refl _) (argsL := [(.double dw)]) (rest := []) (lenOf pd_rmWW rfl) rfl (by show 2 * 0 + _ ≤ _; exact Nat.le_of_eq rfl) (hb hby at_67) (fun _ _ => ⟨rfl, rfl, (by decide : 1 + 1 ≤ _), (by decide : 4 + 4 ≤ _)⟩)
        dsimp only [Pt.U, Pt.locs, Pt.cells, Pt.slots] at X83 l83 y83 z83 st83 hQ83
        subst l83 y83 z83
        obtain ⟨o83, rfl, g83, N83, K83, O83⟩ := hQ83
        refine OwnGo.pre (fun t k => st83.trans k) ?_
        show OwnGo _ _ _ _ (T83.setTop (mkF m 70 #[sI p0, sI p1, sI p2, sI (1 : Int32), sI (0 : Int32), sI (1 : Int32), sD dw, uS, sR a81, uU, uU, uU, uU] [(.ref o83)]))
        have M83 := Fr.app M82 N83
        have Z83 : n0 ≤ T83.heap.size := Nat.le_trans Z82 K83.1
        have C83_a81 := O82.kp K83 nin0
        refine OwnGo.pre (fun t k => XS.astore X83.here hx rfl (hb hby at_70) rfl rfl (l' := #[sI p0, sI p1, sI p2, sI (1 : Int32), sI (0 : Int32), sI (1 : Int32), sD dw, uS, sR o83, uU, uU, uU, uU]) rfl (XS.iload X83.here hx rfl (hb hby at_72) rfl (XS.ifYes X83.here hx rfl (pc0 := 74) (pc' := 84) rfl (hb hby at_74) rfl rfl (by decide) (by decide) (XS.iload X83.here hx rfl (hb hby at_84) rfl (XS.ifNo X83.here hx rfl (hb hby at_86) rfl rfl (XS.aload X83.here hx rfl (hb hby at_89) rfl rfl k)))))) ?_
        show OwnGo _ _ _ _ (T83.setTop (mkF m 91 #[sI p0, sI p1, sI p2, sI (1 : Int32), sI (0 : Int32), sI (1 : Int32), sD dw, uS, sR o83, uU, uU, uU, uU] [(.ref o83)]))
        obtain ⟨cq84, kq84, qa84, qb84, qc84⟩ := isOf hZ rfl O83.1
        obtain ⟨_, _, ⟨T84, L84, k84, n84⟩, -, X84, ⟨Lc84, hQ84, l84, y84, z84⟩, st84⟩ := X83.virtualBack hx (y := (⟨"com/example/bellmin/bellmin/check/CheckOptions", "withStrategies", "()Lcom/example/bellmin/bellmin/check/CheckOptions;"⟩ : MethodName)) (z := (⟨"com/example/bellmin/bellmin/check/CheckOptions", "withStrategies", "()Lcom/example/bellmin/bellmin/check/CheckOptions;"⟩ : MethodName)) hown (mvT hZ (hw _ (List.mem_of_getElem? (i := 28) rfl))) (mvT hZ (hw _ (List.mem_of_getElem? (i := 29) rfl))) (notFace_of_selects (args := #[]) (mvT hZ (hw _ (List.mem_of_getElem? (i := 31) rfl)))) (mvT hZ (hw _ (List.mem_of_getElem? (i := 31) rfl))) (mvT hZ (hw _ (List.mem_of_getElem? (i := 30) rfl))) (by decide) (backOf (W := 0) (rmWS l Z a0 hw [] o83 dw 0 0 T83.heap n0 Z83 O83 (Or.inl rfl) (Or.inl rfl)) hZ (hw _ (List.mem_of_getElem? (i := 32) rfl)) (hw _ (List.mem_of_getElem? (i := 3) rfl)) (by decide) (by decide)) qa84 qc84 (g := (mkF m 91 #[sI p0, sI p1, sI p2, sI (1 : Int32), sI (0 : Int32), sI (1 : Int32), sD dw, uS, sR o83, uU, uU, uU, uU] [(.ref o83)])) rfl (by rw [hml]; rfl) (Steps.refl _) (argsL := []) (rest := []) (lenOf pd_rmWS rfl) rfl (by show 2 * 0 + _ ≤ _; exact Nat.le_of_eq rfl) (hb hby at_91) (fun _ _ => ⟨rfl, rfl, (by decide : 2 + 1 ≤ _), (by decide : 8 + 4 ≤ _)⟩)
        dsimp only [Pt.U, Pt.locs, Pt.cells, Pt.slots] at X84 l84 y84 z84 st84 hQ84
        subst l84 y84 z84
        obtain ⟨o84, rfl, g84, N84, K84, O84⟩ := hQ84
        refine OwnGo.pre (fun t k => st84.trans k) ?_
        show OwnGo _ _ _ _ (T84.setTop (mkF m 94 #[sI p0, sI p1, sI p2, sI (1 : Int32), sI (0 : Int32), sI (1 : Int32), sD dw, uS, sR o83, uU, uU, uU, uU] [(.ref o84)]))
        have M84 := Fr.app M83 N84
        have Z84 : n0 ≤ T84.heap.size := Nat.le_trans Z83 K84.1
        have C84_a81 := C83_a81.kp K84 nin0
        have C84_o83 := O83.kp K84 nin0
        refine OwnGo.pre (fun t k => XS.astore X84.here hx rfl (hb hby at_94) rfl rfl (l' := #[sI p0, sI p1, sI p2, sI (1 : Int32), sI (0 : Int32), sI (1 : Int32), sD dw, uS, sR o84, uU, uU, uU, uU]) rfl (XS.aload X84.here hx rfl (hb hby at_96) rfl rfl k)) ?_
        show OwnGo _ _ _ _ (T84.setTop (mkF m 98 #[sI p0, sI p1, sI p2, sI (1 : Int32), sI (0 : Int32), sI (1 : Int32), sD dw, uS, sR o84, uU, uU, uU, uU] [(.ref o84)]))
        obtain ⟨cq85, kq85, qa85, qb85, qc85⟩ := isOf hZ rfl O84.1
        obtain ⟨_, _, ⟨T85, L85, k85, n85⟩, -, X85, ⟨Lc85, hQ85, l85, y85, z85⟩, st85⟩ := X84.virtualBack hx (y := (⟨"com/example/bellmin/bellmin/check/CheckOptions", "withStrategies", "()Lcom/example/bellmin/bellmin/check/CheckOptions;"⟩ : MethodName)) (z := (⟨"com/example/bellmin/bellmin/check/CheckOptions", "withStrategies", "()Lcom/example/bellmin/bellmin/check/CheckOptions;"⟩ : MethodName)) hown (mvT hZ (hw _ (List.mem_of_getElem? (i := 28) rfl))) (mvT hZ (hw _ (List.mem_of_getElem? (i := 29) rfl))) (notFace_of_selects (args := #[]) (mvT hZ (hw _ (List.mem_of_getElem? (i := 31) rfl)))) (mvT hZ (hw _ (List.mem_of_getElem? (i := 31) rfl))) (mvT hZ (hw _ (List.mem_of_getElem? (i := 30) rfl))) (by decide) (backOf (W := 0) (rmWS l Z a0 hw [] o84 dw 0 1 T84.heap n0 Z84 O84 (Or.inl rfl) (Or.inr rfl)) hZ (hw _ (List.mem_of_getElem? (i := 32) rfl)) (hw _ (List.mem_of_getElem? (i := 3) rfl)) (by decide) (by decide)) qa85 qc85 (g := (mkF m 98 #[sI p0, sI p1, sI p2, sI (1 : Int32), sI (0 : Int32), sI (1 : Int32), sD dw, uS, sR o84, uU, uU, uU, uU] [(.ref o84)])) rfl (by rw [hml]; rfl) (Steps.refl _) (argsL := []) (rest := []) (lenOf pd_rmWS rfl) rfl (by show 2 * 0 + _ ≤ _; exact Nat.le_of_eq rfl) (hb hby at_98) (fun _ _ => ⟨rfl, rfl, (by decide : 3 + 1 ≤ _), (by decide : 12 + 4 ≤ _)⟩)
        dsimp only [Pt.U, Pt.locs, Pt.cells, Pt.slots] at X85 l85 y85 z85 st85 hQ85
        subst l85 y85 z85
        obtain ⟨o85, rfl, g85, N85, K85, O85⟩ := hQ85
        refine OwnGo.pre (fun t k => st85.trans k) ?_
        show OwnGo _ _ _ _ (T85.setTop (mkF m 101 #[sI p0, sI p1, sI p2, sI (1 : Int32), sI (0 : Int32), sI (1 : Int32), sD dw, uS, sR o84, uU, uU, uU, uU] [(.ref o85)]))
        have M85 := Fr.app M84 N85
        have Z85 : n0 ≤ T85.heap.size := Nat.le_trans Z84 K85.1
        have C85_a81 := C84_a81.kp K85 nin0
        have C85_o83 := C84_o83.kp K85 nin0
        have C85_o84 := O84.kp K85 nin0
        refine OwnGo.pre (fun t k => XS.astore X85.here hx rfl (hb hby at_101) rfl rfl (l' := #[sI p0, sI p1, sI p2, sI (1 : Int32), sI (0 : Int32), sI (1 : Int32), sD dw, uS, sR o84, sR o85, uU, uU, uU]) rfl (XS.iloadN X85.here hx rfl (hb hby at_103) rfl (XS.ifNo X85.here hx rfl (hb hby at_104) rfl rfl (XS.dload X85.here hx rfl (hb hby at_107) rfl (XS.goto X85.here hx rfl (pc0 := 109) (pc' := 115) rfl (hb hby at_109) (by decide) (by decide) (XS.dstore X85.here hx rfl (hb hby at_115) rfl (l' := #[sI p0, sI p1, sI p2, sI (1 : Int32), sI (0 : Int32), sI (1 : Int32), sD dw, uS, sR o84, sR o85, sD dw, uS, uU]) rfl (XS.aload X85.here hx rfl (hb hby at_117) rfl rfl (XS.ifnullNo X85.here hx rfl (hb hby at_119) rfl k)))))))) ?_
        show OwnGo _ _ _ _ (T85.setTop (mkF m 122 #[sI p0, sI p1, sI p2, sI (1 : Int32), sI (0 : Int32), sI (1 : Int32), sD dw, uS, sR o84, sR o85, sD dw, uS, uU] []))
        refine OwnGo.pre (fun t k => XS.aload X85.here hx rfl (hb hby at_122) rfl rfl k) ?_
        show OwnGo _ _ _ _ (T85.setTop (mkF m 124 #[sI p0, sI p1, sI p2, sI (1 : Int32), sI (0 : Int32), sI (1 : Int32), sD dw, uS, sR o84, sR o85, sD dw, uS, uU] [(.ref o85)]))
        obtain ⟨cq86, kq86, qa86, qb86, qc86⟩ := isOf hZ rfl O85.1
        obtain ⟨_, _, ⟨T86, L86, k86, n86⟩, -, X86, ⟨Lc86, hQ86, l86, y86, z86⟩, st86⟩ := X85.virtualBack hx (y := (⟨"com/example/bellmin/bellmin/check/CheckOptions", "strategies", "()Z"⟩ : MethodName)) (z := (⟨"com/example/bellmin/bellmin/check/CheckOptions", "strategies", "()Z"⟩ : MethodName)) hown (mvT hZ (hw _ (List.mem_of_getElem? (i := 34) rfl))) (mvT hZ (hw _ (List.mem_of_getElem? (i := 35) rfl))) (notFace_of_selects (args := #[]) (mvT hZ (hw _ (List.mem_of_getElem? (i := 37) rfl)))) (mvT hZ (hw _ (List.mem_of_getElem? (i := 37) rfl))) (mvT hZ (hw _ (List.mem_of_getElem? (i := 36) rfl))) (by decide) (backOf (W := 0) (rmGS l Z a0 hw [] o85 dw 0 1 T85.heap n0 Z85 O85) hZ (hw _ (List.mem_of_getElem? (i := 38) rfl)) (hw _ (List.mem_of_getElem? (i := 3) rfl)) (by decide) (by decide)) qa86 qc86 (g := (mkF m 124 #[sI p0, sI p1, sI p2, sI (1 : Int32), sI (0 : Int32), sI (1 : Int32), sD dw, uS, sR o84, sR o85, sD dw, uS, uU] [(.ref o85)])) rfl (by rw [hml]; rfl) (Steps.refl _) (argsL := []) (rest := []) (lenOf pd_rmGS rfl) rfl (by show 2 * 0 + _ ≤ _; exact Nat.le_of_eq rfl) (hb hby at_124) (fun _ _ => ⟨rfl, rfl, (by decide : 4 + 0 ≤ _), (by decide : 16 + 0 ≤ _)⟩)
        dsimp only [Pt.U, Pt.locs, Pt.cells, Pt.slots] at X86 l86 y86 z86 st86 hQ86
        subst l86 y86 z86
        obtain ⟨rfl, N86, e86⟩ := hQ86
        refine OwnGo.pre (fun t k => st86.trans k) ?_
        show OwnGo _ _ _ _ (T86.setTop (mkF m 127 #[sI p0, sI p1, sI p2, sI (1 : Int32), sI (0 : Int32), sI (1 : Int32), sD dw, uS, sR o84, sR o85, sD dw, uS, uU] [(.int (nar .boolean 1))]))
        have M86 := Fr.app M85 N86
        refine OwnGo.pre (fun t k => XS.ifNo X86.here hx rfl (hb hby at_127) rfl (by decide) (XS.aload X86.here hx rfl (hb hby at_130) rfl rfl k)) ?_
        show OwnGo _ _ _ _ (T86.setTop (mkF m 132 #[sI p0, sI p1, sI p2, sI (1 : Int32), sI (0 : Int32), sI (1 : Int32), sD dw, uS, sR o84, sR o85, sD dw, uS, uU] [(.ref o85)]))
        obtain ⟨cq87, kq87, qa87, qb87, qc87⟩ := isOf hZ e86 O85.1
        obtain ⟨_, _, ⟨T87, L87, k87, n87⟩, -, X87, ⟨Lc87, hQ87, l87, y87, z87⟩, st87⟩ := X86.virtualBack hx (y := (⟨"com/example/bellmin/bellmin/check/CheckOptions", "width", "()D"⟩ : MethodName)) (z := (⟨"com/example/bellmin/bellmin/check/CheckOptions", "width", "()D"⟩ : MethodName)) hown (mvT hZ (hw _ (List.mem_of_getElem? (i := 39) rfl))) (mvT hZ (hw _ (List.mem_of_getElem? (i := 40) rfl))) (notFace_of_selects (args := #[]) (mvT hZ (hw _ (List.mem_of_getElem? (i := 42) rfl)))) (mvT hZ (hw _ (List.mem_of_getElem? (i := 42) rfl))) (mvT hZ (hw _ (List.mem_of_getElem? (i := 41) rfl))) (by decide) (backOf (W := 0) (rmGW l Z a0 hw [] o85 dw 0 1 T85.heap n0 Z85 O85) hZ (hw _ (List.mem_of_getElem? (i := 43) rfl)) (hw _ (List.mem_of_getElem? (i := 3) rfl)) (by decide) (by decide)) qa87 qc87 (g := (mkF m 132 #[sI p0, sI p1, sI p2, sI (1 : Int32), sI (0 : Int32), sI (1 : Int32), sD dw, uS, sR o84, sR o85, sD dw, uS, uU] [(.ref o85)])) rfl (by rw [hml]; rfl) (Steps.refl _) (argsL := []) (rest := []) (lenOf pd_rmGW rfl) rfl (by show 2 * 0 + _ ≤ _; exact Nat.le_of_eq rfl) (hb hby at_132) (fun _ _ => ⟨rfl, e86, (by decide : 4 + 0 ≤ _), (by decide : 16 + 0 ≤ _)⟩)
        dsimp only [Pt.U, Pt.locs, Pt.cells, Pt.slots] at X87 l87 y87 z87 st87 hQ87
        subst l87 y87 z87
        obtain ⟨rfl, N87, e87⟩ := hQ87
        refine OwnGo.pre (fun t k => st87.trans k) ?_
        show OwnGo _ _ _ _ (T87.setTop (mkF m 135 #[sI p0, sI p1, sI p2, sI (1 : Int32), sI (0 : Int32), sI (1 : Int32), sD dw, uS, sR o84, sR o85, sD dw, uS, uU] [(.double dw)]))
        have M87 := Fr.app M86 N87
        refine OwnGo.pre (fun t k => XS.dload X87.here hx rfl (hb hby at_135) rfl (XS.dcmpS X87.here hx rfl (hb hby at_137) rfl rfl (XS.ifNo X87.here hx rfl (hb hby at_138) rfl (by rw [dcmpV_self nw]; rfl) (XS.aload X87.here hx rfl (hb hby at_141) rfl rfl k)))) ?_
        show OwnGo _ _ _ _ (T87.setTop (mkF m 143 #[sI p0, sI p1, sI p2, sI (1 : Int32), sI (0 : Int32), sI (1 : Int32), sD dw, uS, sR o84, sR o85, sD dw, uS, uU] [(.ref o85)]))
        obtain ⟨cq88, kq88, qa88, qb88, qc88⟩ := isOf hZ e87 O85.1
        obtain ⟨_, _, ⟨T88, L88, k88, n88⟩, -, X88, ⟨Lc88, hQ88, l88, y88, z88⟩, st88⟩ := X87.virtualBack hx (y := (⟨"com/example/bellmin/bellmin/check/CheckOptions", "exact", "()Z"⟩ : MethodName)) (z := (⟨"com/example/bellmin/bellmin/check/CheckOptions", "exact", "()Z"⟩ : MethodName)) hown (mvT hZ (hw _ (List.mem_of_getElem? (i := 44) rfl))) (mvT hZ (hw _ (List.mem_of_getElem? (i := 45) rfl))) (notFace_of_selects (args := #[]) (mvT hZ (hw _ (List.mem_of_getElem? (i := 47) rfl)))) (mvT hZ (hw _ (List.mem_of_getElem? (i := 47) rfl))) (mvT hZ (hw _ (List.mem_of_getElem? (i := 46) rfl))) (by decide) (backOf (W := 0) (rmGE l Z a0 hw [] o85 dw 0 1 T85.heap n0 Z85 O85) hZ (hw _ (List.mem_of_getElem? (i := 48) rfl)) (hw _ (List.mem_of_getElem? (i := 3) rfl)) (by decide) (by decide)) qa88 qc88 (g := (mkF m 143 #[sI p0, sI p1, sI p2, sI (1 : Int32), sI (0 : Int32), sI (1 : Int32), sD dw, uS, sR o84, sR o85, sD dw, uS, uU] [(.ref o85)])) rfl (by rw [hml]; rfl) (Steps.refl _) (argsL := []) (rest := []) (lenOf pd_rmGE rfl) rfl (by show 2 * 0 + _ ≤ _; exact Nat.le_of_eq rfl) (hb hby at_143) (fun _ _ => ⟨rfl, e87, (by decide : 4 + 0 ≤ _), (by decide : 16 + 0 ≤ _)⟩)
        dsimp only [Pt.U, Pt.locs, Pt.cells, Pt.slots] at X88 l88 y88 z88 st88 hQ88
        subst l88 y88 z88
        obtain ⟨rfl, N88, e88⟩ := hQ88
        refine OwnGo.pre (fun t k => st88.trans k) ?_
        show OwnGo _ _ _ _ (T88.setTop (mkF m 146 #[sI p0, sI p1, sI p2, sI (1 : Int32), sI (0 : Int32), sI (1 : Int32), sD dw, uS, sR o84, sR o85, sD dw, uS, uU] [(.int (nar .boolean 0))]))
        have M88 := Fr.app M87 N88
        refine OwnGo.pre (fun t k => XS.iload X88.here hx rfl (hb hby at_146) rfl (XS.icmpNo X88.here hx rfl (hb hby at_148) rfl (by decide) (XS.aload X88.here hx rfl (hb hby at_151) rfl rfl k))) ?_
        show OwnGo _ _ _ _ (T88.setTop (mkF m 153 #[sI p0, sI p1, sI p2, sI (1 : Int32), sI (0 : Int32), sI (1 : Int32), sD dw, uS, sR o84, sR o85, sD dw, uS, uU] [(.ref o85)]))
        obtain ⟨cq89, kq89, qa89, qb89, qc89⟩ := isOf hZ e88 O85.1
        obtain ⟨_, _, ⟨T89, L89, k89, n89⟩, -, X89, ⟨Lc89, hQ89, l89, y89, z89⟩, st89⟩ := X88.virtualBack hx (y := (⟨"com/example/bellmin/bellmin/check/CheckOptions", "applied", "()Ljava/nio/file/Path;"⟩ : MethodName)) (z := (⟨"com/example/bellmin/bellmin/check/CheckOptions", "applied", "()Ljava/nio/file/Path;"⟩ : MethodName)) hown (mvT hZ (hw _ (List.mem_of_getElem? (i := 49) rfl))) (mvT hZ (hw _ (List.mem_of_getElem? (i := 50) rfl))) (notFace_of_selects (args := #[]) (mvT hZ (hw _ (List.mem_of_getElem? (i := 52) rfl)))) (mvT hZ (hw _ (List.mem_of_getElem? (i := 52) rfl))) (mvT hZ (hw _ (List.mem_of_getElem? (i := 51) rfl))) (by decide) (backOf (W := 0) (rmGA l Z a0 hw [] o85 dw 0 1 T85.heap n0 Z85 O85) hZ (hw _ (List.mem_of_getElem? (i := 53) rfl)) (hw _ (List.mem_of_getElem? (i := 3) rfl)) (by decide) (by decide)) qa89 qc89 (g := (mkF m 153 #[sI p0, sI p1, sI p2, sI (1 : Int32), sI (0 : Int32), sI (1 : Int32), sD dw, uS, sR o84, sR o85, sD dw, uS, uU] [(.ref o85)])) rfl (by rw [hml]; rfl) (Steps.refl _) (argsL := []) (rest := []) (lenOf pd_rmGA rfl) rfl (by show 2 * 0 + _ ≤ _; exact Nat.le_of_eq rfl) (hb hby at_153) (fun _ _ => ⟨rfl, e88, (by decide : 4 + 0 ≤ _), (by decide : 16 + 0 ≤ _)⟩)
        dsimp only [Pt.U, Pt.locs, Pt.cells, Pt.slots] at X89 l89 y89 z89 st89 hQ89
        subst l89 y89 z89
        obtain ⟨rfl, N89, e89⟩ := hQ89
        refine OwnGo.pre (fun t k => st89.trans k) ?_
        show OwnGo _ _ _ _ (T89.setTop (mkF m 156 #[sI p0, sI p1, sI p2, sI (1 : Int32), sI (0 : Int32), sI (1 : Int32), sD dw, uS, sR o84, sR o85, sD dw, uS, uU] [.null]))
        have M89 := Fr.app M88 N89
        refine OwnGo.pre (fun t k => XT.ifnonnullNo X89.here hx rfl (hb hby at_156) rfl (XS.aload X89.here hx rfl (hb hby at_159) rfl rfl k)) ?_
        show OwnGo _ _ _ _ (T89.setTop (mkF m 161 #[sI p0, sI p1, sI p2, sI (1 : Int32), sI (0 : Int32), sI (1 : Int32), sD dw, uS, sR o84, sR o85, sD dw, uS, uU] [(.ref o84)]))
        obtain ⟨cq90, kq90, qa90, qb90, qc90⟩ := isOf hZ e89 C85_o84.1
        obtain ⟨_, _, ⟨T90, L90, k90, n90⟩, -, X90, ⟨Lc90, hQ90, l90, y90, z90⟩, st90⟩ := X89.virtualBack hx (y := (⟨"com/example/bellmin/bellmin/check/CheckOptions", "strategies", "()Z"⟩ : MethodName)) (z := (⟨"com/example/bellmin/bellmin/check/CheckOptions", "strategies", "()Z"⟩ : MethodName)) hown (mvT hZ (hw _ (List.mem_of_getElem? (i := 34) rfl))) (mvT hZ (hw _ (List.mem_of_getElem? (i := 35) rfl))) (notFace_of_selects (args := #[]) (mvT hZ (hw _ (List.mem_of_getElem? (i := 37) rfl)))) (mvT hZ (hw _ (List.mem_of_getElem? (i := 37) rfl))) (mvT hZ (hw _ (List.mem_of_getElem? (i := 36) rfl))) (by decide) (backOf (W := 0) (rmGS l Z a0 hw [] o84 dw 0 1 T85.heap n0 Z85 C85_o84) hZ (hw _ (List.mem_of_getElem? (i := 38) rfl)) (hw _ (List.mem_of_getElem? (i := 3) rfl)) (by decide) (by decide)) qa90 qc90 (g := (mkF m 161 #[sI p0, sI p1, sI p2, sI (1 : Int32), sI (0 : Int32), sI (1 : Int32), sD dw, uS, sR o84, sR o85, sD dw, uS, uU] [(.ref o84)])) rfl (by rw [hml]; rfl) (Steps.refl _) (argsL := []) (rest := []) (lenOf pd_rmGS rfl) rfl (by show 2 * 0 + _ ≤ _; exact Nat.le_of_eq rfl) (hb hby at_161) (fun _ _ => ⟨rfl, e89, (by decide : 4 + 0 ≤ _), (by decide : 16 + 0 ≤ _)⟩)
        dsimp only [Pt.U, Pt.locs, Pt.cells, Pt.slots] at X90 l90 y90 z90 st90 hQ90
        subst l90 y90 z90
        obtain ⟨rfl, N90, e90⟩ := hQ90
        refine OwnGo.pre (fun t k => st90.trans k) ?_
        show OwnGo _ _ _ _ (T90.setTop (mkF m 164 #[sI p0, sI p1, sI p2, sI (1 : Int32), sI (0 : Int32), sI (1 : Int32), sD dw, uS, sR o84, sR o85, sD dw, uS, uU] [(.int (nar .boolean 1))]))
        have M90 := Fr.app M89 N90
        refine OwnGo.pre (fun t k => XS.iload X90.here hx rfl (hb hby at_164) rfl (XS.icmpNo X90.here hx rfl (hb hby at_166) rfl (by decide) (XS.aload X90.here hx rfl (hb hby at_169) rfl rfl k))) ?_
        show OwnGo _ _ _ _ (T90.setTop (mkF m 171 #[sI p0, sI p1, sI p2, sI (1 : Int32), sI (0 : Int32), sI (1 : Int32), sD dw, uS, sR o84, sR o85, sD dw, uS, uU] [(.ref o84)]))
        obtain ⟨cq91, kq91, qa91, qb91, qc91⟩ := isOf hZ e90 C85_o84.1
        obtain ⟨_, _, ⟨T91, L91, k91, n91⟩, -, X91, ⟨Lc91, hQ91, l91, y91, z91⟩, st91⟩ := X90.virtualBack hx (y := (⟨"com/example/bellmin/bellmin/check/CheckOptions", "width", "()D"⟩ : MethodName)) (z := (⟨"com/example/bellmin/bellmin/check/CheckOptions", "width", "()D"⟩ : MethodName)) hown (mvT hZ (hw _ (List.mem_of_getElem? (i := 39) rfl))) (mvT hZ (hw _ (List.mem_of_getElem? (i := 40) rfl))) (notFace_of_selects (args := #[]) (mvT hZ (hw _ (List.mem_of_getElem? (i := 42) rfl)))) (mvT hZ (hw _ (List.mem_of_getElem? (i := 42) rfl))) (mvT hZ (hw _ (List.mem_of_getElem? (i := 41) rfl))) (by decide) (backOf (W := 0) (rmGW l Z a0 hw [] o84 dw 0 1 T85.heap n0 Z85 C85_o84) hZ (hw _ (List.mem_of_getElem? (i := 43) rfl)) (hw _ (List.mem_of_getElem? (i := 3) rfl)) (by decide) (by decide)) qa91 qc91 (g := (mkF m 171 #[sI p0, sI p1, sI p2, sI (1 : Int32), sI (0 : Int32), sI (1 : Int32), sD dw, uS, sR o84, sR o85, sD dw, uS, uU] [(.ref o84)])) rfl (by rw [hml]; rfl) (Steps.refl _) (argsL := []) (rest := []) (lenOf pd_rmGW rfl) rfl (by show 2 * 0 + _ ≤ _; exact Nat.le_of_eq rfl) (hb hby at_171) (fun _ _ => ⟨rfl, e90, (by decide : 4 + 0 ≤ _), (by decide : 16 + 0 ≤ _)⟩)
        dsimp only [Pt.U, Pt.locs, Pt.cells, Pt.slots] at X91 l91 y91 z91 st91 hQ91
        subst l91 y91 z91
        obtain ⟨rfl, N91, e91⟩ := hQ91
        refine OwnGo.pre (fun t k => st91.trans k) ?_
        show OwnGo _ _ _ _ (T91.setTop (mkF m 174 #[sI p0, sI p1, sI p2, sI (1 : Int32), sI (0 : Int32), sI (1 : Int32), sD dw, uS, sR o84, sR o85, sD dw, uS, uU] [(.double dw)]))
        have M91 := Fr.app M90 N91
        refine OwnGo.pre (fun t k => XS.dload X91.here hx rfl (hb hby at_174) rfl (XS.dcmpS X91.here hx rfl (hb hby at_176) rfl rfl (XS.ifNo X91.here hx rfl (hb hby at_177) rfl (by rw [dcmpV_self nw]; rfl) (XS.aload X91.here hx rfl (hb hby at_180) rfl rfl k)))) ?_
        show OwnGo _ _ _ _ (T91.setTop (mkF m 182 #[sI p0, sI p1, sI p2, sI (1 : Int32), sI (0 : Int32), sI (1 : Int32), sD dw, uS, sR o84, sR o85, sD dw, uS, uU] [(.ref o84)]))
        obtain ⟨cq92, kq92, qa92, qb92, qc92⟩ := isOf hZ e91 C85_o84.1
        obtain ⟨_, _, ⟨T92, L92, k92, n92⟩, -, X92, ⟨Lc92, hQ92, l92, y92, z92⟩, st92⟩ := X91.virtualBack hx (y := (⟨"com/example/bellmin/bellmin/check/CheckOptions", "exact", "()Z"⟩ : MethodName)) (z := (⟨"com/example/bellmin/bellmin/check/CheckOptions", "exact", "()Z"⟩ : MethodName)) hown (mvT hZ (hw _ (List.mem_of_getElem? (i := 44) rfl))) (mvT hZ (hw _ (List.mem_of_getElem? (i := 45) rfl))) (notFace_of_selects (args := #[]) (mvT hZ (hw _ (List.mem_of_getElem? (i := 47) rfl)))) (mvT hZ (hw _ (List.mem_of_getElem? (i := 47) rfl))) (mvT hZ (hw _ (List.mem_of_getElem? (i := 46) rfl))) (by decide) (backOf (W := 0) (rmGE l Z a0 hw [] o84 dw 0 1 T85.heap n0 Z85 C85_o84) hZ (hw _ (List.mem_of_getElem? (i := 48) rfl)) (hw _ (List.mem_of_getElem? (i := 3) rfl)) (by decide) (by decide)) qa92 qc92 (g := (mkF m 182 #[sI p0, sI p1, sI p2, sI (1 : Int32), sI (0 : Int32), sI (1 : Int32), sD dw, uS, sR o84, sR o85, sD dw, uS, uU] [(.ref o84)])) rfl (by rw [hml]; rfl) (Steps.refl _) (argsL := []) (rest := []) (lenOf pd_rmGE rfl) rfl (by show 2 * 0 + _ ≤ _; exact Nat.le_of_eq rfl) (hb hby at_182) (fun _ _ => ⟨rfl, e91, (by decide : 4 + 0 ≤ _), (by decide : 16 + 0 ≤ _)⟩)
        dsimp only [Pt.U, Pt.locs, Pt.cells, Pt.slots] at X92 l92 y92 z92 st92 hQ92
        subst l92 y92 z92
        obtain ⟨rfl, N92, e92⟩ := hQ92
        refine OwnGo.pre (fun t k => st92.trans k) ?_
        show OwnGo _ _ _ _ (T92.setTop (mkF m 185 #[sI p0, sI p1, sI p2, sI (1 : Int32), sI (0 : Int32), sI (1 : Int32), sD dw, uS, sR o84, sR o85, sD dw, uS, uU] [(.int (nar .boolean 0))]))
        have M92 := Fr.app M91 N92
        refine OwnGo.pre (fun t k => XS.iload X92.here hx rfl (hb hby at_185) rfl (XS.icmpNo X92.here hx rfl (hb hby at_187) rfl (by decide) (XS.iconst X92.here hx rfl (hb hby at_190) (XS.goto X92.here hx rfl (pc0 := 191) (pc' := 195) rfl (hb hby at_191) (by decide) (by decide) (XS.istore X92.here hx rfl (hb hby at_195) rfl (l' := #[sI p0, sI p1, sI p2, sI (1 : Int32), sI (0 : Int32), sI (1 : Int32), sD dw, uS, sR o84, sR o85, sD dw, uS, sI (1 : Int32)]) rfl (XS.iload X92.here hx rfl (hb hby at_197) rfl k)))))) ?_
        show OwnGo _ _ _ _ (T92.setTop (mkF m 199 #[sI p0, sI p1, sI p2, sI (1 : Int32), sI (0 : Int32), sI (1 : Int32), sD dw, uS, sR o84, sR o85, sD dw, uS, sI (1 : Int32)] [(.int (1 : Int32))]))
        exact own_retZ X92 hx hk hrt (hb hby at_199) ⟨rfl, M92⟩ (by decide) (by decide)
    · skip
      refine OwnGo.pre (fun t k => XS.ifNo X0.here hx rfl (hb hby at_15) rfl (eq_false_of_ne_true hf2) (XS.iconst X0.here hx rfl (hb hby at_18) (XS.goto X0.here hx rfl (pc0 := 19) (pc' := 23) rfl (hb hby at_19) (by decide) (by decide) (XS.istore X0.here hx rfl (hb hby at_23) rfl (l' := #[sI p0, sI p1, sI p2, sI (1 : Int32), sI (1 : Int32), uU, uU, uU, uU, uU, uU, uU, uU]) rfl (XS.iloadN X0.here hx rfl (hb hby at_25) rfl (XS.iconst X0.here hx rfl (hb hby at_26) (own_iand X0.here hx rfl (hb hby at_27) rfl rfl k))))))) ?_
      show OwnGo _ _ _ _ (s₁.setTop (mkF m 28 #[sI p0, sI p1, sI p2, sI (1 : Int32), sI (1 : Int32), uU, uU, uU, uU, uU, uU, uU, uU] [(.int (p2 &&& (4 : Int32)))]))
      by_cases hf4 : ifCond.holds .eq (p2 &&& (4 : Int32)) = true
      · skip
        refine OwnGo.pre (fun t k => XS.ifYes X0.here hx rfl (pc0 := 28) (pc' := 35) rfl (hb hby at_28) rfl hf4 (by decide) (by decide) (XS.iconst X0.here hx rfl (hb hby at_35) (XS.istore X0.here hx rfl (hb hby at_36) rfl (l' := #[sI p0, sI p1, sI p2, sI (1 : Int32), sI (1 : Int32), sI (0 : Int32), uU, uU, uU, uU, uU, uU, uU]) rfl (XS.iloadN X0.here hx rfl (hb hby at_38) rfl (XS.i2dS X0.here hx rfl (hb hby at_39) rfl rfl (XS.iloadN X0.here hx rfl (hb hby at_40) rfl (own_ldcI X0 hx hown (mvT hZ (hw _ (List.mem_of_getElem? (i := 0) rfl))) rfl (hb hby at_41) (own_iand X0.here hx rfl (hb hby at_43) rfl rfl k)))))))) ?_
        show OwnGo _ _ _ _ (s₁.setTop (mkF m 44 #[sI p0, sI p1, sI p2, sI (1 : Int32), sI (1 : Int32), sI (0 : Int32), uU, uU, uU, uU, uU, uU, uU] [(.int (p1 &&& (65535 : Int32))), (.double (FP.i2d p0))]))
        obtain ⟨mb, hmb⟩ : ∃ v, (p1 &&& (65535 : Int32)) + (1 : Int32) = v := ⟨_, rfl⟩
        have Hb : mb ≠ 0 := fun q => by have q1 := Jvm.Kit.i32_mask p1 65535 (k := 16) (by decide) (by decide); have q2 : (1 : Int32).toInt = 1 := rfl; have q3 : ((p1 &&& (65535 : Int32)) + 1).toInt = (p1 &&& (65535 : Int32)).toInt + (1 : Int32).toInt := Jvm.Kit.i32_add (by omega) (by omega); rw [hmb, q] at q3; have q4 : (0 : Int32).toInt = 0 := rfl; omega
        have nw0 : Jvm.Free.Fl.NoNaN64 (FP.ddiv (FP.i2d p0) (FP.i2d mb)) := Jvm.Free.Fl.ddiv_out (Jvm.Free.Fl.i2d_fin p0).noNaN (Jvm.Free.Fl.i2d_fin mb) (Jvm.Free.Fl.i2d_nz Hb)
        obtain ⟨dw, hdw⟩ : ∃ v, FP.ddiv (FP.i2d p0) (FP.i2d mb) = v := ⟨_, rfl⟩
        have nw : Jvm.Free.Fl.NoNaN64 dw := hdw ▸ nw0
        refine OwnGo.pre (fun t k => XS.iconst X0.here hx rfl (hb hby at_44) (own_iadd X0.here hx rfl (hb hby at_45) rfl hmb (XS.i2dS X0.here hx rfl (hb hby at_46) rfl rfl (XS.ddivS X0.here hx rfl (hb hby at_47) rfl nw0 hdw (XS.dstore X0.here hx rfl (hb hby at_48) rfl (l' := #[sI p0, sI p1, sI p2, sI (1 : Int32), sI (1 : Int32), sI (0 : Int32), sD dw, uS, uU, uU, uU, uU, uU]) rfl k))))) ?_
        show OwnGo _ _ _ _ (s₁.setTop (mkF m 50 #[sI p0, sI p1, sI p2, sI (1 : Int32), sI (1 : Int32), sI (0 : Int32), sD dw, uS, uU, uU, uU, uU, uU] []))
        obtain ⟨T93, h93, X93, e93, E93, A93, D93, -, st93⟩ := newO X0 hx hZ hown (hw _ (List.mem_of_getElem? (i := 1) rfl)) (hw _ (List.mem_of_getElem? (i := 2) rfl)) (hw _ (List.mem_of_getElem? (i := 3) rfl)) e0 (g := (mkF m 50 #[sI p0, sI p1, sI p2, sI (1 : Int32), sI (1 : Int32), sI (0 : Int32), sD dw, uS, uU, uU, uU, uU, uU] [])) rfl (hb hby at_50) (by decide) (by decide)
        obtain ⟨a93, g93⟩ : ∃ z, z = h0.size := ⟨_, rfl⟩
        rw [← g93] at A93 D93 st93
        have G93 : n0 ≤ a93 := Nat.le_trans Z0 (Nat.le_of_eq g93.symm)
        have Z93 : n0 ≤ h93.size := Nat.le_trans Z0 E93.1
        refine OwnGo.pre (fun t k => st93 t k) ?_
        show OwnGo _ _ _ _ (T93.setTop (mkF m 53 #[sI p0, sI p1, sI p2, sI (1 : Int32), sI (1 : Int32), sI (0 : Int32), sD dw, uS, uU, uU, uU, uU, uU] [(.ref a93)]))
        refine OwnGo.pre (fun t k => XS.dup X93.here hx rfl (hb hby at_53) rfl rfl k) ?_
        show OwnGo _ _ _ _ (T93.setTop (mkF m 54 #[sI p0, sI p1, sI p2, sI (1 : Int32), sI (1 : Int32), sI (0 : Int32), sD dw, uS, uU, uU, uU, uU, uU] [(.ref a93), (.ref a93)]))
        obtain ⟨_, _, ⟨T94, L94, k94, n94⟩, -, X94, ⟨Lc94, hQ94, l94, y94, z94⟩, st94⟩ := X93.specialBack hx (y := (⟨"com/example/bellmin/bellmin/check/CheckOptions", "<init>", "()V"⟩ : MethodName)) rfl hown (mvT hZ (hw _ (List.mem_of_getElem? (i := 4) rfl))) (mvT hZ (hw _ (List.mem_of_getElem? (i := 5) rfl))) (mvT hZ (hw _ (List.mem_of_getElem? (i := 6) rfl))) (by decide) (backOf (W := 1) (rmI0 l Z a0 hw [] a93 h93 n0 Z93 A93 (D93 (Or.inr (hw _ (List.mem_of_getElem? (i := 15) rfl))) (ty := .double) (by decide)) (D93 (Or.inr (hw _ (List.mem_of_getElem? (i := 17) rfl))) (ty := .boolean) (by decide)) (D93 (Or.inr (hw _ (List.mem_of_getElem? (i := 19) rfl))) (ty := .boolean) (by decide)) (D93 (Or.inr (hw _ (List.mem_of_getElem? (i := 21) rfl))) (ty := (.object "java/nio/file/Path")) (by decide)) G93) hZ (hw _ (List.mem_of_getElem? (i := 6) rfl)) (hw _ (List.mem_of_getElem? (i := 3) rfl)) (by decide) (by decide)) (g := (mkF m 54 #[sI p0, sI p1, sI p2, sI (1 : Int32), sI (1 : Int32), sI (0 : Int32), sD dw, uS, uU, uU, uU, uU, uU] [(.ref a93), (.ref a93)])) rfl (by rw [hml]; rfl) (Steps.refl _) (a := a93) (argsL := []) (rest := [(.ref a93)]) (lenOf pd_rmI0 rfl) rfl (by show 2 * 0 + _ ≤ _; exact Nat.le_of_eq rfl) (hb hby at_54) (fun _ _ => ⟨rfl, e93, (by decide : 1 + 0 ≤ _), (by decide : 4 + 0 ≤ _)⟩)
        dsimp only [Pt.U, Pt.locs, Pt.cells, Pt.slots] at X94 l94 y94 z94 st94 hQ94
        subst l94 y94 z94
        obtain ⟨rfl, N94, K94, O94⟩ := hQ94
        refine OwnGo.pre (fun t k => st94.trans k) ?_
        show OwnGo _ _ _ _ (T94.setTop (mkF m 57 #[sI p0, sI p1, sI p2, sI (1 : Int32), sI (1 : Int32), sI (0 : Int32), sD dw, uS, uU, uU, uU, uU, uU] [(.ref a93)]))
        have M94 := Fr.app N0 N94
        have Z94 : n0 ≤ T94.heap.size := Nat.le_trans Z93 K94.1
        refine OwnGo.pre (fun t k => XS.astore X94.here hx rfl (hb hby at_57) rfl rfl (l' := #[sI p0, sI p1, sI p2, sI (1 : Int32), sI (1 : Int32), sI (0 : Int32), sD dw, uS, sR a93, uU, uU, uU, uU]) rfl (XS.iloadN X94.here hx rfl (hb hby at_59) rfl (XS.ifNo X94.here hx rfl (hb hby at_60) rfl rfl (XS.aload X94.here hx rfl (hb hby at_63) rfl rfl (XS.dload X94.here hx rfl (hb hby at_65) rfl k))))) ?_
        show OwnGo _ _ _ _ (T94.setTop (mkF m 67 #[sI p0, sI p1, sI p2, sI (1 : Int32), sI (1 : Int32), sI (0 : Int32), sD dw, uS, sR a93, uU, uU, uU, uU] [(.double dw), (.ref a93)]))
        obtain ⟨cq95, kq95, qa95, qb95, qc95⟩ := isOf hZ rfl O94.1
        obtain ⟨_, _, ⟨T95, L95, k95, n95⟩, -, X95, ⟨Lc95, hQ95, l95, y95, z95⟩, st95⟩ := X94.virtualBack hx (y := (⟨"com/example/bellmin/bellmin/check/CheckOptions", "withWidth", "(D)Lcom/example/bellmin/bellmin/check/CheckOptions;"⟩ : MethodName)) (z := (⟨"com/example/bellmin/bellmin/check/CheckOptions", "withWidth", "(D)Lcom/example/bellmin/bellmin/check/CheckOptions;"⟩ : MethodName)) hown (mvT hZ (hw _ (List.mem_of_getElem? (i := 54) rfl))) (mvT hZ (hw _ (List.mem_of_getElem? (i := 55) rfl))) (notFace_of_selects (args := #[]) (mvT hZ (hw _ (List.mem_of_getElem? (i := 57) rfl)))) (mvT hZ (hw _ (List.mem_of_getElem? (i := 57) rfl))) (mvT hZ (hw _ (List.mem_of_getElem? (i := 56) rfl))) (by decide) (backOf (W := 0) (rmWW l Z a0 hw [] a93 dw 4517329193108106637 0 0 T94.heap n0 Z94 O94 (Or.inl rfl) (Or.inl rfl)) hZ (hw _ (List.mem_of_getElem? (i := 58) rfl)) (hw _ (List.mem_of_getElem? (i := 3) rfl)) (by decide) (by decide)) qa95 qc95 (g := (mkF m 67 #[sI p0, sI p1, sI p2, sI (1 : Int32), sI (1 : Int32), sI (0 : Int32), sD dw, uS, sR a93, uU, uU, uU, uU] [(.double dw), (.ref a93)])) rfl (by rw [hml]; rfl) (Steps.refl _) (argsL := [(.double dw)]) (rest := []) (lenOf pd_rmWW rfl) rfl (by show 2 * 0 + _ ≤ _; exact Nat.le_of_eq rfl) (hb hby at_67) (fun _ _ => ⟨rfl, rfl, (by decide : 1 + 1 ≤ _), (by decide : 4 + 4 ≤ _)⟩)
        dsimp only [Pt.U, Pt.locs, Pt.cells, Pt.slots] at X95 l95 y95 z95 st95 hQ95
        subst l95 y95 z95
        obtain ⟨o95, rfl, g95, N95, K95, O95⟩ := hQ95
        refine OwnGo.pre (fun t k => st95.trans k) ?_
        show OwnGo _ _ _ _ (T95.setTop (mkF m 70 #[sI p0, sI p1, sI p2, sI (1 : Int32), sI (1 : Int32), sI (0 : Int32), sD dw, uS, sR a93, uU, uU, uU, uU] [(.ref o95)]))
        have M95 := Fr.app M94 N95
        have Z95 : n0 ≤ T95.heap.size := Nat.le_trans Z94 K95.1
        have C95_a93 := O94.kp K95 nin0
        refine OwnGo.pre (fun t k => XS.astore X95.here hx rfl (hb hby at_70) rfl rfl (l' := #[sI p0, sI p1, sI p2, sI (1 : Int32), sI (1 : Int32), sI (0 : Int32), sD dw, uS, sR o95, uU, uU, uU, uU]) rfl (XS.iload X95.here hx rfl (hb hby at_72) rfl (XS.ifNo X95.here hx rfl (hb hby at_74) rfl rfl (XS.aload X95.here hx rfl (hb hby at_77) rfl rfl k)))) ?_
        show OwnGo _ _ _ _ (T95.setTop (mkF m 79 #[sI p0, sI p1, sI p2, sI (1 : Int32), sI (1 : Int32), sI (0 : Int32), sD dw, uS, sR o95, uU, uU, uU, uU] [(.ref o95)]))
        obtain ⟨cq96, kq96, qa96, qb96, qc96⟩ := isOf hZ rfl O95.1
        obtain ⟨_, _, ⟨T96, L96, k96, n96⟩, -, X96, ⟨Lc96, hQ96, l96, y96, z96⟩, st96⟩ := X95.virtualBack hx (y := (⟨"com/example/bellmin/bellmin/check/CheckOptions", "withExact", "()Lcom/example/bellmin/bellmin/check/CheckOptions;"⟩ : MethodName)) (z := (⟨"com/example/bellmin/bellmin/check/CheckOptions", "withExact", "()Lcom/example/bellmin/bellmin/check/CheckOptions;"⟩ : MethodName)) hown (mvT hZ (hw _ (List.mem_of_getElem? (i := 22) rfl))) (mvT hZ (hw _ (List.mem_of_getElem? (i := 23) rfl))) (notFace_of_selects (args := #[]) (mvT hZ (hw _ (List.mem_of_getElem? (i := 25) rfl)))) (mvT hZ (hw _ (List.mem_of_getElem? (i := 25) rfl))) (mvT hZ (hw _ (List.mem_of_getElem? (i := 24) rfl))) (by decide) (backOf (W := 0) (rmWE l Z a0 hw [] o95 dw 0 0 T95.heap n0 Z95 O95 (Or.inl rfl) (Or.inl rfl)) hZ (hw _ (List.mem_of_getElem? (i := 26) rfl)) (hw _ (List.mem_of_getElem? (i := 3) rfl)) (by decide) (by decide)) qa96 qc96 (g := (mkF m 79 #[sI p0, sI p1, sI p2, sI (1 : Int32), sI (1 : Int32), sI (0 : Int32), sD dw, uS, sR o95, uU, uU, uU, uU] [(.ref o95)])) rfl (by rw [hml]; rfl) (Steps.refl _) (argsL := []) (rest := []) (lenOf pd_rmWE rfl) rfl (by show 2 * 0 + _ ≤ _; exact Nat.le_of_eq rfl) (hb hby at_79) (fun _ _ => ⟨rfl, rfl, (by decide : 2 + 1 ≤ _), (by decide : 8 + 4 ≤ _)⟩)
        dsimp only [Pt.U, Pt.locs, Pt.cells, Pt.slots] at X96 l96 y96 z96 st96 hQ96
        subst l96 y96 z96
        obtain ⟨o96, rfl, g96, N96, K96, O96⟩ := hQ96
        refine OwnGo.pre (fun t k => st96.trans k) ?_
        show OwnGo _ _ _ _ (T96.setTop (mkF m 82 #[sI p0, sI p1, sI p2, sI (1 : Int32), sI (1 : Int32), sI (0 : Int32), sD dw, uS, sR o95, uU, uU, uU, uU] [(.ref o96)]))
        have M96 := Fr.app M95 N96
        have Z96 : n0 ≤ T96.heap.size := Nat.le_trans Z95 K96.1
        have C96_a93 := C95_a93.kp K96 nin0
        have C96_o95 := O95.kp K96 nin0
        refine OwnGo.pre (fun t k => XS.astore X96.here hx rfl (hb hby at_82) rfl rfl (l' := #[sI p0, sI p1, sI p2, sI (1 : Int32), sI (1 : Int32), sI (0 : Int32), sD dw, uS, sR o96, uU, uU, uU, uU]) rfl (XS.iload X96.here hx rfl (hb hby at_84) rfl (XS.ifYes X96.here hx rfl (pc0 := 86) (pc' := 96) rfl (hb hby at_86) rfl rfl (by decide) (by decide) (XS.aload X96.here hx rfl (hb hby at_96) rfl rfl k)))) ?_
        show OwnGo _ _ _ _ (T96.setTop (mkF m 98 #[sI p0, sI p1, sI p2, sI (1 : Int32), sI (1 : Int32), sI (0 : Int32), sD dw, uS, sR o96, uU, uU, uU, uU] [(.ref o96)]))
        obtain ⟨cq97, kq97, qa97, qb97, qc97⟩ := isOf hZ rfl O96.1
        obtain ⟨_, _, ⟨T97, L97, k97, n97⟩, -, X97, ⟨Lc97, hQ97, l97, y97, z97⟩, st97⟩ := X96.virtualBack hx (y := (⟨"com/example/bellmin/bellmin/check/CheckOptions", "withStrategies", "()Lcom/example/bellmin/bellmin/check/CheckOptions;"⟩ : MethodName)) (z := (⟨"com/example/bellmin/bellmin/check/CheckOptions", "withStrategies", "()Lcom/example/bellmin/bellmin/check/CheckOptions;"⟩ : MethodName)) hown (mvT hZ (hw _ (List.mem_of_getElem? (i := 28) rfl))) (mvT hZ (hw _ (List.mem_of_getElem? (i := 29) rfl))) (notFace_of_selects (args := #[]) (mvT hZ (hw _ (List.mem_of_getElem? (i := 31) rfl)))) (mvT hZ (hw _ (List.mem_of_getElem? (i := 31) rfl))) (mvT hZ (hw _ (List.mem_of_getElem? (i := 30) rfl))) (by decide) (backOf (W := 0) (rmWS l Z a0 hw [] o96 dw 1 0 T96.heap n0 Z96 O96 (Or.inr rfl) (Or.inl rfl)) hZ (hw _ (List.mem_of_getElem? (i := 32) rfl)) (hw _ (List.mem_of_getElem? (i := 3) rfl)) (by decide) (by decide)) qa97 qc97 (g := (mkF m 98 #[sI p0, sI p1, sI p2, sI (1 : Int32), sI (1 : Int32), sI (0 : Int32), sD dw, uS, sR o96, uU, uU, uU, uU] [(.ref o96)])) rfl (by rw [hml]; rfl) (Steps.refl _) (argsL := []) (rest := []) (lenOf pd_rmWS rfl) rfl (by show 2 * 0 + _ ≤ _; exact Nat.le_of_eq rfl) (hb hby at_98) (fun _ _ => ⟨rfl, rfl, (by decide : 3 + 1 ≤ _), (by decide : 12 + 4 ≤ _)⟩)
        dsimp only [Pt.U, Pt.locs, Pt.cells, Pt.slots] at X97 l97 y97 z97 st97 hQ97
        subst l97 y97 z97
        obtain ⟨o97, rfl, g97, N97, K97, O97⟩ := hQ97
        refine OwnGo.pre (fun t k => st97.trans k) ?_
        show OwnGo _ _ _ _ (T97.setTop (mkF m 101 #[sI p0, sI p1, sI p2, sI (1 : Int32), sI (1 : Int32), sI (0 : Int32), sD dw, uS, sR o96, uU, uU, uU, uU] [(.ref o97)]))
        have M97 := Fr.app M96 N97
        have Z97 : n0 ≤ T97.heap.size := Nat.le_trans Z96 K97.1
        have C97_a93 := C96_a93.kp K97 nin0
        have C97_o95 := C96_o95.kp K97 nin0
        have C97_o96 := O96.kp K97 nin0
        refine OwnGo.pre (fun t k => XS.astore X97.here hx rfl (hb hby at_101) rfl rfl (l' := #[sI p0, sI p1, sI p2, sI (1 : Int32), sI (1 : Int32), sI (0 : Int32), sD dw, uS, sR o96, sR o97, uU, uU, uU]) rfl (XS.iloadN X97.here hx rfl (hb hby at_103) rfl (XS.ifNo X97.here hx rfl (hb hby at_104) rfl rfl (XS.dload X97.here hx rfl (hb hby at_107) rfl (XS.goto X97.here hx rfl (pc0 := 109) (pc' := 115) rfl (hb hby at_109) (by decide) (by decide) (XS.dstore X97.here hx rfl (hb hby at_115) rfl (l' := #[sI p0, sI p1, sI p2, sI (1 : Int32), sI (1 : Int32), sI (0 : Int32), sD dw, uS, sR o96, sR o97, sD dw, uS, uU]) rfl (XS.aload X97.here hx rfl (hb hby at_117) rfl rfl (XS.ifnullNo X97.here hx rfl (hb hby at_119) rfl k)))))))) ?_
        show OwnGo _ _ _ _ (T97.setTop (mkF m 122 #[sI p0, sI p1, sI p2, sI (1 : Int32), sI (1 : Int32), sI (0 : Int32), sD dw, uS, sR o96, sR o97, sD dw, uS, uU] []))
        refine OwnGo.pre (fun t k => XS.aload X97.here hx rfl (hb hby at_122) rfl rfl k) ?_
        show OwnGo _ _ _ _ (T97.setTop (mkF m 124 #[sI p0, sI p1, sI p2, sI (1 : Int32), sI (1 : Int32), sI (0 : Int32), sD dw, uS, sR o96, sR o97, sD dw, uS, uU] [(.ref o97)]))
        obtain ⟨cq98, kq98, qa98, qb98, qc98⟩ := isOf hZ rfl O97.1
        obtain ⟨_, _, ⟨T98, L98, k98, n98⟩, -, X98, ⟨Lc98, hQ98, l98, y98, z98⟩, st98⟩ := X97.virtualBack hx (y := (⟨"com/example/bellmin/bellmin/check/CheckOptions", "strategies", "()Z"⟩ : MethodName)) (z := (⟨"com/example/bellmin/bellmin/check/CheckOptions", "strategies", "()Z"⟩ : MethodName)) hown (mvT hZ (hw _ (List.mem_of_getElem? (i := 34) rfl))) (mvT hZ (hw _ (List.mem_of_getElem? (i := 35) rfl))) (notFace_of_selects (args := #[]) (mvT hZ (hw _ (List.mem_of_getElem? (i := 37) rfl)))) (mvT hZ (hw _ (List.mem_of_getElem? (i := 37) rfl))) (mvT hZ (hw _ (List.mem_of_getElem? (i := 36) rfl))) (by decide) (backOf (W := 0) (rmGS l Z a0 hw [] o97 dw 1 1 T97.heap n0 Z97 O97) hZ (hw _ (List.mem_of_getElem? (i := 38) rfl)) (hw _ (List.mem_of_getElem? (i := 3) rfl)) (by decide) (by decide)) qa98 qc98 (g := (mkF m 124 #[sI p0, sI p1, sI p2, sI (1 : Int32), sI (1 : Int32), sI (0 : Int32), sD dw, uS, sR o96, sR o97, sD dw, uS, uU] [(.ref o97)])) rfl (by rw [hml]; rfl) (Steps.refl _) (argsL := []) (rest := []) (lenOf pd_rmGS rfl) rfl (by show 2 * 0 + _ ≤ _; exact Nat.le_of_eq rfl) (hb hby at_124) (fun _ _ => ⟨rfl, rfl, (by decide : 4 + 0 ≤ _), (by decide : 16 + 0 ≤ _)⟩)
        dsimp only [Pt.U, Pt.locs, Pt.cells, Pt.slots] at X98 l98 y98 z98 st98 hQ98
        subst l98 y98 z98
        obtain ⟨rfl, N98, e98⟩ := hQ98
        refine OwnGo.pre (fun t k => st98.trans k) ?_
        show OwnGo _ _ _ _ (T98.setTop (mkF m 127 #[sI p0, sI p1, sI p2, sI (1 : Int32), sI (1 : Int32), sI (0 : Int32), sD dw, uS, sR o96, sR o97, sD dw, uS, uU] [(.int (nar .boolean 1))]))
        have M98 := Fr.app M97 N98
        refine OwnGo.pre (fun t k => XS.ifNo X98.here hx rfl (hb hby at_127) rfl (by decide) (XS.aload X98.here hx rfl (hb hby at_130) rfl rfl k)) ?_
        show OwnGo _ _ _ _ (T98.setTop (mkF m 132 #[sI p0, sI p1, sI p2, sI (1 : Int32), sI (1 : Int32), sI (0 : Int32), sD dw, uS, sR o96, sR o97, sD dw, uS, uU] [(.ref o97)]))
        obtain ⟨cq99, kq99, qa99, qb99, qc99⟩ := isOf hZ e98 O97.1
        obtain ⟨_, _, ⟨T99, L99, k99, n99⟩, -, X99, ⟨Lc99, hQ99, l99, y99, z99⟩, st99⟩ := X98.virtualBack hx (y := (⟨"com/example/bellmin/bellmin/check/CheckOptions", "width", "()D"⟩ : MethodName)) (z := (⟨"com/example/bellmin/bellmin/check/CheckOptions", "width", "()D"⟩ : MethodName)) hown (mvT hZ (hw _ (List.mem_of_getElem? (i := 39) rfl))) (mvT hZ (hw _ (List.mem_of_getElem? (i := 40) rfl))) (notFace_of_selects (args := #[]) (mvT hZ (hw _ (List.mem_of_getElem? (i := 42) rfl)))) (mvT hZ (hw _ (List.mem_of_getElem? (i := 42) rfl))) (mvT hZ (hw _ (List.mem_of_getElem? (i := 41) rfl))) (by decide) (backOf (W := 0) (rmGW l Z a0 hw [] o97 dw 1 1 T97.heap n0 Z97 O97) hZ (hw _ (List.mem_of_getElem? (i := 43) rfl)) (hw _ (List.mem_of_getElem? (i := 3) rfl)) (by decide) (by decide)) qa99 qc99 (g := (mkF m 132 #[sI p0, sI p1, sI p2, sI (1 : Int32), sI (1 : Int32), sI (0 : Int32), sD dw, uS, sR o96, sR o97, sD dw, uS, uU] [(.ref o97)])) rfl (by rw [hml]; rfl) (Steps.refl _) (argsL := []) (rest := []) (lenOf pd_rmGW rfl) rfl (by show 2 * 0 + _ ≤ _; exact Nat.le_of_eq rfl) (hb hby at_132) (fun _ _ => ⟨rfl, e98, (by decide : 4 + 0 ≤ _), (by decide : 16 + 0 ≤ _)⟩)
        dsimp only [Pt.U, Pt.locs, Pt.cells, Pt.slots] at X99 l99 y99 z99 st99 hQ99
        subst l99 y99 z99
        obtain ⟨rfl, N99, e99⟩ := hQ99
        refine OwnGo.pre (fun t k => st99.trans k) ?_
        show OwnGo _ _ _ _ (T99.setTop (mkF m 135 #[sI p0, sI p1, sI p2, sI (1 : Int32), sI (1 : Int32), sI (0 : Int32), sD dw, uS, sR o96, sR o97, sD dw, uS, uU] [(.double dw)]))
        have M99 := Fr.app M98 N99
        refine OwnGo.pre (fun t k => XS.dload X99.here hx rfl (hb hby at_135) rfl (XS.dcmpS X99.here hx rfl (hb hby at_137) rfl rfl (XS.ifNo X99.here hx rfl (hb hby at_138) rfl (by rw [dcmpV_self nw]; rfl) (XS.aload X99.here hx rfl (hb hby at_141) rfl rfl k)))) ?_
        show OwnGo _ _ _ _ (T99.setTop (mkF m 143 #[sI p0, sI p1, sI p2, sI (1 : Int32), sI (1 : Int32), sI (0 : Int32), sD dw, uS, sR o96, sR o97, sD dw, uS, uU] [(.ref o97)]))
        obtain ⟨cq100, kq100, qa100, qb100, qc100⟩ := isOf hZ e99 O97.1
        obtain ⟨_, _, ⟨T100, L100, k100, n100⟩, -, X100, ⟨Lc100, hQ100, l100, y100, z100⟩, st100⟩ := X99.virtualBack hx (y := (⟨"com/example/bellmin/bellmin/check/CheckOptions", "exact", "()Z"⟩ : MethodName)) (z := (⟨"com/example/bellmin/bellmin/check/CheckOptions", "exact", "()Z"⟩ : MethodName)) hown (mvT hZ (hw _ (List.mem_of_getElem? (i := 44) rfl))) (mvT hZ (hw _ (List.mem_of_getElem? (i := 45) rfl))) (notFace_of_selects (args := #[]) (mvT hZ (hw _ (List.mem_of_getElem? (i := 47) rfl)))) (mvT hZ (hw _ (List.mem_of_getElem? (i := 47) rfl))) (mvT hZ (hw _ (List.mem_of_getElem? (i := 46) rfl))) (by decide) (backOf (W := 0) (rmGE l Z a0 hw [] o97 dw 1 1 T97.heap n0 Z97 O97) hZ (hw _ (List.mem_of_getElem? (i := 48) rfl)) (hw _ (List.mem_of_getElem? (i := 3) rfl)) (by decide) (by decide)) qa100 qc100 (g := (mkF m 143 #[sI p0, sI p1, sI p2, sI (1 : Int32), sI (1 : Int32), sI (0 : Int32), sD dw, uS, sR o96, sR o97, sD dw, uS, uU] [(.ref o97)])) rfl (by rw [hml]; rfl) (Steps.refl _) (argsL := []) (rest := []) (lenOf pd_rmGE rfl) rfl (by show 2 * 0 + _ ≤ _; exact Nat.le_of_eq rfl) (hb hby at_143) (fun _ _ => ⟨rfl, e99, (by decide : 4 + 0 ≤ _), (by decide : 16 + 0 ≤ _)⟩)
        dsimp only [Pt.U, Pt.locs, Pt.cells, Pt.slots] at X100 l100 y100 z100 st100 hQ100
        subst l100 y100 z100
        obtain ⟨rfl, N100, e100⟩ := hQ100
        refine OwnGo.pre (fun t k => st100.trans k) ?_
        show OwnGo _ _ _ _ (T100.setTop (mkF m 146 #[sI p0, sI p1, sI p2, sI (1 : Int32), sI (1 : Int32), sI (0 : Int32), sD dw, uS, sR o96, sR o97, sD dw, uS, uU] [(.int (nar .boolean 1))]))
        have M100 := Fr.app M99 N100
        refine OwnGo.pre (fun t k => XS.iload X100.here hx rfl (hb hby at_146) rfl (XS.icmpNo X100.here hx rfl (hb hby at_148) rfl (by decide) (XS.aload X100.here hx rfl (hb hby at_151) rfl rfl k))) ?_
        show OwnGo _ _ _ _ (T100.setTop (mkF m 153 #[sI p0, sI p1, sI p2, sI (1 : Int32), sI (1 : Int32), sI (0 : Int32), sD dw, uS, sR o96, sR o97, sD dw, uS, uU] [(.ref o97)]))
        obtain ⟨cq101, kq101, qa101, qb101, qc101⟩ := isOf hZ e100 O97.1
        obtain ⟨_, _, ⟨T101, L101, k101, n101⟩, -, X101, ⟨Lc101, hQ101, l101, y101, z101⟩, st101⟩ := X100.virtualBack hx (y := (⟨"com/example/bellmin/bellmin/check/CheckOptions", "applied", "()Ljava/nio/file/Path;"⟩ : MethodName)) (z := (⟨"com/example/bellmin/bellmin/check/CheckOptions", "applied", "()Ljava/nio/file/Path;"⟩ : MethodName)) hown (mvT hZ (hw _ (List.mem_of_getElem? (i := 49) rfl))) (mvT hZ (hw _ (List.mem_of_getElem? (i := 50) rfl))) (notFace_of_selects (args := #[]) (mvT hZ (hw _ (List.mem_of_getElem? (i := 52) rfl)))) (mvT hZ (hw _ (List.mem_of_getElem? (i := 52) rfl))) (mvT hZ (hw _ (List.mem_of_getElem? (i := 51) rfl))) (by decide) (backOf (W := 0) (rmGA l Z a0 hw [] o97 dw 1 1 T97.heap n0 Z97 O97) hZ (hw _ (List.mem_of_getElem? (i := 53) rfl)) (hw _ (List.mem_of_getElem? (i := 3) rfl)) (by decide) (by decide)) qa101 qc101 (g := (mkF m 153 #[sI p0, sI p1, sI p2, sI (1 : Int32), sI (1 : Int32), sI (0 : Int32), sD dw, uS, sR o96, sR o97, sD dw, uS, uU] [(.ref o97)])) rfl (by rw [hml]; rfl) (Steps.refl _) (argsL := []) (rest := []) (lenOf pd_rmGA rfl) rfl (by show 2 * 0 + _ ≤ _; exact Nat.le_of_eq rfl) (hb hby at_153) (fun _ _ => ⟨rfl, e100, (by decide : 4 + 0 ≤ _), (by decide : 16 + 0 ≤ _)⟩)
        dsimp only [Pt.U, Pt.locs, Pt.cells, Pt.slots] at X101 l101 y101 z101 st101 hQ101
        subst l101 y101 z101
        obtain ⟨rfl, N101, e101⟩ := hQ101
        refine OwnGo.pre (fun t k => st101.trans k) ?_
        show OwnGo _ _ _ _ (T101.setTop (mkF m 156 #[sI p0, sI p1, sI p2, sI (1 : Int32), sI (1 : Int32), sI (0 : Int32), sD dw, uS, sR o96, sR o97, sD dw, uS, uU] [.null]))
        have M101 := Fr.app M100 N101
        refine OwnGo.pre (fun t k => XT.ifnonnullNo X101.here hx rfl (hb hby at_156) rfl (XS.aload X101.here hx rfl (hb hby at_159) rfl rfl k)) ?_
        show OwnGo _ _ _ _ (T101.setTop (mkF m 161 #[sI p0, sI p1, sI p2, sI (1 : Int32), sI (1 : Int32), sI (0 : Int32), sD dw, uS, sR o96, sR o97, sD dw, uS, uU] [(.ref o96)]))
        obtain ⟨cq102, kq102, qa102, qb102, qc102⟩ := isOf hZ e101 C97_o96.1
        obtain ⟨_, _, ⟨T102, L102, k102, n102⟩, -, X102, ⟨Lc102, hQ102, l102, y102, z102⟩, st102⟩ := X101.virtualBack hx (y := (⟨"com/example/bellmin/bellmin/check/CheckOptions", "strategies", "()Z"⟩ : MethodName)) (z := (⟨"com/example/bellmin/bellmin/check/CheckOptions", "strategies", "()Z"⟩ : MethodName)) hown (mvT hZ (hw _ (List.mem_of_getElem? (i := 34) rfl))) (mvT hZ (hw _ (List.mem_of_getElem? (i := 35) rfl))) (notFace_of_selects (args := #[]) (mvT hZ (hw _ (List.mem_of_getElem? (i := 37) rfl)))) (mvT hZ (hw _ (List.mem_of_getElem? (i := 37) rfl))) (mvT hZ (hw _ (List.mem_of_getElem? (i := 36) rfl))) (by decide) (backOf (W := 0) (rmGS l Z a0 hw [] o96 dw 1 0 T97.heap n0 Z97 C97_o96) hZ (hw _ (List.mem_of_getElem? (i := 38) rfl)) (hw _ (List.mem_of_getElem? (i := 3) rfl)) (by decide) (by decide)) qa102 qc102 (g := (mkF m 161 #[sI p0, sI p1, sI p2, sI (1 : Int32), sI (1 : Int32), sI (0 : Int32), sD dw, uS, sR o96, sR o97, sD dw, uS, uU] [(.ref o96)])) rfl (by rw [hml]; rfl) (Steps.refl _) (argsL := []) (rest := []) (lenOf pd_rmGS rfl) rfl (by show 2 * 0 + _ ≤ _; exact Nat.le_of_eq rfl) (hb hby at_161) (fun _ _ => ⟨rfl, e101, (by decide : 4 + 0 ≤ _), (by decide : 16 + 0 ≤ _)⟩)
        dsimp only [Pt.U, Pt.locs, Pt.cells, Pt.slots] at X102 l102 y102 z102 st102 hQ102
        subst l102 y102 z102
        obtain ⟨rfl, N102, e102⟩ := hQ102
        refine OwnGo.pre (fun t k => st102.trans k) ?_
        show OwnGo _ _ _ _ (T102.setTop (mkF m 164 #[sI p0, sI p1, sI p2, sI (1 : Int32), sI (1 : Int32), sI (0 : Int32), sD dw, uS, sR o96, sR o97, sD dw, uS, uU] [(.int (nar .boolean 0))]))
        have M102 := Fr.app M101 N102
        refine OwnGo.pre (fun t k => XS.iload X102.here hx rfl (hb hby at_164) rfl (XS.icmpNo X102.here hx rfl (hb hby at_166) rfl (by decide) (XS.aload X102.here hx rfl (hb hby at_169) rfl rfl k))) ?_
        show OwnGo _ _ _ _ (T102.setTop (mkF m 171 #[sI p0, sI p1, sI p2, sI (1 : Int32), sI (1 : Int32), sI (0 : Int32), sD dw, uS, sR o96, sR o97, sD dw, uS, uU] [(.ref o96)]))
        obtain ⟨cq103, kq103, qa103, qb103, qc103⟩ := isOf hZ e102 C97_o96.1
        obtain ⟨_, _, ⟨T103, L103, k103, n103⟩, -, X103, ⟨Lc103, hQ103, l103, y103, z103⟩, st103⟩ := X102.virtualBack hx (y := (⟨"com/example/bellmin/bellmin/check/CheckOptions", "width", "()D"⟩ : MethodName)) (z := (⟨"com/example/bellmin/bellmin/check/CheckOptions", "width", "()D"⟩ : MethodName)) hown (mvT hZ (hw _ (List.mem_of_getElem? (i := 39) rfl))) (mvT hZ (hw _ (List.mem_of_getElem? (i := 40) rfl))) (notFace_of_selects (args := #[]) (mvT hZ (hw _ (List.mem_of_getElem? (i := 42) rfl)))) (mvT hZ (hw _ (List.mem_of_getElem? (i := 42) rfl))) (mvT hZ (hw _ (List.mem_of_getElem? (i := 41) rfl))) (by decide) (backOf (W := 0) (rmGW l Z a0 hw [] o96 dw 1 0 T97.heap n0 Z97 C97_o96) hZ (hw _ (List.mem_of_getElem? (i := 43) rfl)) (hw _ (List.mem_of_getElem? (i := 3) rfl)) (by decide) (by decide)) qa103 qc103 (g := (mkF m 171 #[sI p0, sI p1, sI p2, sI (1 : Int32), sI (1 : Int32), sI (0 : Int32), sD dw, uS, sR o96, sR o97, sD dw, uS, uU] [(.ref o96)])) rfl (by rw [hml]; rfl) (Steps.refl _) (argsL := []) (rest := []) (lenOf pd_rmGW rfl) rfl (by show 2 * 0 + _ ≤ _; exact Nat.le_of_eq rfl) (hb hby at_171) (fun _ _ => ⟨rfl, e102, (by decide : 4 + 0 ≤ _), (by decide : 16 + 0 ≤ _)⟩)
        dsimp only [Pt.U, Pt.locs, Pt.cells, Pt.slots] at X103 l103 y103 z103 st103 hQ103
        subst l103 y103 z103
        obtain ⟨rfl, N103, e103⟩ := hQ103
        refine OwnGo.pre (fun t k => st103.trans k) ?_
        show OwnGo _ _ _ _ (T103.setTop (mkF m 174 #[sI p0, sI p1, sI p2, sI (1 : Int32), sI (1 : Int32), sI (0 : Int32), sD dw, uS, sR o96, sR o97, sD dw, uS, uU] [(.double dw)]))
        have M103 := Fr.app M102 N103
        refine OwnGo.pre (fun t k => XS.dload X103.here hx rfl (hb hby at_174) rfl (XS.dcmpS X103.here hx rfl (hb hby at_176) rfl rfl (XS.ifNo X103.here hx rfl (hb hby at_177) rfl (by rw [dcmpV_self nw]; rfl) (XS.aload X103.here hx rfl (hb hby at_180) rfl rfl k)))) ?_
        show OwnGo _ _ _ _ (T103.setTop (mkF m 182 #[sI p0, sI p1, sI p2, sI (1 : Int32), sI (1 : Int32), sI (0 : Int32), sD dw, uS, sR o96, sR o97, sD dw, uS, uU] [(.ref o96)]))
        obtain ⟨cq104, kq104, qa104, qb104, qc104⟩ := isOf hZ e103 C97_o96.1
        obtain ⟨_, _, ⟨T104, L104, k104, n104⟩, -, X104, ⟨Lc104, hQ104, l104, y104, z104⟩, st104⟩ := X103.virtualBack hx (y := (⟨"com/example/bellmin/bellmin/check/CheckOptions", "exact", "()Z"⟩ : MethodName)) (z := (⟨"com/example/bellmin/bellmin/check/CheckOptions", "exact", "()Z"⟩ : MethodName)) hown (mvT hZ (hw _ (List.mem_of_getElem? (i := 44) rfl))) (mvT hZ (hw _ (List.mem_of_getElem? (i := 45) rfl))) (notFace_of_selects (args := #[]) (mvT hZ (hw _ (List.mem_of_getElem? (i := 47) rfl)))) (mvT hZ (hw _ (List.mem_of_getElem? (i := 47) rfl))) (mvT hZ (hw _ (List.mem_of_getElem? (i := 46) rfl))) (by decide) (backOf (W := 0) (rmGE l Z a0 hw [] o96 dw 1 0 T97.heap n0 Z97 C97_o96) hZ (hw _ (List.mem_of_getElem? (i := 48) rfl)) (hw _ (List.mem_of_getElem? (i := 3) rfl)) (by decide) (by decide)) qa104 qc104 (g := (mkF m 182 #[sI p0, sI p1, sI p2, sI (1 : Int32), sI (1 : Int32), sI (0 : Int32), sD dw, uS, sR o96, sR o97, sD dw, uS, uU] [(.ref o96)])) rfl (by rw [hml]; rfl) (Steps.refl _) (argsL := []) (rest := []) (lenOf pd_rmGE rfl) rfl (by show 2 * 0 + _ ≤ _; exact Nat.le_of_eq rfl) (hb hby at_182) (fun _ _ => ⟨rfl, e103, (by decide : 4 + 0 ≤ _), (by decide : 16 + 0 ≤ _)⟩)
        dsimp only [Pt.U, Pt.locs, Pt.cells, Pt.slots] at X104 l104 y104 z104 st104 hQ104
        subst l104 y104 z104
        obtain ⟨rfl, N104, e104⟩ := hQ104
        refine OwnGo.pre (fun t k => st104.trans k) ?_
        show OwnGo _ _ _ _ (T104.setTop (mkF m 185 #[sI p0, sI p1, sI p2, sI (1 : Int32), sI (1 : Int32), sI (0 : Int32), sD dw, uS, sR o96, sR o97, sD dw, uS, uU] [(.int (nar .boolean 1))]))
        have M104 := Fr.app M103 N104
        refine OwnGo.pre (fun t k => XS.iload X104.here hx rfl (hb hby at_185) rfl (XS.icmpNo X104.here hx rfl (hb hby at_187) rfl (by decide) (XS.iconst X104.here hx rfl (hb hby at_190) (XS.goto X104.here hx rfl (pc0 := 191) (pc' := 195) rfl (hb hby at_191) (by decide) (by decide) (XS.istore X104.here hx rfl (hb hby at_195) rfl (l' := #[sI p0, sI p1, sI p2, sI (1 : Int32), sI (1 : Int32), sI (0 : Int32), sD dw, uS, sR o96, sR o97, sD dw, uS, sI (1 : Int32)]) rfl (XS.iload X104.here hx rfl (hb hby at_197) rfl k)))))) ?_
        show OwnGo _ _ _ _ (T104.setTop (mkF m 199 #[sI p0, sI p1, sI p2, sI (1 : Int32), sI (1 : Int32), sI (0 : Int32), sD dw, uS, sR o96, sR o97, sD dw, uS, sI (1 : Int32)] [(.int (1 : Int32))]))
        exact own_retZ X104 hx hk hrt (hb hby at_199) ⟨rfl, M104⟩ (by decide) (by decide)
      · skip
        refine OwnGo.pre (fun t k => XS.ifNo X0.here hx rfl (hb hby at_28) rfl (eq_false_of_ne_true hf4) (XS.iconst X0.here hx rfl (hb hby at_31) (XS.goto X0.here hx rfl (pc0 := 32) (pc' := 36) rfl (hb hby at_32) (by decide) (by decide) (XS.istore X0.here hx rfl (hb hby at_36) rfl (l' := #[sI p0, sI p1, sI p2, sI (1 : Int32), sI (1 : Int32), sI (1 : Int32), uU, uU, uU, uU, uU, uU, uU]) rfl (XS.iloadN X0.here hx rfl (hb hby at_38) rfl (XS.i2dS X0.here hx rfl (hb hby at_39) rfl rfl (XS.iloadN X0.here hx rfl (hb hby at_40) rfl (own_ldcI X0 hx hown (mvT hZ (hw _ (List.mem_of_getElem? (i := 0) rfl))) rfl (hb hby at_41) k)))))))) ?_
        show OwnGo _ _ _ _ (s₁.setTop (mkF m 43 #[sI p0, sI p1, sI p2, sI (1 : Int32), sI (1 : Int32), sI (1 : Int32), uU, uU, uU, uU, uU, uU, uU] [(.int (65535 : Int32)), (.int p1), (.double (FP.i2d p0))]))
        obtain ⟨mb, hmb⟩ : ∃ v, (p1 &&& (65535 : Int32)) + (1 : Int32) = v := ⟨_, rfl⟩
        have Hb : mb ≠ 0 := fun q => by have q1 := Jvm.Kit.i32_mask p1 65535 (k := 16) (by decide) (by decide); have q2 : (1 : Int32).toInt = 1 := rfl; have q3 : ((p1 &&& (65535 : Int32)) + 1).toInt = (p1 &&& (65535 : Int32)).toInt + (1 : Int32).toInt := Jvm.Kit.i32_add (by omega) (by omega); rw [hmb, q] at q3; have q4 : (0 : Int32).toInt = 0 := rfl; omega
        have nw0 : Jvm.Free.Fl.NoNaN64 (FP.ddiv (FP.i2d p0) (FP.i2d mb)) := Jvm.Free.Fl.ddiv_out (Jvm.Free.Fl.i2d_fin p0).noNaN (Jvm.Free.Fl.i2d_fin mb) (Jvm.Free.Fl.i2d_nz Hb)
        obtain ⟨dw, hdw⟩ : ∃ v, FP.ddiv (FP.i2d p0) (FP.i2d mb) = v := ⟨_, rfl⟩
        have nw : Jvm.Free.Fl.NoNaN64 dw := hdw ▸ nw0
        refine OwnGo.pre (fun t k => own_iand X0.here hx rfl (hb hby at_43) rfl rfl (XS.iconst X0.here hx rfl (hb hby at_44) (own_iadd X0.here hx rfl (hb hby at_45) rfl hmb (XS.i2dS X0.here hx rfl (hb hby at_46) rfl rfl (XS.ddivS X0.here hx rfl (hb hby at_47) rfl nw0 hdw (XS.dstore X0.here hx rfl (hb hby at_48) rfl (l' := #[sI p0, sI p1, sI p2, sI (1 : Int32), sI (1 : Int32), sI (1 : Int32), sD dw, uS, uU, uU, uU, uU, uU]) rfl k)))))) ?_
        show OwnGo _ _ _ _ (s₁.setTop (mkF m 50 #[sI p0, sI p1, sI p2, sI (1 : Int32), sI (1 : Int32), sI (1 : Int32), sD dw, uS, uU, uU, uU, uU, uU] []))
        obtain ⟨T105, h105, X105, e105, E105, A105, D105, -, st105⟩ := newO X0 hx hZ hown (hw _ (List.mem_of_getElem? (i := 1) rfl)) (hw _ (List.mem_of_getElem? (i := 2) rfl)) (hw _ (List.mem_of_getElem? (i := 3) rfl)) e0 (g := (mkF m 50 #[sI p0, sI p1, sI p2, sI (1 : Int32), sI (1 : Int32), sI (1 : Int32), sD dw, uS, uU, uU, uU, uU, uU] [])) rfl (hb hby at_50) (by decide) (by decide)
        obtain ⟨a105, g105⟩ : ∃ z, z = h0.size := ⟨_, rfl⟩
        rw [← g105] at A105 D105 st105
        have G105 : n0 ≤ a105 := Nat.le_trans Z0 (Nat.le_of_eq g105.symm)
        have Z105 : n0 ≤ h105.size := Nat.le_trans Z0 E105.1
        refine OwnGo.pre (fun t k => st105 t k) ?_
        show OwnGo _ _ _ _ (T105.setTop (mkF m 53 #[sI p0, sI p1, sI p2, sI (1 : Int32), sI (1 : Int32), sI (1 : Int32), sD dw, uS, uU, uU, uU, uU, uU] [(.ref a105)]))
        refine OwnGo.pre (fun t k => XS.dup X105.here hx rfl (hb hby at_53) rfl rfl k) ?_
        show OwnGo _ _ _ _ (T105.setTop (mkF m 54 #[sI p0, sI p1, sI p2, sI (1 : Int32), sI (1 : Int32), sI (1 : Int32), sD dw, uS, uU, uU, uU, uU, uU] [(.ref a105), (.ref a105)]))
        obtain ⟨_, _, ⟨T106, L106, k106, n106⟩, -, X106, ⟨Lc106, hQ106, l106, y106, z106⟩, st106⟩ := X105.specialBack hx (y := (⟨"com/example/bellmin/bellmin/check/CheckOptions", "<init>", "()V"⟩ : MethodName)) rfl hown (mvT hZ (hw _ (List.mem_of_getElem? (i := 4) rfl))) (mvT hZ (hw _ (List.mem_of_getElem? (i := 5) rfl))) (mvT hZ (hw _ (List.mem_of_getElem? (i := 6) rfl))) (by decide) (backOf (W := 1) (rmI0 l Z a0 hw [] a105 h105 n0 Z105 A105 (D105 (Or.inr (hw _ (List.mem_of_getElem? (i := 15) rfl))) (ty := .double) (by decide)) (D105 (Or.inr (hw _ (List.mem_of_getElem? (i := 17) rfl))) (ty := .boolean) (by decide)) (D105 (Or.inr (hw _ (List.mem_of_getElem? (i := 19) rfl))) (ty := .boolean) (by decide)) (D105 (Or.inr (hw _ (List.mem_of_getElem? (i := 21) rfl))) (ty := (.object "java/nio/file/Path")) (by decide)) G105) hZ (hw _ (List.mem_of_getElem? (i := 6) rfl)) (hw _ (List.mem_of_getElem? (i := 3) rfl)) (by decide) (by decide)) (g := (mkF m 54 #[sI p0, sI p1, sI p2, sI (1 : Int32), sI (1 : Int32), sI (1 : Int32), sD dw, uS, uU, uU, uU, uU, uU] [(.ref a105), (.ref a105)])) rfl (by rw [hml]; rfl) (Steps.refl _) (a := a105) (argsL := []) (rest := [(.ref a105)]) (lenOf pd_rmI0 rfl) rfl (by show 2 * 0 + _ ≤ _; exact Nat.le_of_eq rfl) (hb hby at_54) (fun _ _ => ⟨rfl, e105, (by decide : 1 + 0 ≤ _), (by decide : 4 + 0 ≤ _)⟩)
        dsimp only [Pt.U, Pt.locs, Pt.cells, Pt.slots] at X106 l106 y106 z106 st106 hQ106
        subst l106 y106 z106
        obtain ⟨rfl, N106, K106, O106⟩ := hQ106
        refine OwnGo.pre (fun t k => st106.trans k) ?_
        show OwnGo _ _ _ _ (T106.setTop (mkF m 57 #[sI p0, sI p1, sI p2, sI (1 : Int32), sI (1 : Int32), sI (1 : Int32), sD dw, uS, uU, uU, uU, uU, uU] [(.ref a105)]))
        have M106 := Fr.app N0 N106
        have Z106 : n0 ≤ T106.heap.size := Nat.le_trans Z105 K106.1
        refine OwnGo.pre (fun t k => XS.astore X106.here hx rfl (hb hby at_57) rfl rfl (l' := #[sI p0, sI p1, sI p2, sI (1 : Int32), sI (1 : Int32), sI (1 : Int32), sD dw, uS, sR a105, uU, uU, uU, uU]) rfl (XS.iloadN X106.here hx rfl (hb hby at_59) rfl (XS.ifNo X106.here hx rfl (hb hby at_60) rfl rfl (XS.aload X106.here hx rfl (hb hby at_63) rfl rfl (XS.dload X106.here hx rfl (hb hby at_65) rfl k))))) ?_
        show OwnGo _ _ _ _ (T106.setTop (mkF m 67 #[sI p0, sI p1, sI p2, sI (1 : Int32), sI (1 : Int32), sI (1 : Int32), sD dw, uS, sR a105, uU, uU, uU, uU] [(.double dw), (.ref a105)]))
        obtain ⟨cq107, kq107, qa107, qb107, qc107⟩ := isOf hZ rfl O106.1
        obtain ⟨_, _, ⟨T107, L107, k107, n107⟩, -, X107, ⟨Lc107, hQ107, l107, y107, z107⟩, st107⟩ := X106.virtualBack hx (y := (⟨"com/example/bellmin/bellmin/check/CheckOptions", "withWidth", "(D)Lcom/example/bellmin/bellmin/check/CheckOptions;"⟩ : MethodName)) (z := (⟨"com/example/bellmin/bellmin/check/CheckOptions", "withWidth", "(D)Lcom/example/bellmin/bellmin/check/CheckOptions;"⟩ : MethodName)) hown (mvT hZ (hw _ (List.mem_of_getElem? (i := 54) rfl))) (mvT hZ (hw _ (List.mem_of_getElem? (i := 55) rfl))) (notFace_of_selects (args := #[]) (mvT hZ (hw _ (List.mem_of_getElem? (i := 57) rfl)))) (mvT hZ (hw _ (List.mem_of_getElem? (i := 57) rfl))) (mvT hZ (hw _ (List.mem_of_getElem? (i := 56) rfl))) (by decide) (backOf (W := 0) (rmWW l Z a0 hw [] a105 dw 4517329193108106637 0 0 T106.heap n0 Z106 O106 (Or.inl rfl) (Or.inl rfl)) hZ (hw _ (List.mem_of_getElem? (i := 58) rfl)) (hw _ (List.mem_of_getElem? (i := 3) rfl)) (by decide) (by decide)) qa107 qc107 (g := (mkF m 67 #[sI p0, sI p1, sI p2, sI (1 : Int32), sI (1 : Int32), sI (1 : Int32), sD dw, uS, sR a105, uU, uU, uU, uU] [(.double dw), (.ref a105)])) rfl (by rw [hml]; rfl) (Steps.refl _) (argsL := [(.double dw)]) (rest := []) (lenOf pd_rmWW rfl) rfl (by show 2 * 0 + _ ≤ _; exact Nat.le_of_eq rfl) (hb hby at_67) (fun _ _ => ⟨rfl, rfl, (by decide : 1 + 1 ≤ _), (by decide : 4 + 4 ≤ _)⟩)
        dsimp only [Pt.U, Pt.locs, Pt.cells, Pt.slots] at X107 l107 y107 z107 st107 hQ107
        subst l107 y107 z107
        obtain ⟨o107, rfl, g107, N107, K107, O107⟩ := hQ107
        refine OwnGo.pre (fun t k => st107.trans k) ?_
        show OwnGo _ _ _ _ (T107.setTop (mkF m 70 #[sI p0, sI p1, sI p2, sI (1 : Int32), sI (1 : Int32), sI (1 : Int32), sD dw, uS, sR a105, uU, uU, uU, uU] [(.ref o107)]))
        have M107 := Fr.app M106 N107
        have Z107 : n0 ≤ T107.heap.size := Nat.le_trans Z106 K107.1
        have C107_a105 := O106.kp K107 nin0
        refine OwnGo.pre (fun t k => XS.astore X107.here hx rfl (hb hby at_70) rfl rfl (l' := #[sI p0, sI p1, sI p2, sI (1 : Int32), sI (1 : Int32), sI (1 : Int32), sD dw, uS, sR o107, uU, uU, uU, uU]) rfl (XS.iload X107.here hx rfl (hb hby at_72) rfl (XS.ifNo X107.here hx rfl (hb hby at_74) rfl rfl (XS.aload X107.here hx rfl (hb hby at_77) rfl rfl k)))) ?_
        show OwnGo _ _ _ _ (T107.setTop (mkF m 79 #[sI p0, sI p1, sI p2, sI (1 : Int32), sI (1 : Int32), sI (1 : Int32), sD dw, uS, sR o107, uU, uU, uU, uU] [(.ref o107)]))
        obtain ⟨cq108, kq108, qa108, qb108, qc108⟩ := isOf hZ rfl O107.1
        obtain ⟨_, _, ⟨T108, L108, k108, n108⟩, -, X108, ⟨Lc108, hQ108, l108, y108, z108⟩, st108⟩ := X107.virtualBack hx (y := (⟨"com/example/bellmin/bellmin/check/CheckOptions", "withExact", "()Lcom/example/bellmin/bellmin/check/CheckOptions;"⟩ : MethodName)) (z := (⟨"com/example/bellmin/bellmin/check/CheckOptions", "withExact", "()Lcom/example/bellmin/bellmin/check/CheckOptions;"⟩ : MethodName)) hown (mvT hZ (hw _ (List.mem_of_getElem? (i := 22) rfl))) (mvT hZ (hw _ (List.mem_of_getElem? (i := 23) rfl))) (notFace_of_selects (args := #[]) (mvT hZ (hw _ (List.mem_of_getElem? (i := 25) rfl)))) (mvT hZ (hw _ (List.mem_of_getElem? (i := 25) rfl))) (mvT hZ (hw _ (List.mem_of_getElem? (i := 24) rfl))) (by decide) (backOf (W := 0) (rmWE l Z a0 hw [] o107 dw 0 0 T107.heap n0 Z107 O107 (Or.inl rfl) (Or.inl rfl)) hZ (hw _ (List.mem_of_getElem? (i := 26) rfl)) (hw _ (List.mem_of_getElem? (i := 3) rfl)) (by decide) (by decide)) qa108 qc108 (g := (mkF m 79 #[sI p0, sI p1, sI p2, sI (1 : Int32), sI (1 : Int32), sI (1 : Int32), sD dw, uS, sR o107, uU, uU, uU, uU] [(.ref o107)])) rfl (by rw [hml]; rfl) (Steps.refl _) (argsL := []) (rest := []) (lenOf pd_rmWE rfl) rfl (by show 2 * 0 + _ ≤ _; exact Nat.le_of_eq rfl) (hb hby at_79) (fun _ _ => ⟨rfl, rfl, (by decide : 2 + 1 ≤ _), (by decide : 8 + 4 ≤ _)⟩)
        dsimp only [Pt.U, Pt.locs, Pt.cells, Pt.slots] at X108 l108 y108 z108 st108 hQ108
        subst l108 y108 z108
        obtain ⟨o108, rfl, g108, N108, K108, O108⟩ := hQ108
        refine OwnGo.pre (fun t k => st108.trans k) ?_
        show OwnGo _ _ _ _ (T108.setTop (mkF m 82 #[sI p0, sI p1, sI p2, sI (1 : Int32), sI (1 : Int32), sI (1 : Int32), sD dw, uS, sR o107, uU, uU, uU, uU] [(.ref o108)]))
        have M108 := Fr.app M107 N108
        have Z108 : n0 ≤ T108.heap.size := Nat.le_trans Z107 K108.1
        have C108_a105 := C107_a105.kp K108 nin0
        have C108_o107 := O107.kp K108 nin0
        refine OwnGo.pre (fun t k => XS.astore X108.here hx rfl (hb hby at_82) rfl rfl (l' := #[sI p0, sI p1, sI p2, sI (1 : Int32), sI (1 : Int32), sI (1 : Int32), sD dw, uS, sR o108, uU, uU, uU, uU]) rfl (XS.iload X108.here hx rfl (hb hby at_84) rfl (XS.ifNo X108.here hx rfl (hb hby at_86) rfl rfl (XS.aload X108.here hx rfl (hb hby at_89) rfl rfl k)))) ?_
        show OwnGo _ _ _ _ (T108.setTop (mkF m 91 #[sI p0, sI p1, sI p2, sI (1 : Int32), sI (1 : Int32), sI (1 : Int32), sD dw, uS, sR o108, uU, uU, uU, uU] [(.ref o108)]))
        obtain ⟨cq109, kq109, qa109, qb109, qc109⟩ := isOf hZ rfl O108.1
        obtain ⟨_, _, ⟨T109, L109, k109, n109⟩, -, X109, ⟨Lc109, hQ109, l109, y109, z109⟩, st109⟩ := X108.virtualBack hx (y := (⟨"com/example/bellmin/bellmin/check/CheckOptions", "withStrategies", "()Lcom/example/bellmin/bellmin/check/CheckOptions;"⟩ : MethodName)) (z := (⟨"com/example/bellmin/bellmin/check/CheckOptions", "withStrategies", "()Lcom/example/bellmin/bellmin/check/CheckOptions;"⟩ : MethodName)) hown (mvT hZ (hw _ (List.mem_of_getElem? (i := 28) rfl))) (mvT hZ (hw _ (List.mem_of_getElem? (i := 29) rfl))) (notFace_of_selects (args := #[]) (mvT hZ (hw _ (List.mem_of_getElem? (i := 31) rfl)))) (mvT hZ (hw _ (List.mem_of_getElem? (i := 31) rfl))) (mvT hZ (hw _ (List.mem_of_getElem? (i := 30) rfl))) (by decide) (backOf (W := 0) (rmWS l Z a0 hw [] o108 dw 1 0 T108.heap n0 Z108 O108 (Or.inr rfl) (Or.inl rfl)) hZ (hw _ (List.mem_of_getElem? (i := 32) rfl)) (hw _ (List.mem_of_getElem? (i := 3) rfl)) (by decide) (by decide)) qa109 qc109 (g := (mkF m 91 #[sI p0, sI p1, sI p2, sI (1 : Int32), sI (1 : Int32), sI (1 : Int32), sD dw, uS, sR o108, uU, uU, uU, uU] [(.ref o108)])) rfl (by rw [hml]; rfl) (Steps.refl _) (argsL := []) (rest := []) (lenOf pd_rmWS rfl) rfl (by show 2 * 0 + _ ≤ _; exact Nat.le_of_eq rfl) (hb hby at_91) (fun _ _ => ⟨rfl, rfl, (by decide : 3 + 1 ≤ _), (by decide : 12 + 4 ≤ _)⟩)
        dsimp only [Pt.U, Pt.locs, Pt.cells, Pt.slots] at X109 l109 y109 z109 st109 hQ109
        subst l109 y109 z109
        obtain ⟨o109, rfl, g109, N109, K109, O109⟩ := hQ109
        refine OwnGo.pre (fun t k => st109.trans k) ?_
        show OwnGo _ _ _ _ (T109.setTop (mkF m 94 #[sI p0, sI p1, sI p2, sI (1 : Int32), sI (1 : Int32), sI (1 : Int32), sD dw, uS, sR o108, uU, uU, uU, uU] [(.ref o109)]))
        have M109 := Fr.app M108 N109
        have Z109 : n0 ≤ T109.heap.size := Nat.le_trans Z108 K109.1
        have C109_a105 := C108_a105.kp K109 nin0
        have C109_o107 := C108_o107.kp K109 nin0
        have C109_o108 := O108.kp K109 nin0
        refine OwnGo.pre (fun t k => XS.astore X109.here hx rfl (hb hby at_94) rfl rfl (l' := #[sI p0, sI p1, sI p2, sI (1 : Int32), sI (1 : Int32), sI (1 : Int32), sD dw, uS, sR o109, uU, uU, uU, uU]) rfl (XS.aload X109.here hx rfl (hb hby at_96) rfl rfl k)) ?_
        show OwnGo _ _ _ _ (T109.setTop (mkF m 98 #[sI p0, sI p1, sI p2, sI (1 : Int32), sI (1 : Int32), sI (1 : Int32), sD dw, uS, sR o109, uU, uU, uU, uU] [(.ref o109)]))
        obtain ⟨cq110, kq110, qa110, qb110, qc110⟩ := isOf hZ rfl O109.1
        obtain ⟨_, _, ⟨T110, L110, k110, n110⟩, -, X110, ⟨Lc110, hQ110, l110, y110, z110⟩, st110⟩ := X109.virtualBack hx (y := (⟨"com/example/bellmin/bellmin/check/CheckOptions", "withStrategies", "()Lcom/example/bellmin/bellmin/check/CheckOptions;"⟩ : MethodName)) (z := (⟨"com/example/bellmin/bellmin/check/CheckOptions", "withStrategies", "()Lcom/example/bellmin/bellmin/check/CheckOptions;"⟩ : MethodName)) hown (mvT hZ (hw _ (List.mem_of_getElem? (i := 28) rfl))) (mvT hZ (hw _ (List.mem_of_getElem? (i := 29) rfl))) (notFace_of_selects (args := #[]) (mvT hZ (hw _ (List.mem_of_getElem? (i := 31) rfl)))) (mvT hZ (hw _ (List.mem_of_getElem? (i := 31) rfl))) (mvT hZ (hw _ (List.mem_of_getElem? (i := 30) rfl))) (by decide) (backOf (W := 0) (rmWS l Z a0 hw [] o109 dw 1 1 T109.heap n0 Z109 O109 (Or.inr rfl) (Or.inr rfl)) hZ (hw _ (List.mem_of_getElem? (i := 32) rfl)) (hw _ (List.mem_of_getElem? (i := 3) rfl)) (by decide) (by decide)) qa110 qc110 (g := (mkF m 98 #[sI p0, sI p1, sI p2, sI (1 : Int32), sI (1 : Int32), sI (1 : Int32), sD dw, uS, sR o109, uU, uU, uU, uU] [(.ref o109)])) rfl (by rw [hml]; rfl) (Steps.refl _) (argsL := []) (rest := []) (lenOf pd_rmWS rfl) rfl (by show 2 * 0 + _ ≤ _; exact Nat.le_of_eq rfl) (hb hby at_98) (fun _ _ => ⟨rfl, rfl, (by decide : 4 + 1 ≤ _), (by decide : 16 + 4 ≤ _)⟩)
        dsimp only [Pt.U, Pt.locs, Pt.cells, Pt.slots] at X110 l110 y110 z110 st110 hQ110
        subst l110 y110 z110
        obtain ⟨o110, rfl, g110, N110, K110, O110⟩ := hQ110
        refine OwnGo.pre (fun t k => st110.trans k) ?_
        show OwnGo _ _ _ _ (T110.setTop (mkF m 101 #[sI p0, sI p1, sI p2, sI (1 : Int32), sI (1 : Int32), sI (1 : Int32), sD dw, uS, sR o109, uU, uU, uU, uU] [(.ref o110)]))
        have M110 := Fr.app M109 N110
        have Z110 : n0 ≤ T110.heap.size := Nat.le_trans Z109 K110.1
        have C110_a105 := C109_a105.kp K110 nin0
        have C110_o107 := C109_o107.kp K110 nin0
        have C110_o108 := C109_o108.kp K110 nin0
        have C110_o109 := O109.kp K110 nin0
        refine OwnGo.pre (fun t k => XS.astore X110.here hx rfl (hb hby at_101) rfl rfl (l' := #[sI p0, sI p1, sI p2, sI (1 : Int32), sI (1 : Int32), sI (1 : Int32), sD dw, uS, sR o109, sR o110, uU, uU, uU]) rfl (XS.iloadN X110.here hx rfl (hb hby at_103) rfl (XS.ifNo X110.here hx rfl (hb hby at_104) rfl rfl (XS.dload X110.here hx rfl (hb hby at_107) rfl (XS.goto X110.here hx rfl (pc0 := 109) (pc' := 115) rfl (hb hby at_109) (by decide) (by decide) (XS.dstore X110.here hx rfl (hb hby at_115) rfl (l' := #[sI p0, sI p1, sI p2, sI (1 : Int32), sI (1 : Int32), sI (1 : Int32), sD dw, uS, sR o109, sR o110, sD dw, uS, uU]) rfl (XS.aload X110.here hx rfl (hb hby at_117) rfl rfl (XS.ifnullNo X110.here hx rfl (hb hby at_119) rfl k)))))))) ?_
        show OwnGo _ _ _ _ (T110.setTop (mkF m 122 #[sI p0, sI p1, sI p2, sI (1 : Int32), sI (1 : Int32), sI (1 : Int32), sD dw, uS, sR o109, sR o110, sD dw, uS, uU] []))
        refine OwnGo.pre (fun t k => XS.aload X110.here hx rfl (hb hby at_122) rfl rfl k) ?_
        show OwnGo _ _ _ _ (T110.setTop (mkF m 124 #[sI p0, sI p1, sI p2, sI (1 : Int32), sI (1 : Int32), sI (1 : Int32), sD dw, uS, sR o109, sR o110, sD dw, uS, uU] [(.ref o110)]))
        obtain ⟨cq111, kq111, qa111, qb111, qc111⟩ := isOf hZ rfl O110.1
        obtain ⟨_, _, ⟨T111, L111, k111, n111⟩, -, X111, ⟨Lc111, hQ111, l111, y111, z111⟩, st111⟩ := X110.virtualBack hx (y := (⟨"com/example/bellmin/bellmin/check/CheckOptions", "strategies", "()Z"⟩ : MethodName)) (z := (⟨"com/example/bellmin/bellmin/check/CheckOptions", "strategies", "()Z"⟩ : MethodName)) hown (mvT hZ (hw _ (List.mem_of_getElem? (i := 34) rfl))) (mvT hZ (hw _ (List.mem_of_getElem? (i := 35) rfl))) (notFace_of_selects (args := #[]) (mvT hZ (hw _ (List.mem_of_getElem? (i := 37) rfl)))) (mvT hZ (hw _ (List.mem_of_getElem? (i := 37) rfl))) (mvT hZ (hw _ (List.mem_of_getElem? (i := 36) rfl))) (by decide) (backOf (W := 0) (rmGS l Z a0 hw [] o110 dw 1 1 T110.heap n0 Z110 O110) hZ (hw _ (List.mem_of_getElem? (i := 38) rfl)) (hw _ (List.mem_of_getElem? (i := 3) rfl)) (by decide) (by decide)) qa111 qc111 (g := (mkF m 124 #[sI p0, sI p1, sI p2, sI (1 : Int32), sI (1 : Int32), sI (1 : Int32), sD dw, uS, sR o109, sR o110, sD dw, uS, uU] [(.ref o110)])) rfl (by rw [hml]; rfl) (Steps.refl _) (argsL := []) (rest := []) (lenOf pd_rmGS rfl) rfl (by show 2 * 0 + _ ≤ _; exact Nat.le_of_eq rfl) (hb hby at_124) (fun _ _ => ⟨rfl, rfl, (by decide : 5 + 0 ≤ _), (by decide : 20 + 0 ≤ _)⟩)
        dsimp only [Pt.U, Pt.locs, Pt.cells, Pt.slots] at X111 l111 y111 z111 st111 hQ111
        subst l111 y111 z111
        obtain ⟨rfl, N111, e111⟩ := hQ111
        refine OwnGo.pre (fun t k => st111.trans k) ?_
        show OwnGo _ _ _ _ (T111.setTop (mkF m 127 #[sI p0, sI p1, sI p2, sI (1 : Int32), sI (1 : Int32), sI (1 : Int32), sD dw, uS, sR o109, sR o110, sD dw, uS, uU] [(.int (nar .boolean 1))]))
        have M111 := Fr.app M110 N111
        refine OwnGo.pre (fun t k => XS.ifNo X111.here hx rfl (hb hby at_127) rfl (by decide) (XS.aload X111.here hx rfl (hb hby at_130) rfl rfl k)) ?_
        show OwnGo _ _ _ _ (T111.setTop (mkF m 132 #[sI p0, sI p1, sI p2, sI (1 : Int32), sI (1 : Int32), sI (1 : Int32), sD dw, uS, sR o109, sR o110, sD dw, uS, uU] [(.ref o110)]))
        obtain ⟨cq112, kq112, qa112, qb112, qc112⟩ := isOf hZ e111 O110.1
        obtain ⟨_, _, ⟨T112, L112, k112, n112⟩, -, X112, ⟨Lc112, hQ112, l112, y112, z112⟩, st112⟩ := X111.virtualBack hx (y := (⟨"com/example/bellmin/bellmin/check/CheckOptions", "width", "()D"⟩ : MethodName)) (z := (⟨"com/example/bellmin/bellmin/check/CheckOptions", "width", "()D"⟩ : MethodName)) hown (mvT hZ (hw _ (List.mem_of_getElem? (i := 39) rfl))) (mvT hZ (hw _ (List.mem_of_getElem? (i := 40) rfl))) (notFace_of_selects (args := #[]) (mvT hZ (hw _ (List.mem_of_getElem? (i := 42) rfl)))) (mvT hZ (hw _ (List.mem_of_getElem? (i := 42) rfl))) (mvT hZ (hw _ (List.mem_of_getElem? (i := 41) rfl))) (by decide) (backOf (W := 0) (rmGW l Z a0 hw [] o110 dw 1 1 T110.heap n0 Z110 O110) hZ (hw _ (List.mem_of_getElem? (i := 43) rfl)) (hw _ (List.mem_of_getElem? (i := 3) rfl)) (by decide) (by decide)) qa112 qc112 (g := (mkF m 132 #[sI p0, sI p1, sI p2, sI (1 : Int32), sI (1 : Int32), sI (1 : Int32), sD dw, uS, sR o109, sR o110, sD dw, uS, uU] [(.ref o110)])) rfl (by rw [hml]; rfl) (Steps.refl _) (argsL := []) (rest := []) (lenOf pd_rmGW rfl) rfl (by show 2 * 0 + _ ≤ _; exact Nat.le_of_eq rfl) (hb hby at_132) (fun _ _ => ⟨rfl, e111, (by decide : 5 + 0 ≤ _), (by decide : 20 + 0 ≤ _)⟩)
        dsimp only [Pt.U, Pt.locs, Pt.cells, Pt.slots] at X112 l112 y112 z112 st112 hQ112
        subst l112 y112 z112
        obtain ⟨rfl, N112, e112⟩ := hQ112
        refine OwnGo.pre (fun t k => st112.trans k) ?_
        show OwnGo _ _ _ _ (T112.setTop (mkF m 135 #[sI p0, sI p1, sI p2, sI (1 : Int32), sI (1 : Int32), sI (1 : Int32), sD dw, uS, sR o109, sR o110, sD dw, uS, uU] [(.double dw)]))
        have M112 := Fr.app M111 N112
        refine OwnGo.pre (fun t k => XS.dload X112.here hx rfl (hb hby at_135) rfl (XS.dcmpS X112.here hx rfl (hb hby at_137) rfl rfl (XS.ifNo X112.here hx rfl (hb hby at_138) rfl (by rw [dcmpV_self nw]; rfl) (XS.aload X112.here hx rfl (hb hby at_141) rfl rfl k)))) ?_
        show OwnGo _ _ _ _ (T112.setTop (mkF m 143 #[sI p0, sI p1, sI p2, sI (1 : Int32), sI (1 : Int32), sI (1 : Int32), sD dw, uS, sR o109, sR o110, sD dw, uS, uU] [(.ref o110)]))
        obtain ⟨cq113, kq113, qa113, qb113, qc113⟩ := isOf hZ e112 O110.1
        obtain ⟨_, _, ⟨T113, L113, k113, n113⟩, -, X113, ⟨Lc113, hQ113, l113, y113, z113⟩, st113⟩ := X112.virtualBack hx (y := (⟨"com/example/bellmin/bellmin/check/CheckOptions", "exact", "()Z"⟩ : MethodName)) (z := (⟨"com/example/bellmin/bellmin/check/CheckOptions", "exact", "()Z"⟩ : MethodName)) hown (mvT hZ (hw _ (List.mem_of_getElem? (i := 44) rfl))) (mvT hZ (hw _ (List.mem_of_getElem? (i := 45) rfl))) (notFace_of_selects (args := #[]) (mvT hZ (hw _ (List.mem_of_getElem? (i := 47) rfl)))) (mvT hZ (hw _ (List.mem_of_getElem? (i := 47) rfl))) (mvT hZ (hw _ (List.mem_of_getElem? (i := 46) rfl))) (by decide) (backOf (W := 0) (rmGE l Z a0 hw [] o110 dw 1 1 T110.heap n0 Z110 O110) hZ (hw _ (List.mem_of_getElem? (i := 48) rfl)) (hw _ (List.mem_of_getElem? (i := 3) rfl)) (by decide) (by decide)) qa113 qc113 (g := (mkF m 143 #[sI p0, sI p1, sI p2, sI (1 : Int32), sI (1 : Int32), sI (1 : Int32), sD dw, uS, sR o109, sR o110, sD dw, uS, uU] [(.ref o110)])) rfl (by rw [hml]; rfl) (Steps.refl _) (argsL := []) (rest := []) (lenOf pd_rmGE rfl) rfl (by show 2 * 0 + _ ≤ _; exact Nat.le_of_eq rfl) (hb hby at_143) (fun _ _ => ⟨rfl, e112, (by decide : 5 + 0 ≤ _), (by decide : 20 + 0 ≤ _)⟩)
        dsimp only [Pt.U, Pt.locs, Pt.cells, Pt.slots] at X113 l113 y113 z113 st113 hQ113
        subst l113 y113 z113
        obtain ⟨rfl, N113, e113⟩ := hQ113
        refine OwnGo.pre (fun t k => st113.trans k) ?_
        show OwnGo _ _ _ _ (T113.setTop (mkF m 146 #[sI p0, sI p1, sI p2, sI (1 : Int32), sI (1 : Int32), sI (1 : Int32), sD dw, uS, sR o109, sR o110, sD dw, uS, uU] [(.int (nar .boolean 1))]))
        have M113 := Fr.app M112 N113
        refine OwnGo.pre (fun t k => XS.iload X113.here hx rfl (hb hby at_146) rfl (XS.icmpNo X113.here hx rfl (hb hby at_148) rfl (by decide) (XS.aload X113.here hx rfl (hb hby at_151) rfl rfl k))) ?_
        show OwnGo _ _ _ _ (T113.setTop (mkF m 153 #[sI p0, sI p1, sI p2, sI (1 : Int32), sI (1 : Int32), sI (1 : Int32), sD dw, uS, sR o109, sR o110, sD dw, uS, uU] [(.ref o110)]))
        obtain ⟨cq114, kq114, qa114, qb114, qc114⟩ := isOf hZ e113 O110.1
        obtain ⟨_, _, ⟨T114, L114, k114, n114⟩, -, X114, ⟨Lc114, hQ114, l114, y114, z114⟩, st114⟩ := X113.virtualBack hx (y := (⟨"com/example/bellmin/bellmin/check/CheckOptions", "applied", "()Ljava/nio/file/Path;"⟩ : MethodName)) (z := (⟨"com/example/bellmin/bellmin/check/CheckOptions", "applied", "()Ljava/nio/file/Path;"⟩ : MethodName)) hown (mvT hZ (hw _ (List.mem_of_getElem? (i := 49) rfl))) (mvT hZ (hw _ (List.mem_of_getElem? (i := 50) rfl))) (notFace_of_selects (args := #[]) (mvT hZ (hw _ (List.mem_of_getElem? (i := 52) rfl)))) (mvT hZ (hw _ (List.mem_of_getElem? (i := 52) rfl))) (mvT hZ (hw _ (List.mem_of_getElem? (i := 51) rfl))) (by decide) (backOf (W := 0) (rmGA l Z a0 hw [] o110 dw 1 1 T110.heap n0 Z110 O110) hZ (hw _ (List.mem_of_getElem? (i := 53) rfl)) (hw _ (List.mem_of_getElem? (i := 3) rfl)) (by decide) (by decide)) qa114 qc114 (g := (mkF m 153 #[sI p0, sI p1, sI p2, sI (1 : Int32), sI (1 : Int32), sI (1 : Int32), sD dw, uS, sR o109, sR o110, sD dw, uS, uU] [(.ref o110)])) rfl (by rw [hml]; rfl) (Steps.refl _) (argsL := []) (rest := []) (lenOf pd_rmGA rfl) rfl (by show 2 * 0 + _ ≤ _; exact Nat.le_of_eq rfl) (hb hby at_153) (fun _ _ => ⟨rfl, e113, (by decide : 5 + 0 ≤ _), (by decide : 20 + 0 ≤ _)⟩)
        dsimp only [Pt.U, Pt.locs, Pt.cells, Pt.slots] at X114 l114 y114 z114 st114 hQ114
        subst l114 y114 z114
        obtain ⟨rfl, N114, e114⟩ := hQ114
        refine OwnGo.pre (fun t k => st114.trans k) ?_
        show OwnGo _ _ _ _ (T114.setTop (mkF m 156 #[sI p0, sI p1, sI p2, sI (1 : Int32), sI (1 : Int32), sI (1 : Int32), sD dw, uS, sR o109, sR o110, sD dw, uS, uU] [.null]))
        have M114 := Fr.app M113 N114
        refine OwnGo.pre (fun t k => XT.ifnonnullNo X114.here hx rfl (hb hby at_156) rfl (XS.aload X114.here hx rfl (hb hby at_159) rfl rfl k)) ?_
        show OwnGo _ _ _ _ (T114.setTop (mkF m 161 #[sI p0, sI p1, sI p2, sI (1 : Int32), sI (1 : Int32), sI (1 : Int32), sD dw, uS, sR o109, sR o110, sD dw, uS, uU] [(.ref o109)]))
        obtain ⟨cq115, kq115, qa115, qb115, qc115⟩ := isOf hZ e114 C110_o109.1
        obtain ⟨_, _, ⟨T115, L115, k115, n115⟩, -, X115, ⟨Lc115, hQ115, l115, y115, z115⟩, st115⟩ := X114.virtualBack hx (y := (⟨"com/example/bellmin/bellmin/check/CheckOptions", "strategies", "()Z"⟩ : MethodName)) (z := (⟨"com/example/bellmin/bellmin/check/CheckOptions", "strategies", "()Z"⟩ : MethodName)) hown (mvT hZ (hw _ (List.mem_of_getElem? (i := 34) rfl))) (mvT hZ (hw _ (List.mem_of_getElem? (i := 35) rfl))) (notFace_of_selects (args := #[]) (mvT hZ (hw _ (List.mem_of_getElem? (i := 37) rfl)))) (mvT hZ (hw _ (List.mem_of_getElem? (i := 37) rfl))) (mvT hZ (hw _ (List.mem_of_getElem? (i := 36) rfl))) (by decide) (backOf (W := 0) (rmGS l Z a0 hw [] o109 dw 1 1 T110.heap n0 Z110 C110_o109) hZ (hw _ (List.mem_of_getElem? (i := 38) rfl)) (hw _ (List.mem_of_getElem? (i := 3) rfl)) (by decide) (by decide)) qa115 qc115 (g := (mkF m 161 #[sI p0, sI p1, sI p2, sI (1 : Int32), sI (1 : Int32), sI (1 : Int32), sD dw, uS, sR o109, sR o110, sD dw, uS, uU] [(.ref o109)])) rfl (by rw [hml]; rfl) (Steps.refl _) (argsL := []) (rest := []) (lenOf pd_rmGS rfl) rfl (by show 2 * 0 + _ ≤ _; exact Nat.le_of_eq rfl) (hb hby at_161) (fun _ _ => ⟨rfl, e114, (by decide : 5 + 0 ≤ _), (by decide : 20 + 0 ≤ _)⟩)
        dsimp only [Pt.U, Pt.locs, Pt.cells, Pt.slots] at X115 l115 y115 z115 st115 hQ115
        subst l115 y115 z115
        obtain ⟨rfl, N115, e115⟩ := hQ115
        refine OwnGo.pre (fun t k => st115.trans k) ?_
        show OwnGo _ _ _ _ (T115.setTop (mkF m 164 #[sI p0, sI p1, sI p2, sI (1 : Int32), sI (1 : Int32), sI (1 : Int32), sD dw, uS, sR o109, sR o110, sD dw, uS, uU] [(.int (nar .boolean 1))]))
        have M115 := Fr.app M114 N115
        refine OwnGo.pre (fun t k => XS.iload X115.here hx rfl (hb hby at_164) rfl (XS.icmpNo X115.here hx rfl (hb hby at_166) rfl (by decide) (XS.aload X115.here hx rfl (hb hby at_169) rfl rfl k))) ?_
        show OwnGo _ _ _ _ (T115.setTop (mkF m 171 #[sI p0, sI p1, sI p2, sI (1 : Int32), sI (1 : Int32), sI (1 : Int32), sD dw, uS, sR o109, sR o110, sD dw, uS, uU] [(.ref o109)]))
        obtain ⟨cq116, kq116, qa116, qb116, qc116⟩ := isOf hZ e115 C110_o109.1
        obtain ⟨_, _, ⟨T116, L116, k116, n116⟩, -, X116, ⟨Lc116, hQ116, l116, y116, z116⟩, st116⟩ := X115.virtualBack hx (y := (⟨"com/example/bellmin/bellmin/check/CheckOptions", "width", "()D"⟩ : MethodName)) (z := (⟨"com/example/bellmin/bellmin/check/CheckOptions", "width", "()D"⟩ : MethodName)) hown (mvT hZ (hw _ (List.mem_of_getElem? (i := 39) rfl))) (mvT hZ (hw _ (List.mem_of_getElem? (i := 40) rfl))) (notFace_of_selects (args := #[]) (mvT hZ (hw _ (List.mem_of_getElem? (i := 42) rfl)))) (mvT hZ (hw _ (List.mem_of_getElem? (i := 42) rfl))) (mvT hZ (hw _ (List.mem_of_getElem? (i := 41) rfl))) (by decide) (backOf (W := 0) (rmGW l Z a0 hw [] o109 dw 1 1 T110.heap n0 Z110 C110_o109) hZ (hw _ (List.mem_of_getElem? (i := 43) rfl)) (hw _ (List.mem_of_getElem? (i := 3) rfl)) (by decide) (by decide)) qa116 qc116 (g := (mkF m 171 #[sI p0, sI p1, sI p2, sI (1 : Int32), sI (1 : Int32), sI (1 : Int32), sD dw, uS, sR o109, sR o110, sD dw, uS, uU] [(.ref o109)])) rfl (by rw [hml]; rfl) (Steps.refl _) (argsL := []) (rest := []) (lenOf pd_rmGW rfl) rfl (by show 2 * 0 + _ ≤ _; exact Nat.le_of_eq rfl) (hb hby at_171) (fun _ _ => ⟨rfl, e115, (by decide : 5 + 0 ≤ _), (by decide : 20 + 0 ≤ _)⟩)
        dsimp only [Pt.U, Pt.locs, Pt.cells, Pt.slots] at X116 l116 y116 z116 st116 hQ116
        subst l116 y116 z116
        obtain ⟨rfl, N116, e116⟩ := hQ116
        refine OwnGo.pre (fun t k => st116.trans k) ?_
        show OwnGo _ _ _ _ (T116.setTop (mkF m 174 #[sI p0, sI p1, sI p2, sI (1 : Int32), sI (1 : Int32), sI (1 : Int32), sD dw, uS, sR o109, sR o110, sD dw, uS, uU] [(.double dw)]))
        have M116 := Fr.app M115 N116
        refine OwnGo.pre (fun t k => XS.dload X116.here hx rfl (hb hby at_174) rfl (XS.dcmpS X116.here hx rfl (hb hby at_176) rfl rfl (XS.ifNo X116.here hx rfl (hb hby at_177) rfl (by rw [dcmpV_self nw]; rfl) (XS.aload X116.here hx rfl (hb hby at_180) rfl rfl k)))) ?_
        show OwnGo _ _ _ _ (T116.setTop (mkF m 182 #[sI p0, sI p1, sI p2, sI (1 : Int32), sI (1 : Int32), sI (1 : Int32), sD dw, uS, sR o109, sR o110, sD dw, uS, uU] [(.ref o109)]))
        obtain ⟨cq117, kq117, qa117, qb117, qc117⟩ := isOf hZ e116 C110_o109.1
        obtain ⟨_, _, ⟨T117, L117, k117, n117⟩, -, X117, ⟨Lc117, hQ117, l117, y117, z117⟩, st117⟩ := X116.virtualBack hx (y := (⟨"com/example/bellmin/bellmin/check/CheckOptions", "exact", "()Z"⟩ : MethodName)) (z := (⟨"com/example/bellmin/bellmin/check/CheckOptions", "exact", "()Z"⟩ : MethodName)) hown (mvT hZ (hw _ (List.mem_of_getElem? (i := 44) rfl))) (mvT hZ (hw _ (List.mem_of_getElem? (i := 45) rfl))) (notFace_of_selects (args := #[]) (mvT hZ (hw _ (List.mem_of_getElem? (i := 47) rfl)))) (mvT hZ (hw _ (List.mem_of_getElem? (i := 47) rfl))) (mvT hZ (hw _ (List.mem_of_getElem? (i := 46) rfl))) (by decide) (backOf (W := 0) (rmGE l Z a0 hw [] o109 dw 1 1 T110.heap n0 Z110 C110_o109) hZ (hw _ (List.mem_of_getElem? (i := 48) rfl)) (hw _ (List.mem_of_getElem? (i := 3) rfl)) (by decide) (by decide)) qa117 qc117 (g := (mkF m 182 #[sI p0, sI p1, sI p2, sI (1 : Int32), sI (1 : Int32), sI (1 : Int32), sD dw, uS, sR o109, sR o110, sD dw, uS, uU] [(.ref o109)])) rfl (by rw [hml]; rfl) (Steps.refl _) (argsL := []) (rest := []) (lenOf pd_rmGE rfl) rfl (by show 2 * 0 + _ ≤ _; exact Nat.le_of_eq rfl) (hb hby at_182) (fun _ _ => ⟨rfl, e116, (by decide : 5 + 0 ≤ _), (by decide : 20 + 0 ≤ _)⟩)
        dsimp only [Pt.U, Pt.locs, Pt.cells, Pt.slots] at X117 l117 y117 z117 st117 hQ117
        subst l117 y117 z117
        obtain ⟨rfl, N117, e117⟩ := hQ117
        refine OwnGo.pre (fun t k => st117.trans k) ?_
        show OwnGo _ _ _ _ (T117.setTop (mkF m 185 #[sI p0, sI p1, sI p2, sI (1 : Int32), sI (1 : Int32), sI (1 : Int32), sD dw, uS, sR o109, sR o110, sD dw, uS, uU] [(.int (nar .boolean 1))]))
        have M117 := Fr.app M116 N117
        refine OwnGo.pre (fun t k => XS.iload X117.here hx rfl (hb hby at_185) rfl (XS.icmpNo X117.here hx rfl (hb hby at_187) rfl (by decide) (XS.iconst X117.here hx rfl (hb hby at_190) (XS.goto X117.here hx rfl (pc0 := 191) (pc' := 195) rfl (hb hby at_191) (by decide) (by decide) (XS.istore X117.here hx rfl (hb hby at_195) rfl (l' := #[sI p0, sI p1, sI p2, sI (1 : Int32), sI (1 : Int32), sI (1 : Int32), sD dw, uS, sR o109, sR o110, sD dw, uS, sI (1 : Int32)]) rfl (XS.iload X117.here hx rfl (hb hby at_197) rfl k)))))) ?_
        show OwnGo _ _ _ _ (T117.setTop (mkF m 199 #[sI p0, sI p1, sI p2, sI (1 : Int32), sI (1 : Int32), sI (1 : Int32), sD dw, uS, sR o109, sR o110, sD dw, uS, sI (1 : Int32)] [(.int (1 : Int32))]))
        exact own_retZ X117 hx hk hrt (hb hby at_199) ⟨rfl, M117⟩ (by decide) (by decide)
set_option maxRecDepth 65536 in
set_option maxHeartbeats 40000000 in
theorem comes_1 {Post : Tables → Env → Array Value → State → Outcome → State → Prop} (hpost : ∀ tb e args s v u, (limb_1_1.after args s (.returned v) u = true ∧ limb_1_2.after args s (.returned v) u = true ∧ True) → FrameEnd s (.returned v) u (Jvm.fieldLocs frame_1_writes args s ++ Jvm.arrayLocs frame_1_arrays args s ++ Jvm.staticLocs frame_1_statics s) 24 128 → Post tb e args s (.returned v) u) :
    ArmFor flags0 classFile x code maxLocals ret World_1 tables_1 room_1 Calls_1 rest_1 Pre_1 Post := by
  intro l hfl _ _ p e ha hc hk s m args below hf hA hF happ hP
  obtain ⟨hcalls, hrest, hpre⟩ := hP
  obtain ⟨-, -, -, hnamed, -, -, -, hat⟩ := (Spec.applies_iff hf).mp happ
  obtain ⟨hg, hn⟩ := and_e (Cond.before_iff.mp (show (Jvm.Cond.and given_1 narrow_1).before args s = true from hpre))
  obtain ⟨hcnt, q0⟩ := and_e hg
  obtain ⟨b0, q1⟩ := and_e q0
  obtain ⟨b1, q2⟩ := and_e q1
  have b2 := q2
  obtain ⟨w0, w1, w2, rfl⟩ : ∃ w0 w1 w2 : Value, args = #[w0, w1, w2] := by
    have hs : args.size = 3 := by simpa [Cond.value, given_1] using hcnt
    obtain ⟨L⟩ := args
    match L, hs with
    | [w0, w1, w2], _ => exact ⟨w0, w1, w2, rfl⟩
  have hw := fun d (hd : d ∈ tables_1) => atoms_spec (ws := Jvm.Cond.code x code maxLocals ret :: tables_1) hat d (List.mem_cons_of_mem _ hd)
  have hfit : Fit s := fun {y c} hc i hi => by
    obtain ⟨ha, rfl⟩ := Array.getElem?_eq_some_iff.mp hc
    have q := List.all_eq_true.mp ((Array.all_eq_true_iff_forall_mem.mp hF) _ (Array.getElem_mem ha)) i (List.mem_range.mpr hi)
    simpa [Array.getElem?_eq_getElem hi] using q
  obtain ⟨i0, ei0⟩ := is_v b0
  obtain rfl : w0 = (.int i0) := Option.some.inj ei0
  obtain ⟨i1, ei1⟩ := is_v b1
  obtain rfl : w1 = (.int i1) := Option.some.inj ei1
  obtain ⟨i2, ei2⟩ := is_v b2
  obtain rfl : w2 = (.int i2) := Option.some.inj ei2
  obtain ⟨n, o, h1, h2, h3, _, L, rfl, ⟨rfl, N⟩, hq⟩ := rmL l s _ hw tables_1 i0 i1 i2  s.heap s.heap.size (Nat.le_refl _)  p e ha hc hk s m _ below hf ((Spec.applies_iff_loose hf).mp happ).1 ⟨rfl, State.Warmed39.refl s, rfl⟩ trivial
  refine ⟨n, _, h1, h2, h3, hpost _ _ _ _ _ _ ⟨Cond.after_iff.mpr rfl, Cond.after_iff.mpr (eq_i res_at (Term.int_eval (1)) rfl), trivial⟩ ⟨hq.1, hq.2.1, (hq.2.2.sift fun y hy => Or.inr (N y hy)).mono (by decide) (by decide)⟩⟩
theorem main_1_1 : Claimed_1_1 := comes_1 fun _ _ _ _ _ _ h hF => ⟨h.1, hF⟩
theorem main_1_2 : Claimed_1_2 := comes_1 fun _ _ _ _ _ _ h hF => ⟨h.2.1, hF⟩
end Jvm.Pilot.@@N@@
namespace Jvm.Pilot.@@N@@
open Jvm Jvm.ClassFile Sem Op Lib Jvm.Free Jvm.Stand Jvm.Pilot.@@N@@.Jvm.D
/-! MADE BY PROGRAM (witnessworld.py) out of the Statement's table words and the real class files: 9 classes; the members and pool entries that the words name. The judged class is class 1, her method 1. -/
namespace start1
open Jvm.ClassFile
def u (s : String) : CpInfo := .utf8 (stringToUtf16 s)
/-- a pool by its gaps: so many unusable entries, then the entry; so many at the end -/
def gap : Nat → List CpInfo → List CpInfo
  | 0, r => r
  | n + 1, r => .unusable :: gap n r
def poolList (es : List (Nat × CpInfo)) (last : Nat) : List CpInfo := es.foldr (fun e r => gap e.1 (e.2 :: r)) (gap last [])
def pool (es : List (Nat × CpInfo)) (last : Nat) : Array CpInfo := ⟨poolList es last⟩
def fileOf (pool : Array CpInfo) (this : Nat) (attrs : Array Attribute := #[]) (ms : Array MethodInfo := #[]) (fl : Nat := 33) (sup : Nat := 0) (ifs : Array Nat := #[]) (fds : Array FieldInfo := #[]) : ClassFile where
  minorVersion := 0
  majorVersion := 65
  constantPool := pool
  accessFlags := fl
  thisClass := this
  superClass := sup
  interfaces := ifs
  fields := fds
  methods := ms
  attributes := attrs
def plain (name : String) (sup : Option ClassId) : Class where
  name := name
  kind := .ordinary
  loader := none
  accessFlags := 33
  super := sup
  interfaces := #[]
  cf := none
  fields := #[]
  methods := #[]
  instanceTypes := #[]
  staticTypes := #[]
  resolved := #[]
  callSites := []
  init := .initialized
  statics := none
  mirror := none

def pool0 : Array CpInfo := pool [(5, u "<init>"), (0, u "()V"), (1, .class_ 10), (1, u "java/lang/Object")] 113

def k0c0 : Code := { maxStack := 0, maxLocals := 1, code := object_method_1_code, exceptionTable := #[], attributes := #[] }
def k0m0 : Method := { name := "<init>", desc := "()V", sig := { parameters := [], returnType := none }, accessFlags := 1, code := some k0c0 }
/-- java/lang/Object -/
def k0 : Class := { plain "java/lang/Object" none with
  accessFlags := 33
  interfaces := #[]
  cf := some (fileOf pool0 8 #[] #[{ accessFlags := 1, nameIndex := 5, descriptorIndex := 6, attributes := #[] }] 33 0 #[] #[])
  fields := #[]
  methods := #[k0m0]
  instanceTypes := #[]
  staticTypes := #[]
  resolved := Array.replicate 124 none
  statics := none }

def pool1 : Array CpInfo := pool [(2, .class_ 4), (0, .nameAndType 5 6), (0, u "java/lang/Object"), (0, u "<init>"), (0, u "()V"), (0, .integer 65535), (0, .class_ 9), (0, u "com/example/bellmin/bellmin/check/CheckOptions"), (0, .methodref 8 3), (0, .methodref 8 12), (0, .nameAndType 13 14), (0, u "withWidth"), (0, u "(D)Lcom/example/bellmin/bellmin/check/CheckOptions;"), (0, .methodref 8 16), (0, .nameAndType 17 18), (0, u "withExact"), (0, u "()Lcom/example/bellmin/bellmin/check/CheckOptions;"), (0, .methodref 8 20), (0, .nameAndType 21 18), (0, u "withStrategies"), (2, .double 4517329193108106637), (1, .methodref 8 27), (0, .nameAndType 28 29), (0, u "strategies"), (0, u "()Z"), (0, .methodref 8 31), (0, .nameAndType 32 33), (0, u "width"), (0, u "()D"), (0, .methodref 8 35), (0, .nameAndType 36 29), (0, u "exact"), (0, .methodref 8 38), (0, .nameAndType 39 40), (0, u "applied"), (0, u "()Ljava/nio/file/Path;"), (0, .class_ 42), (0, u "com/example/bellmin/bellmin/check/CheckOptionsWithStrategiesPinLaw"), (2, u "law"), (0, u "(III)Z")] 3

def k1m0 : Method := { name := "<init>", desc := "()V", sig := { parameters := [], returnType := none }, accessFlags := 2, code := none }
def k1c1 : Code := { maxStack := 4, maxLocals := 13, code := code, exceptionTable := #[], attributes := #[] }
def k1m1 : Method := { name := "law", desc := "(III)Z", sig := { parameters := [.int, .int, .int], returnType := some .boolean }, accessFlags := 9, code := some k1c1 }
/-- com/example/bellmin/bellmin/check/CheckOptionsWithStrategiesPinLaw -/
def k1 : Class := { plain "com/example/bellmin/bellmin/check/CheckOptionsWithStrategiesPinLaw" (some 0) with
  accessFlags := 49
  interfaces := #[]
  cf := some (fileOf pool1 41 #[] #[{ accessFlags := 2, nameIndex := 5, descriptorIndex := 6, attributes := #[] }, { accessFlags := 9, nameIndex := 45, descriptorIndex := 46, attributes := #[] }] 49 2 #[] #[])
  fields := #[]
  methods := #[k1m0, k1m1]
  instanceTypes := #[]
  staticTypes := #[]
  resolved := Array.replicate 50 none
  statics := none }

def pool2 : Array CpInfo := pool [(3, .double 4517329193108106637), (1, .methodref 6 7), (0, .class_ 8), (0, .nameAndType 9 10), (0, u "com/example/bellmin/bellmin/check/CheckOptions"), (0, u "<init>"), (0, u "(DZZLjava/nio/file/Path;)V"), (0, .methodref 12 13), (0, .class_ 14), (0, .nameAndType 9 15), (0, u "java/lang/Object"), (0, u "()V"), (0, .fieldref 6 17), (0, .nameAndType 18 19), (0, u "width"), (0, u "D"), (0, .fieldref 6 21), (0, .nameAndType 22 23), (0, u "exact"), (0, u "Z"), (0, .fieldref 6 25), (0, .nameAndType 26 23), (0, u "strategies"), (0, .fieldref 6 28), (0, .nameAndType 29 30), (0, u "applied"), (0, u "Ljava/nio/file/Path;"), (2, u "withWidth"), (0, u "(D)Lcom/example/bellmin/bellmin/check/CheckOptions;"), (0, u "withExact"), (0, u "()Lcom/example/bellmin/bellmin/check/CheckOptions;"), (0, u "withStrategies"), (2, u "()D"), (0, u "()Z"), (0, u "()Ljava/nio/file/Path;")] 2

def k2c0 : Code := { maxStack := 6, maxLocals := 1, code := prog_5_method_1_code, exceptionTable := #[], attributes := #[] }
def k2m0 : Method := { name := "<init>", desc := "()V", sig := { parameters := [], returnType := none }, accessFlags := 1, code := some k2c0 }
def k2c1 : Code := { maxStack := 3, maxLocals := 6, code := prog_5_method_2_code, exceptionTable := #[], attributes := #[] }
def k2m1 : Method := { name := "<init>", desc := "(DZZLjava/nio/file/Path;)V", sig := { parameters := [.double, .boolean, .boolean, (.object "java/nio/file/Path")], returnType := none }, accessFlags := 2, code := some k2c1 }
def k2c2 : Code := { maxStack := 7, maxLocals := 3, code := prog_5_method_3_code, exceptionTable := #[], attributes := #[] }
def k2m2 : Method := { name := "withWidth", desc := "(D)Lcom/example/bellmin/bellmin/check/CheckOptions;", sig := { parameters := [.double], returnType := some (.object "com/example/bellmin/bellmin/check/CheckOptions") }, accessFlags := 1, code := some k2c2 }
def k2c3 : Code := { maxStack := 7, maxLocals := 1, code := prog_5_method_4_code, exceptionTable := #[], attributes := #[] }
def k2m3 : Method := { name := "withExact", desc := "()Lcom/example/bellmin/bellmin/check/CheckOptions;", sig := { parameters := [], returnType := some (.object "com/example/bellmin/bellmin/check/CheckOptions") }, accessFlags := 1, code := some k2c3 }
def k2c4 : Code := { maxStack := 7, maxLocals := 1, code := prog_5_method_5_code, exceptionTable := #[], attributes := #[] }
def k2m4 : Method := { name := "withStrategies", desc := "()Lcom/example/bellmin/bellmin/check/CheckOptions;", sig := { parameters := [], returnType := some (.object "com/example/bellmin/bellmin/check/CheckOptions") }, accessFlags := 1, code := some k2c4 }
def k2c5 : Code := { maxStack := 2, maxLocals := 1, code := prog_5_method_7_code, exceptionTable := #[], attributes := #[] }
def k2m5 : Method := { name := "width", desc := "()D", sig := { parameters := [], returnType := some .double }, accessFlags := 1, code := some k2c5 }
def k2c6 : Code := { maxStack := 1, maxLocals := 1, code := prog_5_method_8_code, exceptionTable := #[], attributes := #[] }
def k2m6 : Method := { name := "exact", desc := "()Z", sig := { parameters := [], returnType := some .boolean }, accessFlags := 1, code := some k2c6 }
def k2c7 : Code := { maxStack := 1, maxLocals := 1, code := prog_5_method_9_code, exceptionTable := #[], attributes := #[] }
def k2m7 : Method := { name := "strategies", desc := "()Z", sig := { parameters := [], returnType := some .boolean }, accessFlags := 1, code := some k2c7 }
def k2c8 : Code := { maxStack := 1, maxLocals := 1, code := prog_5_method_10_code, exceptionTable := #[], attributes := #[] }
def k2m8 : Method := { name := "applied", desc := "()Ljava/nio/file/Path;", sig := { parameters := [], returnType := some (.object "java/nio/file/Path") }, accessFlags := 1, code := some k2c8 }
/-- com/example/bellmin/bellmin/check/CheckOptions -/
def k2 : Class := { plain "com/example/bellmin/bellmin/check/CheckOptions" (some 0) with
  accessFlags := 33
  interfaces := #[]
  cf := some (fileOf pool2 6 #[] #[{ accessFlags := 1, nameIndex := 9, descriptorIndex := 15, attributes := #[] }, { accessFlags := 2, nameIndex := 9, descriptorIndex := 10, attributes := #[] }, { accessFlags := 1, nameIndex := 33, descriptorIndex := 34, attributes := #[] }, { accessFlags := 1, nameIndex := 35, descriptorIndex := 36, attributes := #[] }, { accessFlags := 1, nameIndex := 37, descriptorIndex := 36, attributes := #[] }, { accessFlags := 1, nameIndex := 18, descriptorIndex := 40, attributes := #[] }, { accessFlags := 1, nameIndex := 22, descriptorIndex := 41, attributes := #[] }, { accessFlags := 1, nameIndex := 26, descriptorIndex := 41, attributes := #[] }, { accessFlags := 1, nameIndex := 29, descriptorIndex := 42, attributes := #[] }] 33 12 #[] #[{ accessFlags := 18, nameIndex := 18, descriptorIndex := 19, attributes := #[] }, { accessFlags := 18, nameIndex := 22, descriptorIndex := 23, attributes := #[] }, { accessFlags := 18, nameIndex := 26, descriptorIndex := 23, attributes := #[] }, { accessFlags := 18, nameIndex := 29, descriptorIndex := 30, attributes := #[] }])
  fields := #[{ name := "width", type := .double, accessFlags := 18, slot := 0, constantValue := 0 }, { name := "exact", type := .boolean, accessFlags := 18, slot := 1, constantValue := 0 }, { name := "strategies", type := .boolean, accessFlags := 18, slot := 2, constantValue := 0 }, { name := "applied", type := (.object "java/nio/file/Path"), accessFlags := 18, slot := 3, constantValue := 0 }]
  methods := #[k2m0, k2m1, k2m2, k2m3, k2m4, k2m5, k2m6, k2m7, k2m8]
  instanceTypes := #[.double, .boolean, .boolean, (.object "java/nio/file/Path")]
  staticTypes := #[]
  resolved := Array.replicate 45 none
  statics := none }

def pool3 : Array CpInfo := pool [(1, u "java/lang/Cloneable"), (0, .class_ 1), (0, u "java/lang/Object"), (0, .class_ 3)] 3

/-- java/lang/Cloneable -/
def k3 : Class := { plain "java/lang/Cloneable" (some 0) with
  accessFlags := 1537
  interfaces := #[]
  cf := some (fileOf pool3 2 #[] #[] 1537 4 #[] #[])
  fields := #[]
  methods := #[]
  instanceTypes := #[]
  staticTypes := #[]
  resolved := Array.replicate 8 none
  statics := none }

def pool4 : Array CpInfo := pool [(1, u "java/io/Serializable"), (0, .class_ 1), (0, u "java/lang/Object"), (0, .class_ 3)] 3

/-- java/io/Serializable -/
def k4 : Class := { plain "java/io/Serializable" (some 0) with
  accessFlags := 1537
  interfaces := #[]
  cf := some (fileOf pool4 2 #[] #[] 1537 4 #[] #[])
  fields := #[]
  methods := #[]
  instanceTypes := #[]
  staticTypes := #[]
  resolved := Array.replicate 8 none
  statics := none }

/-- the primitive byte -/
def k5 : Class := { plain "byte" none with kind := .primitive 'B', accessFlags := 0x411 }
/-- [B -/
def k6 : Class := { plain "[B" (some 0) with kind := .array 5 .byte, interfaces := #[3, 4], accessFlags := 1041 }

/-- the primitive int -/
def k7 : Class := { plain "int" none with kind := .primitive 'I', accessFlags := 0x411 }
/-- [I -/
def k8 : Class := { plain "[I" (some 0) with kind := .array 7 .int, interfaces := #[3, 4], accessFlags := 1041 }

def heap : Heap := #[]
def classes : Array Class := #[k0, k1, k2, k3, k4, k5, k6, k7, k8]
def interned : List (Array UInt16 × Addr) := []
def slotsUsed : Nat := 0
def theMethod : MethodId := ⟨1, 1⟩
def args0 : Array Value := #[.int 5, .int 3, .int 7]
def aboutOver (below : List Frame) : State where
  vm := { classes := classes, interned := interned.toArray }
  heap := heap
  slotsUsed := slotsUsed
  threads := #[{ frames := .invoking theMethod args0 :: below }]
def below0 : List Frame := [.native { method := ⟨0, 0⟩, args := #[] }]
def about1 : State := aboutOver below0
def p0 : Program := .bare "" "" ""
def e0 : Env := launch0.env 0 0 0
theorem w_frames : about1.frames = Frame.invoking theMethod args0 :: below0 := rfl
set_option maxRecDepth 65536 in
theorem w_args : argsFit about1.vm theMethod args0 = true := by decide +kernel
set_option maxRecDepth 65536 in
theorem w_heap : heapFits about1 = true := by decide +kernel
set_option maxRecDepth 65536 in
theorem w_runnable : about1.curStatus? = some .runnable := by decide +kernel
set_option maxRecDepth 65536 in
theorem w_alone : about1.alone = true := by decide +kernel
set_option maxRecDepth 65536 in
theorem w_named : about1.methodNamed? x = some theMethod := by decide +kernel
set_option maxRecDepth 65536 in
theorem w_hears : about1.hears theMethod below0 = true := by decide +kernel
set_option maxRecDepth 65536 in
theorem w_ripe : about1.ripe theMethod args0 below0 = true := by decide +kernel
theorem w_running : about1.status = .running := rfl
set_option maxRecDepth 65536 in
theorem w_room : about1.hasRoom e0.platform room_1 = true :=
  launch0.hasRoom_least _ room_1 (by decide +kernel) (by decide +kernel) (by decide +kernel) (by decide +kernel) (by decide +kernel) (by decide +kernel)
theorem allAtoms_all (ts : List Jvm.Cond) (a : Array Jvm.Value) (st : Jvm.State) : (allAtoms ts).before a st = ts.all (fun c => c.before a st) := by
  induction ts with
  | nil => rfl
  | cons c t ih =>
    show (Jvm.Cond.and c (allAtoms t)).before a st = _
    rw [Jvm.Cond.before_and, ih, List.all_cons]
def words1 : List Jvm.Cond := Jvm.Cond.code x code maxLocals ret :: tables_1
/-- a 'code' word, met by the world's own term for the bytes: nothing is compared byte by byte -/
theorem code_word {y : MethodName} {bytes : ByteArray} {mx : Nat} {rt : Option FieldType} {a : Array Value} {s : State} {m : MethodId} {meth : Method} {c : Code} (h1 : s.methodNamed? y = some m) (h2 : s.vm.method? m = some meth) (h3 : meth.code = some c) (h4 : c.code = bytes)
    (h5 : (c.maxLocals == mx && c.exceptionTable.isEmpty && decide (c.maxStack ≤ mostOperands) && decide (meth.sig.returnType = rt) && !meth.locks && decide (parseMethodDescriptor y.desc = some meth.sig)) = true) : (Jvm.Cond.code y bytes mx rt).before a s = true := by
  simp only [Bool.and_eq_true, beq_iff_eq, Bool.not_eq_true', decide_eq_true_eq] at h5
  obtain ⟨⟨⟨⟨⟨g1, g2⟩, g3⟩, g4⟩, g5⟩, g6⟩ := h5
  simp [Cond.before, Cond.holds, Cond.value, h1, h2, h3, h4, g1, g2, g3, g4, g5, g6]
def isCode : Jvm.Cond → Bool
  | .code _ _ _ _ => true
  | _ => false
theorem all_split {L : List Jvm.Cond} {P : Jvm.Cond → Bool} (h1 : L.all (fun c => isCode c || P c) = true) (h2 : ∀ c ∈ L.filter isCode, P c = true) : L.all P = true := by
  refine List.all_eq_true.mpr fun c hc => ?_
  have h := List.all_eq_true.mp h1 c hc
  rcases Bool.eq_false_or_eq_true (isCode c) with hi | hi
  · exact h2 c (List.mem_filter.mpr ⟨hc, hi⟩)
  · simpa [hi] using h
set_option maxRecDepth 65536 in
theorem w_c0 : (Jvm.Cond.code x code maxLocals ret).before args0 about1 = true := code_word (m := ⟨1, 1⟩) (meth := k1m1) (c := k1c1) (by decide +kernel) rfl rfl rfl (by decide +kernel)
set_option maxRecDepth 65536 in
theorem w_c1 : (Jvm.Cond.code ({ cls := "com/example/bellmin/bellmin/check/CheckOptions", name := "<init>", desc := "()V" } : Jvm.MethodName) prog_5_method_1_code (1 : Nat) (Option.none : Option Jvm.ClassFile.FieldType)).before args0 about1 = true := code_word (m := ⟨2, 0⟩) (meth := k2m0) (c := k2c0) (by decide +kernel) rfl rfl rfl (by decide +kernel)
set_option maxRecDepth 65536 in
theorem w_c2 : (Jvm.Cond.code ({ cls := "com/example/bellmin/bellmin/check/CheckOptions", name := "<init>", desc := "(DZZLjava/nio/file/Path;)V" } : Jvm.MethodName) prog_5_method_2_code (6 : Nat) (Option.none : Option Jvm.ClassFile.FieldType)).before args0 about1 = true := code_word (m := ⟨2, 1⟩) (meth := k2m1) (c := k2c1) (by decide +kernel) rfl rfl rfl (by decide +kernel)
set_option maxRecDepth 65536 in
theorem w_c3 : (Jvm.Cond.code ({ cls := "java/lang/Object", name := "<init>", desc := "()V" } : Jvm.MethodName) object_method_1_code (1 : Nat) (Option.none : Option Jvm.ClassFile.FieldType)).before args0 about1 = true := code_word (m := ⟨0, 0⟩) (meth := k0m0) (c := k0c0) (by decide +kernel) rfl rfl rfl (by decide +kernel)
set_option maxRecDepth 65536 in
theorem w_c4 : (Jvm.Cond.code ({ cls := "com/example/bellmin/bellmin/check/CheckOptions", name := "withExact", desc := "()Lcom/example/bellmin/bellmin/check/CheckOptions;" } : Jvm.MethodName) prog_5_method_4_code (1 : Nat) (Option.some (Jvm.ClassFile.FieldType.object "com/example/bellmin/bellmin/check/CheckOptions"))).before args0 about1 = true := code_word (m := ⟨2, 3⟩) (meth := k2m3) (c := k2c3) (by decide +kernel) rfl rfl rfl (by decide +kernel)
set_option maxRecDepth 65536 in
theorem w_c5 : (Jvm.Cond.code ({ cls := "com/example/bellmin/bellmin/check/CheckOptions", name := "withStrategies", desc := "()Lcom/example/bellmin/bellmin/check/CheckOptions;" } : Jvm.MethodName) prog_5_method_5_code (1 : Nat) (Option.some (Jvm.ClassFile.FieldType.object "com/example/bellmin/bellmin/check/CheckOptions"))).before args0 about1 = true := code_word (m := ⟨2, 4⟩) (meth := k2m4) (c := k2c4) (by decide +kernel) rfl rfl rfl (by decide +kernel)
set_option maxRecDepth 65536 in
theorem w_c6 : (Jvm.Cond.code ({ cls := "com/example/bellmin/bellmin/check/CheckOptions", name := "strategies", desc := "()Z" } : Jvm.MethodName) prog_5_method_9_code (1 : Nat) (Option.some Jvm.ClassFile.FieldType.boolean)).before args0 about1 = true := code_word (m := ⟨2, 7⟩) (meth := k2m7) (c := k2c7) (by decide +kernel) rfl rfl rfl (by decide +kernel)
set_option maxRecDepth 65536 in
theorem w_c7 : (Jvm.Cond.code ({ cls := "com/example/bellmin/bellmin/check/CheckOptions", name := "width", desc := "()D" } : Jvm.MethodName) prog_5_method_7_code (1 : Nat) (Option.some Jvm.ClassFile.FieldType.double)).before args0 about1 = true := code_word (m := ⟨2, 5⟩) (meth := k2m5) (c := k2c5) (by decide +kernel) rfl rfl rfl (by decide +kernel)
set_option maxRecDepth 65536 in
theorem w_c8 : (Jvm.Cond.code ({ cls := "com/example/bellmin/bellmin/check/CheckOptions", name := "exact", desc := "()Z" } : Jvm.MethodName) prog_5_method_8_code (1 : Nat) (Option.some Jvm.ClassFile.FieldType.boolean)).before args0 about1 = true := code_word (m := ⟨2, 6⟩) (meth := k2m6) (c := k2c6) (by decide +kernel) rfl rfl rfl (by decide +kernel)
set_option maxRecDepth 65536 in
theorem w_c9 : (Jvm.Cond.code ({ cls := "com/example/bellmin/bellmin/check/CheckOptions", name := "applied", desc := "()Ljava/nio/file/Path;" } : Jvm.MethodName) prog_5_method_10_code (1 : Nat) (Option.some (Jvm.ClassFile.FieldType.object "java/nio/file/Path"))).before args0 about1 = true := code_word (m := ⟨2, 8⟩) (meth := k2m8) (c := k2c8) (by decide +kernel) rfl rfl rfl (by decide +kernel)
set_option maxRecDepth 65536 in
theorem w_c10 : (Jvm.Cond.code ({ cls := "com/example/bellmin/bellmin/check/CheckOptions", name := "withWidth", desc := "(D)Lcom/example/bellmin/bellmin/check/CheckOptions;" } : Jvm.MethodName) prog_5_method_3_code (3 : Nat) (Option.some (Jvm.ClassFile.FieldType.object "com/example/bellmin/bellmin/check/CheckOptions"))).before args0 about1 = true := code_word (m := ⟨2, 2⟩) (meth := k2m2) (c := k2c2) (by decide +kernel) rfl rfl rfl (by decide +kernel)
def codes1 : List Jvm.Cond := [Jvm.Cond.code x code maxLocals ret, Jvm.Cond.code ({ cls := "com/example/bellmin/bellmin/check/CheckOptions", name := "<init>", desc := "()V" } : Jvm.MethodName) prog_5_method_1_code (1 : Nat) (Option.none : Option Jvm.ClassFile.FieldType), Jvm.Cond.code ({ cls := "com/example/bellmin/bellmin/check/CheckOptions", name := "<init>", desc := "(DZZLjava/nio/file/Path;)V" } : Jvm.MethodName) prog_5_method_2_code (6 : Nat) (Option.none : Option Jvm.ClassFile.FieldType), Jvm.Cond.code ({ cls := "java/lang/Object", name := "<init>", desc := "()V" } : Jvm.MethodName) object_method_1_code (1 : Nat) (Option.none : Option Jvm.ClassFile.FieldType), Jvm.Cond.code ({ cls := "com/example/bellmin/bellmin/check/CheckOptions", name := "withExact", desc := "()Lcom/example/bellmin/bellmin/check/CheckOptions;" } : Jvm.MethodName) prog_5_method_4_code (1 : Nat) (Option.some (Jvm.ClassFile.FieldType.object "com/example/bellmin/bellmin/check/CheckOptions")), Jvm.Cond.code ({ cls := "com/example/bellmin/bellmin/check/CheckOptions", name := "withStrategies", desc := "()Lcom/example/bellmin/bellmin/check/CheckOptions;" } : Jvm.MethodName) prog_5_method_5_code (1 : Nat) (Option.some (Jvm.ClassFile.FieldType.object "com/example/bellmin/bellmin/check/CheckOptions")), Jvm.Cond.code ({ cls := "com/example/bellmin/bellmin/check/CheckOptions", name := "strategies", desc := "()Z" } : Jvm.MethodName) prog_5_method_9_code (1 : Nat) (Option.some Jvm.ClassFile.FieldType.boolean), Jvm.Cond.code ({ cls := "com/example/bellmin/bellmin/check/CheckOptions", name := "width", desc := "()D" } : Jvm.MethodName) prog_5_method_7_code (1 : Nat) (Option.some Jvm.ClassFile.FieldType.double), Jvm.Cond.code ({ cls := "com/example/bellmin/bellmin/check/CheckOptions", name := "exact", desc := "()Z" } : Jvm.MethodName) prog_5_method_8_code (1 : Nat) (Option.some Jvm.ClassFile.FieldType.boolean), Jvm.Cond.code ({ cls := "com/example/bellmin/bellmin/check/CheckOptions", name := "applied", desc := "()Ljava/nio/file/Path;" } : Jvm.MethodName) prog_5_method_10_code (1 : Nat) (Option.some (Jvm.ClassFile.FieldType.object "java/nio/file/Path")), Jvm.Cond.code ({ cls := "com/example/bellmin/bellmin/check/CheckOptions", name := "withWidth", desc := "(D)Lcom/example/bellmin/bellmin/check/CheckOptions;" } : Jvm.MethodName) prog_5_method_3_code (3 : Nat) (Option.some (Jvm.ClassFile.FieldType.object "com/example/bellmin/bellmin/check/CheckOptions"))]
set_option maxRecDepth 65536 in
theorem codes_eq : words1.filter isCode = codes1 := rfl
theorem w_codes : ∀ c ∈ words1.filter isCode, c.before args0 about1 = true := by
  rw [codes_eq]
  intro c hc
  simp only [codes1, List.mem_cons, List.not_mem_nil, or_false] at hc
  rcases hc with rfl | rfl | rfl | rfl | rfl | rfl | rfl | rfl | rfl | rfl | rfl
  · exact w_c0
  · exact w_c1
  · exact w_c2
  · exact w_c3
  · exact w_c4
  · exact w_c5
  · exact w_c6
  · exact w_c7
  · exact w_c8
  · exact w_c9
  · exact w_c10
set_option maxRecDepth 65536 in
theorem w_t1 : (words1.take 24).all (fun c => isCode c || c.before args0 about1) = true := by decide +kernel
set_option maxRecDepth 65536 in
theorem w_t2 : ((words1.drop 24).take 24).all (fun c => isCode c || c.before args0 about1) = true := by decide +kernel
set_option maxRecDepth 65536 in
theorem w_t3 : ((words1.drop 24).drop 24).all (fun c => isCode c || c.before args0 about1) = true := by decide +kernel
theorem w_tables : (allAtoms (Jvm.Cond.code x code maxLocals ret :: tables_1)).before args0 about1 = true := by
  rw [allAtoms_all]
  show words1.all (fun c => c.before args0 about1) = true
  refine all_split ?_ w_codes
  rw [← List.take_append_drop 24 words1, List.all_append, w_t1, ← List.take_append_drop 24 (words1.drop 24), List.all_append, w_t2, w_t3]
  rfl
set_option maxRecDepth 65536 in
theorem w_case : (Jvm.Cond.and given_1 narrow_1).before args0 about1 = true := by decide +kernel
theorem w_applies : (headSpec (Jvm.Cond.code x code maxLocals ret :: tables_1) room_1).applies x e0.platform about1 = true :=
  (Spec.applies_iff w_frames).mpr ⟨w_running, w_runnable, w_alone, w_named, w_hears, w_ripe, w_room, w_tables⟩
theorem atStart : AtStart classFile x code maxLocals ret World_1 tables_1 room_1 Calls_1 rest_1 Pre_1 launch0 p0 e0 about1 theMethod args0 below0 :=
  ⟨lists_1, trivial, launch0.admits_env _ _ _, launch0.least_env, fairChoices_fair.cas, fairChoices_fair.clock, w_frames, w_args, w_heap, w_applies, trivial, trivial, w_case⟩
end start1
theorem witness_1 : WitnessClaimed_1 := ⟨start1.p0, start1.e0, start1.about1, start1.theMethod, start1.args0, start1.below0, start1.atStart⟩
end Jvm.Pilot.@@N@@
