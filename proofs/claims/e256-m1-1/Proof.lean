import JvmDerived
import JvmDerived.Pilot.@@N@@Statement
import JvmDerived.Pilot.@@N@@Code
set_option linter.unusedVariables false
set_option linter.unusedSimpArgs false
@@BLOCK:NumsL.lean.txt@@
namespace Jvm.Pilot.@@N@@
open Jvm Jvm.ClassFile Sem Op Lib Jvm.Free Jvm.Stand Jvm.LawKit Jvm.RoadKit Bundle Jvm.Pilot.@@N@@.Jvm.D
section OwnFP
open Jvm.FP.Core
/-- the datum is i * 2^k -/
def OwnSc (k i : Int) : Datum → Prop
  | .fin s c q => Whole i (.fin s c (q - k))
  | _ => False
/-- the double is i * 2^k -/
def OwnDS (k i : Int) (a : UInt64) : Prop := OwnSc k i (val64 a)

theorem own_sc_fin {k i : Int} {d : Datum} (h : OwnSc k i d) : ∃ s c q, d = .fin s c q ∧ Whole i (.fin s c (q - k)) := by
  cases d with
  | nan => exact h.elim
  | inf => exact h.elim
  | fin s c q => exact ⟨s, c, q, rfl, h⟩

theorem own_ds_int {i : Int} {a : UInt64} (h : DInt i a) : OwnDS 0 i a := by
  have h' : Whole i (val64 a) := h
  show OwnSc 0 i (val64 a)
  cases hv : val64 a with
  | nan => rw [hv] at h'; exact h'.elim
  | inf => rw [hv] at h'; exact h'.elim
  | fin s c q => rw [hv] at h'; show Whole i (.fin s c (q - 0)); rw [Int.sub_zero]; exact h'

theorem own_int_ds {i : Int} {a : UInt64} (h : OwnDS 0 i a) : DInt i a := by
  obtain ⟨s, c, q, hv, h'⟩ := own_sc_fin h
  show Whole i (val64 a)
  rw [hv]; rw [Int.sub_zero] at h'; exact h'

theorem own_ds_ne_nan {k i : Int} {a : UInt64} (h : OwnDS k i a) : val64 a ≠ .nan := by
  obtain ⟨s, c, q, hv, -⟩ := own_sc_fin h
  rw [hv]; exact Datum.noConfusion

/-- the numbers i * 2^k with |i| < 2^n are doubles where n ≤ 53, n + k ≤ 1024, -1022 ≤ k -/
theorem own_fitAt (s : Bool) {n m : Nat} {k : Int} (hm : m < 2 ^ n) (hn : n ≤ 53) (h1 : (n : Int) + k ≤ 1024) (h2 : -1022 ≤ k) :
    ∃ c q, Jvm.FP.Core.fits b64 (.fin s c q) ∧ m * 2 ^ (k - q).toNat = c * 1 * 2 ^ (q - k).toNat := by
  have hq1 : b64.qmin = -1074 := by decide
  have hq2 : b64.qmax = 971 := by decide
  by_cases h0 : m = 0
  · subst h0
    exact ⟨0, b64.qmin, zero_fits good_b64 s, by simp⟩
  · have l1 : 2 ^ m.log2 ≤ m := Nat.log2_self_le h0
    have l2 : m < 2 ^ (m.log2 + 1) := Nat.lt_log2_self
    have l3 : m.log2 < n := (Nat.pow_lt_pow_iff_right (by decide : 1 < 2)).mp (Nat.lt_of_le_of_lt l1 hm)
    generalize m.log2 = L at l1 l2 l3
    refine ⟨m * 2 ^ (52 - L), (L : Int) - 52 + k, ⟨?_, by omega, by omega, .inr ?_⟩, ?_⟩
    · calc m * 2 ^ (52 - L) < 2 ^ (L + 1) * 2 ^ (52 - L) := Nat.mul_lt_mul_of_pos_right l2 (Nat.two_pow_pos _)
        _ = 2 ^ b64.p := by rw [← Nat.pow_add]; congr 1; show L + 1 + (52 - L) = 53; omega
    · calc b64.tails = 2 ^ L * 2 ^ (52 - L) := by rw [← Nat.pow_add]; show 2 ^ 52 = _; congr 1; omega
        _ ≤ m * 2 ^ (52 - L) := Nat.mul_le_mul_right _ l1
    · rw [show (k - ((L : Int) - 52 + k)).toNat = 52 - L by omega, show ((L : Int) - 52 + k - k).toNat = 0 by omega]
      simp

theorem own_signed_of {i : Int} {s : Bool} {c : Nat} {q : Int} (h : Whole i (.fin s c q)) : signed s i.natAbs = i := by
  by_cases hi : i = 0
  · rw [hi]; exact signed_zero s
  · rw [whole_sign h hi]
    by_cases h : i < 0
    · rw [decide_eq_true h]; show -(i.natAbs : Int) = i; omega
    · rw [decide_eq_false h]; show (i.natAbs : Int) = i; omega

/-- what roundRatio makes of a ratio that is m * 2^k, m < 2^n -/
theorem own_rr {s : Bool} {A B m n : Nat} {e k i : Int} (hB : 0 < B) (hv : A * 2 ^ (e - k).toNat = m * B * 2 ^ (k - e).toNat)
    (hm : m < 2 ^ n) (hn : n ≤ 53) (h1 : (n : Int) + k ≤ 1024) (h2 : -1022 ≤ k) (hi : signed s m = i) : OwnSc k i (roundRatio b64 s A B e) := by
  obtain ⟨c', q', hfit, hv'⟩ := own_fitAt s hm hn h1 h2
  rw [roundRatio_congr (A' := m) (B' := 1) (e' := k) hB (by decide) (by simpa using hv), roundRatio_exact good_b64 (by decide) hfit hv']
  show signed s (c' * 2 ^ (q' - k).toNat) = i * ((2 ^ (-(q' - k)).toNat : Nat) : Int)
  rw [show (-(q' - k)).toNat = (k - q').toNat by omega, ← hi, ← signed_mul, hv', Nat.mul_one]

theorem own_sc_round {n : Nat} {k i : Int} {d : Datum} (h : OwnSc k i d) (hi : i.natAbs < 2 ^ n) (hn : n ≤ 53) (h1 : (n : Int) + k ≤ 1024) (h2 : -1022 ≤ k) : OwnSc k i (round b64 d) := by
  obtain ⟨s, c, q, rfl, hw⟩ := own_sc_fin h
  refine own_rr (m := i.natAbs) (n := n) (by decide) ?_ hi hn h1 h2 (own_signed_of hw)
  have q1 := whole_natAbs hw
  rw [show (-(q - k)).toNat = (k - q).toNat by omega] at q1
  simpa using q1

theorem own_shift_sum (s : Bool) (c : Nat) (q : Int) (t : Bool) (d : Nat) (r k : Int) :
    ∃ u f w, exactSum (.fin s c q) (.fin t d r) = .fin u f w ∧ exactSum (.fin s c (q - k)) (.fin t d (r - k)) = .fin u f (w - k) := by
  refine ⟨_, _, _, rfl, ?_⟩
  have hmin : min (q - k) (r - k) = min q r - k := by omega
  have hu : sumUnits s c (q - k) t d (r - k) (min (q - k) (r - k)) = sumUnits s c q t d r (min q r) := by
    show signed s (c * 2 ^ (q - k - min (q - k) (r - k)).toNat) + signed t (d * 2 ^ (r - k - min (q - k) (r - k)).toNat) = signed s (c * 2 ^ (q - min q r).toNat) + signed t (d * 2 ^ (r - min q r).toNat)
    rw [hmin, show q - k - (min q r - k) = q - min q r by omega, show r - k - (min q r - k) = r - min q r by omega]
  show Datum.fin (sumSign s t (sumUnits s c (q - k) t d (r - k) (min (q - k) (r - k)))) (sumUnits s c (q - k) t d (r - k) (min (q - k) (r - k))).natAbs (min (q - k) (r - k)) = _
  rw [hu, hmin]

theorem own_sc_sum {k i j : Int} {x y : Datum} (hx : OwnSc k i x) (hy : OwnSc k j y) : OwnSc k (i + j) (exactSum x y) := by
  obtain ⟨s, c, q, rfl, h1⟩ := own_sc_fin hx
  obtain ⟨t, d, r, rfl, h2⟩ := own_sc_fin hy
  obtain ⟨u, f, w, e1, e2⟩ := own_shift_sum s c q t d r k
  have h3 := whole_sum h1 h2
  rw [e2] at h3
  rw [e1]; exact h3

theorem own_sc_neg {k i : Int} {x : Datum} (hx : OwnSc k i x) : OwnSc k (-i) (negate x) := by
  obtain ⟨s, c, q, rfl, h1⟩ := own_sc_fin hx
  exact whole_negate h1

theorem own_sc_mul {k l i j : Int} {x y : Datum} (hx : OwnSc k i x) (hy : OwnSc l j y) : OwnSc (k + l) (i * j) (exactProduct x y) := by
  obtain ⟨s, c, q, rfl, h1⟩ := own_sc_fin hx
  obtain ⟨t, d, r, rfl, h2⟩ := own_sc_fin hy
  have h3 : Whole (i * j) (.fin (s != t) (c * d) (q - k + (r - l))) := whole_product h1 h2
  show Whole (i * j) (.fin (s != t) (c * d) (q + r - (k + l)))
  rw [show q + r - (k + l) = q - k + (r - l) by omega]; exact h3

theorem own_ds_add {n : Nat} {k i j : Int} {a b : UInt64} (ha : OwnDS k i a) (hb : OwnDS k j b) (h : (i + j).natAbs < 2 ^ n) (hn : n ≤ 53 := by decide) (h1 : (n : Int) + k ≤ 1024 := by decide) (h2 : -1022 ≤ k := by decide) : OwnDS k (i + j) (dadd a b) := by
  show OwnSc _ _ _
  rw [val64_dadd]; exact own_sc_round (own_sc_sum ha hb) h hn h1 h2
theorem own_ds_sub {n : Nat} {k i j : Int} {a b : UInt64} (ha : OwnDS k i a) (hb : OwnDS k j b) (h : (i - j).natAbs < 2 ^ n) (hn : n ≤ 53 := by decide) (h1 : (n : Int) + k ≤ 1024 := by decide) (h2 : -1022 ≤ k := by decide) : OwnDS k (i - j) (dsub a b) := by
  show OwnSc _ _ _
  rw [val64_dsub]; exact own_sc_round (own_sc_sum ha (own_sc_neg hb)) h hn h1 h2
theorem own_ds_mul {n : Nat} {k l i j : Int} {a b : UInt64} (ha : OwnDS k i a) (hb : OwnDS l j b) (h : (i * j).natAbs < 2 ^ n) (hn : n ≤ 53 := by decide) (h1 : (n : Int) + (k + l) ≤ 1024 := by decide) (h2 : -1022 ≤ k + l := by decide) : OwnDS (k + l) (i * j) (dmul a b) := by
  show OwnSc _ _ _
  rw [val64_dmul]; exact own_sc_round (own_sc_mul ha hb) h hn h1 h2
theorem own_ds_negC {k i : Int} {a : UInt64} (ha : OwnDS k i a) : OwnDS k (-i) (dneg a) := by
  show OwnSc _ _ _
  rw [val64_dneg]; exact own_sc_neg ha

theorem own_order_shift (s : Bool) (c : Nat) (q : Int) (t : Bool) (d : Nat) (r k : Int) :
    order (.fin s c (q - k)) (.fin t d (r - k)) = order (.fin s c q) (.fin t d r) := by
  have hmin : min (q - k) (r - k) = min q r - k := by omega
  show some (compare (signed s (c * 2 ^ (q - k - min (q - k) (r - k)).toNat)) (signed t (d * 2 ^ (r - k - min (q - k) (r - k)).toNat))) = some (compare (signed s (c * 2 ^ (q - min q r).toNat)) (signed t (d * 2 ^ (r - min q r).toNat)))
  rw [hmin, show q - k - (min q r - k) = q - min q r by omega, show r - k - (min q r - k) = r - min q r by omega]

theorem own_ds_cmp {k i j : Int} {a b : UInt64} (ha : OwnDS k i a) (hb : OwnDS k j b) : dcmp a b = some (compare i j) := by
  obtain ⟨s, c, q, e1, h1⟩ := own_sc_fin ha
  obtain ⟨t, d, r, e2, h2⟩ := own_sc_fin hb
  show order (val64 a) (val64 b) = _
  rw [e1, e2, ← own_order_shift _ _ _ _ _ _ k]
  exact order_whole h1 h2

/-- the number kept, its scale moved down -/
theorem own_ds_down {k i : Int} {a : UInt64} (n : Nat) (h : OwnDS (k + n) i a) : OwnDS k (i * ((2 ^ n : Nat) : Int)) a := by
  obtain ⟨s, c, q, e1, h1⟩ := own_sc_fin h
  show OwnSc _ _ _
  rw [e1]
  have h2 : signed s (c * 2 ^ (q - (k + n)).toNat) = i * ((2 ^ (-(q - (k + n))).toNat : Nat) : Int) := h1
  show signed s (c * 2 ^ (q - k).toNat) = i * ((2 ^ n : Nat) : Int) * ((2 ^ (-(q - k)).toNat : Nat) : Int)
  have p2 : ((2 ^ (-(q - (k + n))).toNat : Nat) : Int) ≠ 0 := by
    have := Nat.two_pow_pos (-(q - (k + n))).toNat; omega
  refine Int.eq_of_mul_eq_mul_right p2 ?_
  have hx : (q - k).toNat + (-(q - (k + n))).toNat = (q - (k + n)).toNat + (n + (-(q - k)).toNat) := by omega
  rw [← signed_mul, Nat.mul_assoc, ← Nat.pow_add, hx, Nat.pow_add, ← Nat.mul_assoc, signed_mul, h2, Nat.pow_add]
  rw [Int.natCast_mul]; ac_rfl
theorem own_ds_up {k i : Int} {a : UInt64} (n : Nat) (h : OwnDS k (i * ((2 ^ n : Nat) : Int)) a) : OwnDS (k + n) i a := by
  obtain ⟨s, c, q, e1, h1⟩ := own_sc_fin h
  show OwnSc _ _ _
  rw [e1]
  have h2 : signed s (c * 2 ^ (q - k).toNat) = i * ((2 ^ n : Nat) : Int) * ((2 ^ (-(q - k)).toNat : Nat) : Int) := h1
  show signed s (c * 2 ^ (q - (k + n)).toNat) = i * ((2 ^ (-(q - (k + n))).toNat : Nat) : Int)
  have p2 : ((2 ^ (n + (-(q - k)).toNat) : Nat) : Int) ≠ 0 := by
    have := Nat.two_pow_pos (n + (-(q - k)).toNat); omega
  refine Int.eq_of_mul_eq_mul_right p2 ?_
  have hx : (q - (k + n)).toNat + (n + (-(q - k)).toNat) = (q - k).toNat + (-(q - (k + n))).toNat := by omega
  rw [← signed_mul, Nat.mul_assoc, ← Nat.pow_add, hx, Nat.pow_add, ← Nat.mul_assoc, signed_mul, h2, Nat.pow_add]
  rw [Int.natCast_mul]; ac_rfl

/-- a quotient that is whole (in its scale) is exact -/
theorem own_ds_div {n : Nat} {k l i j m : Int} {a b : UInt64} (ha : OwnDS k i a) (hb : OwnDS l j b) (hj : j ≠ 0) (hm : i = m * j) (h : m.natAbs < 2 ^ n) (hn : n ≤ 53 := by decide) (h1 : (n : Int) + (k - l) ≤ 1024 := by decide) (h2 : -1022 ≤ k - l := by decide) : OwnDS (k - l) m (ddiv a b) := by
  obtain ⟨s, c, q, e1, w1⟩ := own_sc_fin ha
  obtain ⟨t, d, r, e2, w2⟩ := own_sc_fin hb
  show OwnSc _ _ _
  rw [val64_ddiv, e1, e2]
  have hd : d ≠ 0 := fun h0 => hj ((whole_zero w2).mp h0)
  have hq : quotient b64 (.fin s c q) (.fin t d r) = roundRatio b64 (s != t) c d (q - r) := by
    show (if d = 0 then (if c = 0 then Datum.nan else .inf (s != t)) else roundRatio b64 (s != t) c d (q - r)) = _
    rw [if_neg hd]
  rw [hq]
  have q1 := whole_natAbs w1
  have q2 := whole_natAbs w2
  have hmn : i.natAbs = m.natAbs * j.natAbs := by rw [hm, Int.natAbs_mul]
  refine own_rr (m := m.natAbs) (n := n) (Nat.pos_of_ne_zero hd) ?_ h hn h1 h2 ?_
  · -- c 2^(q-k) = |m| |j| 2^(k-q), d 2^(r-l) = |j| 2^(l-r)
    have hjp : 0 < j.natAbs := Int.natAbs_pos.mpr hj
    rw [hmn] at q1
    generalize j.natAbs = J at q1 q2 hjp
    generalize m.natAbs = M at q1
    have hE : 0 < 2 ^ (-(r - l)).toNat * J * 2 ^ (-(q - k)).toNat * 2 ^ (r - l).toNat := by
      exact Nat.mul_pos (Nat.mul_pos (Nat.mul_pos (Nat.two_pow_pos _) hjp) (Nat.two_pow_pos _)) (Nat.two_pow_pos _)
    refine Nat.eq_of_mul_eq_mul_right hE ?_
    have x1 : (q - r - (k - l)).toNat + (-(q - k)).toNat + (r - l).toNat = (q - k).toNat + (-(r - l)).toNat + (k - l - (q - r)).toNat := by omega
    calc c * 2 ^ (q - r - (k - l)).toNat * (2 ^ (-(r - l)).toNat * J * 2 ^ (-(q - k)).toNat * 2 ^ (r - l).toNat)
        = c * (J * 2 ^ (-(r - l)).toNat) * 2 ^ ((q - r - (k - l)).toNat + (-(q - k)).toNat + (r - l).toNat) := by
          simp only [Nat.pow_add]; ac_rfl
      _ = c * (d * 2 ^ (r - l).toNat) * 2 ^ ((q - k).toNat + (-(r - l)).toNat + (k - l - (q - r)).toNat) := by rw [x1, ← q2]
      _ = (c * 2 ^ (q - k).toNat) * (d * 2 ^ (r - l).toNat) * 2 ^ (-(r - l)).toNat * 2 ^ (k - l - (q - r)).toNat := by
          simp only [Nat.pow_add]; ac_rfl
      _ = (M * J * 2 ^ (-(q - k)).toNat) * (d * 2 ^ (r - l).toNat) * 2 ^ (-(r - l)).toNat * 2 ^ (k - l - (q - r)).toNat := by rw [q1]
      _ = M * d * 2 ^ (k - l - (q - r)).toNat * (2 ^ (-(r - l)).toNat * J * 2 ^ (-(q - k)).toNat * 2 ^ (r - l).toNat) := by ac_rfl
  · have s1 := own_signed_of w1
    have s2 := own_signed_of w2
    have h3 : signed (s != t) (i.natAbs * j.natAbs) = i * j := by rw [signed_xor, s1, s2]
    have h4 : i.natAbs * j.natAbs = m.natAbs * (j.natAbs * j.natAbs) := by rw [hmn, Nat.mul_assoc]
    rw [h4, signed_mul] at h3
    have hjj : ((j.natAbs * j.natAbs : Nat) : Int) = j * j := by rw [Int.natAbs_mul_self]
    rw [hjj, hm, Int.mul_assoc] at h3
    exact Int.eq_of_mul_eq_mul_right (Int.mul_ne_zero hj hj) h3
end OwnFP
/-! own tools: a walk in continuation style, named values, the ends -/
abbrev uU : Slot := .unset
abbrev uS : Slot := .second
abbrev sN : Slot := .val .null
abbrev sI (x : Int32) : Slot := .val (.int x)
abbrev sJ (x : Int64) : Slot := .val (.long x)
abbrev sD (x : UInt64) : Slot := .val (.double x)
abbrev sR (x : Addr) : Slot := .val (.ref x)
def OwnGo (tb : Tables) (e : Env) (below : List Frame) (Q : Outcome → State → Prop) (S : State) : Prop := ∃ s₂ o, Steps tb e below S s₂ ∧ s₂.status = .running ∧ Ended s₂ below o ∧ Q o s₂
theorem OwnGo.pre {tb : Tables} {e : Env} {below : List Frame} {Q : Outcome → State → Prop} {S S' : State} (h : ∀ t, Steps tb e below S' t → Steps tb e below S t) (k : OwnGo tb e below Q S') : OwnGo tb e below Q S := by
  obtain ⟨t, o, h1, h2⟩ := k
  exact ⟨t, o, h t h1, h2⟩
abbrev OwnEnd (s : State) (Q : Option Value → Heap → List Loc → Prop) (kc ks : Nat) : Outcome → State → Prop := fun o s₂ => ∃ v L, o = .returned v ∧ Q v s₂.heap L ∧ FrameEnd s o s₂ L kc ks
section OwnEnds
variable {p : Program} {l : Launch} {e : Env} {R : Room} {s : State} {m : MethodId} {args : Array Value} {below : List Frame} {meth : Method} {c : Code} {T : State} {locs : List Loc} {cells slots : Nat}
theorem own_retZ (X : Stand p l e R s m args below meth c T locs cells slots) (hx : p.tables.exec = Jvm.exec) (hk : meth.locks = false) {pc : Nat} {Ls : Array Slot} {z : Int32} {rest : List Value} (hret : meth.sig.returnType = some .boolean) (hd : decode c.code pc = .ok (.ireturn, 1))
    {Q : Option Value → Heap → List Loc → Prop} {kc ks : Nat} (hq : Q (some (.int (nar .boolean z))) T.heap locs) (hc : cells ≤ kc) (hs : slots ≤ ks) : OwnGo p.tables e below (OwnEnd s Q kc ks) (T.setTop (mkF m pc Ls (.int z :: rest))) := by
  obtain ⟨fs, hr, hrun, hended, hW, hsame⟩ := X.leave (v := some (.int (nar .boolean z))) (fun h => by rw [hret] at h; cases h) hk
  exact ⟨_, _, retN X hx (t := .boolean) hret (by simp) hd hr, hrun, hended, _, _, rfl, hq, ⟨_, rfl⟩, hW, hsame.mono hc hs⟩
theorem own_retI (X : Stand p l e R s m args below meth c T locs cells slots) (hx : p.tables.exec = Jvm.exec) (hk : meth.locks = false) {pc : Nat} {Ls : Array Slot} {z : Int32} {rest : List Value} (hret : meth.sig.returnType = some .int) (hd : decode c.code pc = .ok (.ireturn, 1))
    {Q : Option Value → Heap → List Loc → Prop} {kc ks : Nat} (hq : Q (some (.int z)) T.heap locs) (hc : cells ≤ kc) (hs : slots ≤ ks) : OwnGo p.tables e below (OwnEnd s Q kc ks) (T.setTop (mkF m pc Ls (.int z :: rest))) := by
  obtain ⟨fs, hr, hrun, hended, hW, hsame⟩ := X.leave (v := some (.int z)) (fun h => by rw [hret] at h; cases h) hk
  exact ⟨_, _, retOut X hx hret rfl (Or.inl ⟨rfl, Or.inl rfl, _, rfl⟩) hd hr, hrun, hended, _, _, rfl, hq, ⟨_, rfl⟩, hW, hsame.mono hc hs⟩
theorem own_retJ (X : Stand p l e R s m args below meth c T locs cells slots) (hx : p.tables.exec = Jvm.exec) (hk : meth.locks = false) {pc : Nat} {Ls : Array Slot} {z : Int64} {rest : List Value} (hret : meth.sig.returnType = some .long) (hd : decode c.code pc = .ok (.lreturn, 1))
    {Q : Option Value → Heap → List Loc → Prop} {kc ks : Nat} (hq : Q (some (.long z)) T.heap locs) (hc : cells ≤ kc) (hs : slots ≤ ks) : OwnGo p.tables e below (OwnEnd s Q kc ks) (T.setTop (mkF m pc Ls (.long z :: rest))) := by
  obtain ⟨fs, hr, hrun, hended, hW, hsame⟩ := X.leave (v := some (.long z)) (fun h => by rw [hret] at h; cases h) hk
  exact ⟨_, _, retOut X hx hret rfl (Or.inr (Or.inl ⟨rfl, rfl, _, rfl⟩)) hd hr, hrun, hended, _, _, rfl, hq, ⟨_, rfl⟩, hW, hsame.mono hc hs⟩
theorem own_retD (X : Stand p l e R s m args below meth c T locs cells slots) (hx : p.tables.exec = Jvm.exec) (hk : meth.locks = false) {pc : Nat} {Ls : Array Slot} {z : UInt64} {rest : List Value} (hret : meth.sig.returnType = some .double) (hd : decode c.code pc = .ok (.dreturn, 1))
    {Q : Option Value → Heap → List Loc → Prop} {kc ks : Nat} (hq : Q (some (.double z)) T.heap locs) (hc : cells ≤ kc) (hs : slots ≤ ks) : OwnGo p.tables e below (OwnEnd s Q kc ks) (T.setTop (mkF m pc Ls (.double z :: rest))) := by
  obtain ⟨fs, hr, hrun, hended, hW, hsame⟩ := X.leave (v := some (.double z)) (fun h => by rw [hret] at h; cases h) hk
  exact ⟨_, _, retOut X hx hret rfl (Or.inr (Or.inr (Or.inl ⟨rfl, rfl, _, rfl⟩))) hd hr, hrun, hended, _, _, rfl, hq, ⟨_, rfl⟩, hW, hsame.mono hc hs⟩
theorem own_retA (X : Stand p l e R s m args below meth c T locs cells slots) (hx : p.tables.exec = Jvm.exec) (hk : meth.locks = false) {pc : Nat} {Ls : Array Slot} {C : String} {w : Value} {rest : List Value} (hret : meth.sig.returnType = some (.object C)) (hd : decode c.code pc = .ok (.areturn, 1)) (hw : w.isRef = true)
    {Q : Option Value → Heap → List Loc → Prop} {kc ks : Nat} (hq : Q (some w) T.heap locs) (hc : cells ≤ kc) (hs : slots ≤ ks) : OwnGo p.tables e below (OwnEnd s Q kc ks) (T.setTop (mkF m pc Ls (w :: rest))) := by
  obtain ⟨fs, hr, hrun, hended, hW, hsame⟩ := X.leave (v := some w) (fun h => by rw [hret] at h; cases h) hk
  exact ⟨_, _, retOut X hx hret (by cases w <;> first | rfl | cases hw) (Or.inr (Or.inr (Or.inr (Or.inr ⟨rfl, rfl, hw⟩)))) hd hr, hrun, hended, _, _, rfl, hq, ⟨_, rfl⟩, hW, hsame.mono hc hs⟩
theorem own_ret0 (X : Stand p l e R s m args below meth c T locs cells slots) (hx : p.tables.exec = Jvm.exec) (hk : meth.locks = false) {pc : Nat} {Ls : Array Slot} (hret : meth.sig.returnType = none) (hd : decode c.code pc = .ok (.return_, 1))
    {Q : Option Value → Heap → List Loc → Prop} {kc ks : Nat} (hq : Q none T.heap locs) (hc : cells ≤ kc) (hs : slots ≤ ks) : OwnGo p.tables e below (OwnEnd s Q kc ks) (T.setTop (mkF m pc Ls [])) := by
  obtain ⟨fs, hr, hrun, hended, hW, hsame⟩ := X.leave (v := none) (fun _ => rfl) hk
  exact ⟨_, _, X.returnOut hx hret hd hr, hrun, hended, _, _, rfl, hq, ⟨_, rfl⟩, hW, hsame.mono hc hs⟩
theorem own_ldcD (X : Stand p l e R s m args below meth c T locs cells slots) (hx : p.tables.exec = Jvm.exec) {own : String} {index : Nat} {b : UInt64} (hown : s.vm.findClass own = some m.cls) (hconst : (Cond.constantDouble own index b).before args s = true) {g : JFrame} {target : State} (hg : g.method = m) (hd : decode c.code g.pc = .ok (.ldc2_w index, 3))
    (hr : Steps p.tables e below (T.setTop { g with pc := g.pc + 3, stack := .double b :: g.stack }) target) : Steps p.tables e below (T.setTop g) target := X.ldc2DoubleC hx hown hconst hg hd target hr
theorem own_ldcJ (X : Stand p l e R s m args below meth c T locs cells slots) (hx : p.tables.exec = Jvm.exec) {own : String} {index : Nat} {b : Int64} (hown : s.vm.findClass own = some m.cls) (hconst : (Cond.constantLong own index b).before args s = true) {g : JFrame} {target : State} (hg : g.method = m) (hd : decode c.code g.pc = .ok (.ldc2_w index, 3))
    (hr : Steps p.tables e below (T.setTop { g with pc := g.pc + 3, stack := .long b :: g.stack }) target) : Steps p.tables e below (T.setTop g) target := X.ldc2Long hx hown hconst hg hd target hr
theorem own_ldcI (X : Stand p l e R s m args below meth c T locs cells slots) (hx : p.tables.exec = Jvm.exec) {own : String} {index : Nat} {b : Int32} (hown : s.vm.findClass own = some m.cls) (hconst : (Cond.constant own index b).before args s = true) {g : JFrame} {target : State} (hg : g.method = m) (hd : decode c.code g.pc = .ok (.ldc index, 2))
    (hr : Steps p.tables e below (T.setTop { g with pc := g.pc + 2, stack := .int b :: g.stack }) target) : Steps p.tables e below (T.setTop g) target := X.ldcInt hx hown hconst hg hd target hr
end OwnEnds
theorem own_iadd {tb : Tables} [Ours tb] {e : Env} {below : List Frame} {T target : State} {m : MethodId} {c : Code} {g : JFrame} (h : At T m c below) (hx : tb.exec = Jvm.exec) (hg : g.method = m) {x : Int32} {y : Int32} {v : Int32} {rest : List Value} (hd : decode c.code g.pc = .ok (.iadd, 1)) (hs : g.stack = .int y :: .int x :: rest) (hv : x + y = v)
    (hr : Steps tb e below (T.setTop { g with pc := g.pc + 1, stack := .int v :: rest }) target) : Steps tb e below (T.setTop g) target := by subst hv; exact XS.iadd h hx hg hd hs hr
theorem own_isub {tb : Tables} [Ours tb] {e : Env} {below : List Frame} {T target : State} {m : MethodId} {c : Code} {g : JFrame} (h : At T m c below) (hx : tb.exec = Jvm.exec) (hg : g.method = m) {x : Int32} {y : Int32} {v : Int32} {rest : List Value} (hd : decode c.code g.pc = .ok (.isub, 1)) (hs : g.stack = .int y :: .int x :: rest) (hv : x - y = v)
    (hr : Steps tb e below (T.setTop { g with pc := g.pc + 1, stack := .int v :: rest }) target) : Steps tb e below (T.setTop g) target := by subst hv; exact XS.isub h hx hg hd hs hr
theorem own_iand {tb : Tables} [Ours tb] {e : Env} {below : List Frame} {T target : State} {m : MethodId} {c : Code} {g : JFrame} (h : At T m c below) (hx : tb.exec = Jvm.exec) (hg : g.method = m) {x : Int32} {y : Int32} {v : Int32} {rest : List Value} (hd : decode c.code g.pc = .ok (.iand, 1)) (hs : g.stack = .int y :: .int x :: rest) (hv : x &&& y = v)
    (hr : Steps tb e below (T.setTop { g with pc := g.pc + 1, stack := .int v :: rest }) target) : Steps tb e below (T.setTop g) target := by subst hv; exact XS.iand h hx hg hd hs hr
theorem own_ishl {tb : Tables} [Ours tb] {e : Env} {below : List Frame} {T target : State} {m : MethodId} {c : Code} {g : JFrame} (h : At T m c below) (hx : tb.exec = Jvm.exec) (hg : g.method = m) {x : Int32} {y : Int32} {v : Int32} {rest : List Value} (hd : decode c.code g.pc = .ok (.ishl, 1)) (hs : g.stack = .int y :: .int x :: rest) (hv : x <<< (y &&& 31) = v)
    (hr : Steps tb e below (T.setTop { g with pc := g.pc + 1, stack := .int v :: rest }) target) : Steps tb e below (T.setTop g) target := by subst hv; exact XT.ishl h hx hg hd hs hr
theorem own_ishr {tb : Tables} [Ours tb] {e : Env} {below : List Frame} {T target : State} {m : MethodId} {c : Code} {g : JFrame} (h : At T m c below) (hx : tb.exec = Jvm.exec) (hg : g.method = m) {x : Int32} {y : Int32} {v : Int32} {rest : List Value} (hd : decode c.code g.pc = .ok (.ishr, 1)) (hs : g.stack = .int y :: .int x :: rest) (hv : x >>> (y &&& 31) = v)
    (hr : Steps tb e below (T.setTop { g with pc := g.pc + 1, stack := .int v :: rest }) target) : Steps tb e below (T.setTop g) target := by subst hv; exact XT.ishr h hx hg hd hs hr
theorem own_iushr {tb : Tables} [Ours tb] {e : Env} {below : List Frame} {T target : State} {m : MethodId} {c : Code} {g : JFrame} (h : At T m c below) (hx : tb.exec = Jvm.exec) (hg : g.method = m) {x : Int32} {y : Int32} {v : Int32} {rest : List Value} (hd : decode c.code g.pc = .ok (.iushr, 1)) (hs : g.stack = .int y :: .int x :: rest) (hv : XT.ushr x y = v)
    (hr : Steps tb e below (T.setTop { g with pc := g.pc + 1, stack := .int v :: rest }) target) : Steps tb e below (T.setTop g) target := by subst hv; exact XT.iushr h hx hg hd hs hr
theorem own_irem {tb : Tables} [Ours tb] {e : Env} {below : List Frame} {T target : State} {m : MethodId} {c : Code} {g : JFrame} (h : At T m c below) (hx : tb.exec = Jvm.exec) (hg : g.method = m) {x : Int32} {y : Int32} {v : Int32} {rest : List Value} (hd : decode c.code g.pc = .ok (.irem, 1)) (hs : g.stack = .int y :: .int x :: rest) (hy : y ≠ 0) (hv : x - x / y * y = v)
    (hr : Steps tb e below (T.setTop { g with pc := g.pc + 1, stack := .int v :: rest }) target) : Steps tb e below (T.setTop g) target := by subst hv; exact XS.irem h hx hg hd hs hy hr
theorem own_ladd {tb : Tables} [Ours tb] {e : Env} {below : List Frame} {T target : State} {m : MethodId} {c : Code} {g : JFrame} (h : At T m c below) (hx : tb.exec = Jvm.exec) (hg : g.method = m) {x : Int64} {y : Int64} {v : Int64} {rest : List Value} (hd : decode c.code g.pc = .ok (.ladd, 1)) (hs : g.stack = .long y :: .long x :: rest) (hv : x + y = v)
    (hr : Steps tb e below (T.setTop { g with pc := g.pc + 1, stack := .long v :: rest }) target) : Steps tb e below (T.setTop g) target := by subst hv; exact XT.ladd h hx hg hd hs hr
theorem own_lsub {tb : Tables} [Ours tb] {e : Env} {below : List Frame} {T target : State} {m : MethodId} {c : Code} {g : JFrame} (h : At T m c below) (hx : tb.exec = Jvm.exec) (hg : g.method = m) {x : Int64} {y : Int64} {v : Int64} {rest : List Value} (hd : decode c.code g.pc = .ok (.lsub, 1)) (hs : g.stack = .long y :: .long x :: rest) (hv : x - y = v)
    (hr : Steps tb e below (T.setTop { g with pc := g.pc + 1, stack := .long v :: rest }) target) : Steps tb e below (T.setTop g) target := by subst hv; exact XT.lsub h hx hg hd hs hr
theorem own_lmul {tb : Tables} [Ours tb] {e : Env} {below : List Frame} {T target : State} {m : MethodId} {c : Code} {g : JFrame} (h : At T m c below) (hx : tb.exec = Jvm.exec) (hg : g.method = m) {x : Int64} {y : Int64} {v : Int64} {rest : List Value} (hd : decode c.code g.pc = .ok (.lmul, 1)) (hs : g.stack = .long y :: .long x :: rest) (hv : x * y = v)
    (hr : Steps tb e below (T.setTop { g with pc := g.pc + 1, stack := .long v :: rest }) target) : Steps tb e below (T.setTop g) target := by subst hv; exact XT.lmul h hx hg hd hs hr
theorem own_land {tb : Tables} [Ours tb] {e : Env} {below : List Frame} {T target : State} {m : MethodId} {c : Code} {g : JFrame} (h : At T m c below) (hx : tb.exec = Jvm.exec) (hg : g.method = m) {x : Int64} {y : Int64} {v : Int64} {rest : List Value} (hd : decode c.code g.pc = .ok (.land, 1)) (hs : g.stack = .long y :: .long x :: rest) (hv : x &&& y = v)
    (hr : Steps tb e below (T.setTop { g with pc := g.pc + 1, stack := .long v :: rest }) target) : Steps tb e below (T.setTop g) target := by subst hv; exact XT.land h hx hg hd hs hr
theorem own_lshl {tb : Tables} [Ours tb] {e : Env} {below : List Frame} {T target : State} {m : MethodId} {c : Code} {g : JFrame} (h : At T m c below) (hx : tb.exec = Jvm.exec) (hg : g.method = m) {x : Int64} {y : Int32} {v : Int64} {rest : List Value} (hd : decode c.code g.pc = .ok (.lshl, 1)) (hs : g.stack = .int y :: .long x :: rest) (hv : x <<< (y.toInt64 &&& 63) = v)
    (hr : Steps tb e below (T.setTop { g with pc := g.pc + 1, stack := .long v :: rest }) target) : Steps tb e below (T.setTop g) target := by subst hv; exact XT.lshl h hx hg hd hs hr
theorem own_lshr {tb : Tables} [Ours tb] {e : Env} {below : List Frame} {T target : State} {m : MethodId} {c : Code} {g : JFrame} (h : At T m c below) (hx : tb.exec = Jvm.exec) (hg : g.method = m) {x : Int64} {y : Int32} {v : Int64} {rest : List Value} (hd : decode c.code g.pc = .ok (.lshr, 1)) (hs : g.stack = .int y :: .long x :: rest) (hv : x >>> (y.toInt64 &&& 63) = v)
    (hr : Steps tb e below (T.setTop { g with pc := g.pc + 1, stack := .long v :: rest }) target) : Steps tb e below (T.setTop g) target := by subst hv; exact XT.lshr h hx hg hd hs hr
theorem own_lushr {tb : Tables} [Ours tb] {e : Env} {below : List Frame} {T target : State} {m : MethodId} {c : Code} {g : JFrame} (h : At T m c below) (hx : tb.exec = Jvm.exec) (hg : g.method = m) {x : Int64} {y : Int32} {v : Int64} {rest : List Value} (hd : decode c.code g.pc = .ok (.lushr, 1)) (hs : g.stack = .int y :: .long x :: rest) (hv : XT.ushrL x y = v)
    (hr : Steps tb e below (T.setTop { g with pc := g.pc + 1, stack := .long v :: rest }) target) : Steps tb e below (T.setTop g) target := by subst hv; exact XT.lushr h hx hg hd hs hr
theorem own_lrem {tb : Tables} [Ours tb] {e : Env} {below : List Frame} {T target : State} {m : MethodId} {c : Code} {g : JFrame} (h : At T m c below) (hx : tb.exec = Jvm.exec) (hg : g.method = m) {x : Int64} {y : Int64} {v : Int64} {rest : List Value} (hd : decode c.code g.pc = .ok (.lrem, 1)) (hs : g.stack = .long y :: .long x :: rest) (hy : y ≠ 0) (hv : x - (x / y) * y = v)
    (hr : Steps tb e below (T.setTop { g with pc := g.pc + 1, stack := .long v :: rest }) target) : Steps tb e below (T.setTop g) target := by subst hv; exact XT.lrem h hx hg hd hs hy hr
theorem own_lcmp {tb : Tables} [Ours tb] {e : Env} {below : List Frame} {T target : State} {m : MethodId} {c : Code} {g : JFrame} (h : At T m c below) (hx : tb.exec = Jvm.exec) (hg : g.method = m) {x : Int64} {y : Int64} {v : Int32} {rest : List Value} (hd : decode c.code g.pc = .ok (.lcmp, 1)) (hs : g.stack = .long y :: .long x :: rest) (hv : XT.cmpL x y = v)
    (hr : Steps tb e below (T.setTop { g with pc := g.pc + 1, stack := .int v :: rest }) target) : Steps tb e below (T.setTop g) target := by subst hv; exact XT.lcmp h hx hg hd hs hr
theorem own_lneg {tb : Tables} [Ours tb] {e : Env} {below : List Frame} {T target : State} {m : MethodId} {c : Code} {g : JFrame} (h : At T m c below) (hx : tb.exec = Jvm.exec) (hg : g.method = m) {x : Int64} {v : Int64} {rest : List Value} (hd : decode c.code g.pc = .ok (.lneg, 1)) (hs : g.stack = .long x :: rest) (hv : -x = v)
    (hr : Steps tb e below (T.setTop { g with pc := g.pc + 1, stack := .long v :: rest }) target) : Steps tb e below (T.setTop g) target := by subst hv; exact XT.lneg h hx hg hd hs hr
theorem own_i2l {tb : Tables} [Ours tb] {e : Env} {below : List Frame} {T target : State} {m : MethodId} {c : Code} {g : JFrame} (h : At T m c below) (hx : tb.exec = Jvm.exec) (hg : g.method = m) {x : Int32} {v : Int64} {rest : List Value} (hd : decode c.code g.pc = .ok (.i2l, 1)) (hs : g.stack = .int x :: rest) (hv : x.toInt64 = v)
    (hr : Steps tb e below (T.setTop { g with pc := g.pc + 1, stack := .long v :: rest }) target) : Steps tb e below (T.setTop g) target := by subst hv; exact XT.i2l h hx hg hd hs hr
theorem own_l2i {tb : Tables} [Ours tb] {e : Env} {below : List Frame} {T target : State} {m : MethodId} {c : Code} {g : JFrame} (h : At T m c below) (hx : tb.exec = Jvm.exec) (hg : g.method = m) {x : Int64} {v : Int32} {rest : List Value} (hd : decode c.code g.pc = .ok (.l2i, 1)) (hs : g.stack = .long x :: rest) (hv : x.toInt32 = v)
    (hr : Steps tb e below (T.setTop { g with pc := g.pc + 1, stack := .int v :: rest }) target) : Steps tb e below (T.setTop g) target := by subst hv; exact XT.l2i h hx hg hd hs hr
theorem own_ineg {tb : Tables} [Ours tb] {e : Env} {below : List Frame} {T target : State} {m : MethodId} {c : Code} {g : JFrame} (h : At T m c below) (hx : tb.exec = Jvm.exec) (hg : g.method = m) {x : Int32} {v : Int32} {rest : List Value} (hd : decode c.code g.pc = .ok (.ineg, 1)) (hs : g.stack = .int x :: rest) (hv : -x = v)
    (hr : Steps tb e below (T.setTop { g with pc := g.pc + 1, stack := .int v :: rest }) target) : Steps tb e below (T.setTop g) target := by subst hv; exact XS.ineg h hx hg hd hs hr
section OwnFP2
open Jvm.FP.Core
/-- what a condition asks of two whole numbers -/
def own_rel : ClassFile.Cond → Int → Int → Bool
  | .eq, i, j => decide (i = j)
  | .ne, i, j => decide (i ≠ j)
  | .lt, i, j => decide (i < j)
  | .ge, i, j => decide (j ≤ i)
  | .gt, i, j => decide (j < i)
  | .le, i, j => decide (i ≤ j)
theorem own_br2 (cd : ClassFile.Cond) (x y : Int32) : if_icmp.holds cd x y = own_rel cd x.toInt y.toInt := by
  cases cd
  · show (x == y) = decide (x.toInt = y.toInt)
    by_cases h : x = y
    · subst h; simp
    · rw [beq_eq_false_iff_ne.mpr h, decide_eq_false (fun q => h (Int32.toInt_inj.mp q))]
  · show (x != y) = decide (x.toInt ≠ y.toInt)
    by_cases h : x = y
    · subst h; simp
    · rw [bne_iff_ne.mpr h]; exact (decide_eq_true (p := x.toInt ≠ y.toInt) (fun q => h (Int32.toInt_inj.mp q))).symm
  · exact decide_eq_decide.mpr Int32.lt_iff_toInt_lt
  · exact decide_eq_decide.mpr Int32.le_iff_toInt_le
  · exact decide_eq_decide.mpr Int32.lt_iff_toInt_lt
  · exact decide_eq_decide.mpr Int32.le_iff_toInt_le
theorem own_br0 (cd : ClassFile.Cond) (x : Int32) : ifCond.holds cd x = own_rel cd x.toInt 0 := by
  have h : ifCond.holds cd x = if_icmp.holds cd x 0 := by cases cd <;> rfl
  rw [h, own_br2]; rfl
theorem own_rel_iff (cd : ClassFile.Cond) {i j i' j' : Int} (h1 : i < j ↔ i' < j') (h2 : i = j ↔ i' = j') : own_rel cd i j = own_rel cd i' j' := by
  cases cd
  · exact decide_eq_decide.mpr h2
  · exact decide_eq_decide.mpr (not_congr h2)
  · exact decide_eq_decide.mpr h1
  · exact decide_eq_decide.mpr (by omega)
  · exact decide_eq_decide.mpr (by omega)
  · exact decide_eq_decide.mpr (by omega)
theorem own_sgn3 (cd : ClassFile.Cond) {z : Int32} {i j : Int} (h : (i < j ∧ z = -1) ∨ (i = j ∧ z = 0) ∨ (j < i ∧ z = 1)) : ifCond.holds cd z = own_rel cd i j := by
  rw [own_br0]
  refine own_rel_iff cd ?_ ?_ <;> rcases h with ⟨h1, rfl⟩ | ⟨h1, rfl⟩ | ⟨h1, rfl⟩
  · have e1 : (-1 : Int32).toInt = -1 := rfl
    omega
  · have e1 : (0 : Int32).toInt = 0 := rfl
    omega
  · have e1 : (1 : Int32).toInt = 1 := rfl
    omega
  · have e1 : (-1 : Int32).toInt = -1 := rfl
    omega
  · have e1 : (0 : Int32).toInt = 0 := rfl
    omega
  · have e1 : (1 : Int32).toInt = 1 := rfl
    omega
theorem own_brL (cd : ClassFile.Cond) (x y : Int64) : ifCond.holds cd (XT.cmpL x y) = own_rel cd x.toInt y.toInt := by
  refine own_sgn3 cd ?_
  have h := @Int64.toInt_inj x y
  by_cases h1 : y < x
  · refine Or.inr (Or.inr ⟨Int64.lt_iff_toInt_lt.mp h1, ?_⟩)
    show (if y < x then (1 : Int32) else if x = y then 0 else -1) = 1
    rw [if_pos h1]
  · by_cases h2 : x = y
    · refine Or.inr (Or.inl ⟨h.mpr h2, ?_⟩)
      show (if y < x then (1 : Int32) else if x = y then 0 else -1) = 0
      rw [if_neg h1, if_pos h2]
    · refine Or.inl ⟨?_, ?_⟩
      · rw [Int64.lt_iff_toInt_lt] at h1
        have : x.toInt ≠ y.toInt := fun q => h2 (h.mp q)
        omega
      · show (if y < x then (1 : Int32) else if x = y then 0 else -1) = -1
        rw [if_neg h1, if_neg h2]
theorem own_brD (cd : ClassFile.Cond) {k i j : Int} {a b : UInt64} (ha : OwnDS k i a) (hb : OwnDS k j b) (o : CmpOp) : ifCond.holds cd (cmpValue (FP.dcmp a b) o) = own_rel cd i j := by
  have hc : FP.dcmp a b = some (compare i j) := own_ds_cmp ha hb
  rw [hc]
  refine own_sgn3 cd ?_
  rcases Int.lt_trichotomy i j with q | q | q
  · refine Or.inl ⟨q, ?_⟩
    rw [show compare i j = .lt from Int.compare_eq_lt.mpr q]; rfl
  · refine Or.inr (Or.inl ⟨q, ?_⟩)
    rw [show compare i j = .eq from Int.compare_eq_eq.mpr q]; rfl
  · refine Or.inr (Or.inr ⟨q, ?_⟩)
    rw [show compare i j = .gt from Int.compare_eq_gt.mpr q]; rfl
theorem own_nn {k i : Int} {a : UInt64} (h : OwnDS k i a) : Jvm.Free.Fl.NoNaN64 a := Jvm.Free.Fl.val64_no.mpr (own_ds_ne_nan h)
theorem own_i2d (x : Int32) : OwnDS 0 x.toInt (FP.i2d x) := own_ds_int (i2d_int x)
theorem own_l2d {x : Int64} {i : Int} (h : x.toInt = i) (hb : i.natAbs ≤ 9007199254740992) : OwnDS 0 i (FP.l2d x) := by
  subst h; exact own_ds_int (l2d_int (by omega))
theorem own_i32 (x : Int32) : -2147483648 ≤ x.toInt ∧ x.toInt ≤ 2147483648 := by
  have h1 := x.toInt_lt
  have h2 := x.le_toInt
  omega
theorem own_mul_bd {i j A B : Int} (h1 : -A ≤ i ∧ i ≤ A) (h2 : -B ≤ j ∧ j ≤ B) : -(A * B) ≤ i * j ∧ i * j ≤ A * B := by
  have ha : i.natAbs ≤ A.toNat := by omega
  have hb : j.natAbs ≤ B.toNat := by omega
  have h := Nat.mul_le_mul ha hb
  rw [← Int.natAbs_mul] at h
  have e : ((A.toNat * B.toNat : Nat) : Int) = A * B := by
    rw [Int.natCast_mul, Int.toNat_of_nonneg (by omega), Int.toNat_of_nonneg (by omega)]
  generalize A.toNat * B.toNat = n at h e
  omega
theorem own_d2l {i : Int} {a : UInt64} (h : OwnDS 0 i a) (hb : i.natAbs ≤ 9007199254740992) : (FP.d2l a).toInt = i := by
  have e : (Int64.ofInt i).toInt = i := by rw [Int64.toInt_ofInt]; exact Jvm.Kit.bmod64 (by omega) (by omega)
  have q : FP.d2l a = Int64.ofInt i := d2l_int (a := Int64.ofInt i) (b := a) (by rw [e]; exact own_int_ds h)
  rw [q, e]
theorem own_ds_neg {k i : Int} {a : UInt64} (h : OwnDS k i a) : OwnDS k (-i) (FP.dneg a) := by
  show OwnSc _ _ _
  rw [Jvm.FP.val64_dneg]; exact own_sc_neg h
theorem own_fin {k i : Int} {a : UInt64} (h : OwnDS k i a) : DFin a := by
  obtain ⟨s, c, q, hv, -⟩ := own_sc_fin h
  exact ⟨s, c, q, hv⟩
theorem own_isfin {a : UInt64} (h : DFin a) : ifCond.holds .gt (cmpValue (FP.dcmp (a &&& 0x7fffffffffffffff) 9218868437227405311) .g) = false := by
  have hn : dIsNaN a = false := (notNaN_iff a).mpr (by obtain ⟨s, c, q, hv⟩ := h; rw [hv]; exact Datum.noConfusion)
  have q : FP.dcmp (a &&& 0x7fffffffffffffff) 9218868437227405311 = some .lt ∨ FP.dcmp (a &&& 0x7fffffffffffffff) 9218868437227405311 = some .eq := (le_max hn).mpr h
  rcases q with q | q <;> rw [q] <;> rfl
theorem own_bd_add {i j A B C : Int} (h1 : -A ≤ i ∧ i ≤ A) (h2 : -B ≤ j ∧ j ≤ B) (hC : A + B = C) : -C ≤ i + j ∧ i + j ≤ C := by omega
theorem own_bd_sub {i j A B C : Int} (h1 : -A ≤ i ∧ i ≤ A) (h2 : -B ≤ j ∧ j ≤ B) (hC : A + B = C) : -C ≤ i - j ∧ i - j ≤ C := by omega
theorem own_bd_mul {i j A B C : Int} (h1 : -A ≤ i ∧ i ≤ A) (h2 : -B ≤ j ∧ j ≤ B) (hC : A * B = C) : -C ≤ i * j ∧ i * j ≤ C := hC ▸ own_mul_bd h1 h2
theorem own_bd_neg {i A : Int} (h1 : -A ≤ i ∧ i ≤ A) : -A ≤ -i ∧ -i ≤ A := by omega
theorem own_bd_nat {i C : Int} {n : Nat} (h : -C ≤ i ∧ i ≤ C) (hC : C < ((2 ^ n : Nat) : Int)) : i.natAbs < 2 ^ n := by
  generalize 2 ^ n = N at hC
  omega
theorem own_bd_le {i A C : Int} (h : -A ≤ i ∧ i ≤ A) (hC : A ≤ C) : -C ≤ i ∧ i ≤ C := by omega
theorem own_lf_add {x y v : Int64} {i j A B k : Int} (hv : x + y = v) (Fx : x.toInt = i) (Fy : y.toInt = j) (b1 : -A ≤ i ∧ i ≤ A) (b2 : -B ≤ j ∧ j ≤ B) (hC : A + B < 9223372036854775808) (hk : k = i + j) : v.toInt = k := by
  subst hv hk; rw [Jvm.Kit.i64_add (by rw [Fx, Fy]; omega) (by rw [Fx, Fy]; omega), Fx, Fy]
theorem own_lf_sub {x y v : Int64} {i j A B k : Int} (hv : x - y = v) (Fx : x.toInt = i) (Fy : y.toInt = j) (b1 : -A ≤ i ∧ i ≤ A) (b2 : -B ≤ j ∧ j ≤ B) (hC : A + B < 9223372036854775808) (hk : k = i - j) : v.toInt = k := by
  subst hv hk; rw [Jvm.Kit.i64_sub (by rw [Fx, Fy]; omega) (by rw [Fx, Fy]; omega), Fx, Fy]
theorem own_lf_mul {x y v : Int64} {i j A B k : Int} (hv : x * y = v) (Fx : x.toInt = i) (Fy : y.toInt = j) (b1 : -A ≤ i ∧ i ≤ A) (b2 : -B ≤ j ∧ j ≤ B) (hC : A * B < 9223372036854775808) (hk : k = i * j) : v.toInt = k := by
  have q := own_mul_bd b1 b2
  subst hv hk; rw [Jvm.Kit.i64_mul (by rw [Fx, Fy]; omega) (by rw [Fx, Fy]; omega), Fx, Fy]
theorem own_lf_neg {x v : Int64} {i A k : Int} (hv : -x = v) (Fx : x.toInt = i) (b1 : -A ≤ i ∧ i ≤ A) (hC : A < 9223372036854775808) (hk : k = -i) : v.toInt = k := by
  subst hv hk; rw [Jvm.Kit.i64_neg (by omega), Fx]
theorem own_l2db {x : Int64} {i A : Int} (h : x.toInt = i) (b1 : -A ≤ i ∧ i ≤ A) (hC : A ≤ 9007199254740992) : OwnDS 0 i (FP.l2d x) := own_l2d h (by omega)
theorem own_d2lb {i A : Int} {a : UInt64} (h : OwnDS 0 i a) (b1 : -A ≤ i ∧ i ≤ A) (hC : A ≤ 9007199254740992) : (FP.d2l a).toInt = i := own_d2l h (by omega)
end OwnFP2
/-- an array of doubles by its list -/
def OwnDA (Z : State) (h : Heap) (o : Addr) (vs : List UInt64) : Prop := ∃ c : Cell, Jvm.RoadKit.Arr Z h o c .double ∧ c.slots = (vs.map Value.double).toArray
section OwnDAs
variable {Z : State} {h h' : Heap} {o b : Addr} {vs : List UInt64} {sl : Nat} {w : Value} {ws : List Addr}
theorem OwnDA.lt (A : OwnDA Z h o vs) : o < h.size := by obtain ⟨c, A, -⟩ := A; exact A.lt
theorem OwnDA.ex (A : OwnDA Z h o vs) (E : Ext h h') : OwnDA Z h' o vs := by obtain ⟨c, A, q⟩ := A; exact ⟨c, A.ext E, q⟩
theorem OwnDA.ot (A : OwnDA Z h o vs) (W : Wr h h' b sl w) (q : o ≠ b) : OwnDA Z h' o vs := by obtain ⟨c, A, r⟩ := A; exact ⟨c, A.other W q, r⟩
theorem OwnDA.kp (A : OwnDA Z h o vs) (K : Keep h h' ws) (q : o ∉ ws) : OwnDA Z h' o vs := by obtain ⟨c, A, r⟩ := A; exact ⟨c, ⟨K.2.1 o c A.1 q, A.2⟩, r⟩
theorem OwnDA.nw {k : ClassId} {z : Int32} (A : Jvm.RoadKit.Arr Z h o (newA k .double z) .double) (n : Nat) (hn : z.toNatClampNeg = n) : OwnDA Z h o (List.replicate n 0) := by
  refine ⟨_, A, ?_⟩
  show Array.replicate z.toNatClampNeg (Value.double 0) = _
  rw [hn]; simp
theorem OwnDA.st {x : UInt64} {i : Nat} (A : OwnDA Z h o vs) (W : Wr h h' o i (.double x)) : OwnDA Z h' o (vs.set i x) := by
  obtain ⟨c, A, r⟩ := A
  refine ⟨_, A.same W, ?_⟩
  show c.slots.setIfInBounds i (.double x) = _
  rw [r]; simp [List.map_set]
variable {p : Program} {l : Launch} {e : Env} {R : Room} {s : State} {m : MethodId} {args : Array Value} {below : List Frame} {meth : Method} {c : Code} {T : State} {locs : List Loc} {cells slots : Nat}
theorem own_daS (X : Stand p l e R s m args below meth c T locs cells slots) (hx : p.tables.exec = Jvm.exec) (hZ : Z.Warmed39 s.vm) (eT : T.heap = h) (A : OwnDA Z h o vs) {j : Int32} {x : UInt64} {i : Nat} (hj : ¬ j < 0) (hji : j.toNatClampNeg = i) (hi : i < vs.length) {g : JFrame} (hg : g.method = m) {rest : List Value} (hs : g.stack = .double x :: .int j :: .ref o :: rest) (hd : decode c.code g.pc = .ok (.dastore, 1)) :
    ∃ T' h', Stand p l e R s m args below meth c T' (locs ++ [⟨o, i⟩]) cells slots ∧ T'.heap = h' ∧ Wr h h' o i (.double x) ∧ OwnDA Z h' o (vs.set i x) ∧ ∀ target, Steps p.tables e below (T'.setTop { g with pc := g.pc + 1, stack := rest }) target → Steps p.tables e below (T.setTop g) target := by
  subst hji
  obtain ⟨cl, A', r⟩ := A
  have hz : cl.slots.size = vs.length := by rw [r]; simp
  obtain ⟨T', h', X', e', W, st⟩ := stD X hx hZ eT A' (j := j) (x := x) (fun q => q.elim hj (fun q => by omega)) hg hs hd
  exact ⟨T', h', X', e', W, OwnDA.st ⟨cl, A', r⟩ W, st⟩
theorem own_daL (X : Stand p l e R s m args below meth c T locs cells slots) (hx : p.tables.exec = Jvm.exec) (hZ : Z.Warmed39 s.vm) (eT : T.heap = h) (A : OwnDA Z h o vs) {j : Int32} {x : UInt64} {i : Nat} (hj : ¬ j < 0) (hji : j.toNatClampNeg = i) (hv : vs[i]? = some x) {g : JFrame} (hg : g.method = m) {rest : List Value} (hs : g.stack = .int j :: .ref o :: rest) (hd : decode c.code g.pc = .ok (.daload, 1)) {target : State}
    (hr : Steps p.tables e below (T.setTop { g with pc := g.pc + 1, stack := .double x :: rest }) target) : Steps p.tables e below (T.setTop g) target := by
  subst hji
  obtain ⟨cl, A', r⟩ := A
  have hz : cl.slots.size = vs.length := by rw [r]; simp
  have hi : j.toNatClampNeg < vs.length := (List.getElem?_eq_some_iff.mp hv).1
  exact X.daload hx (j := j) (v := .double x) (by rw [eT]; exact A'.1) (State.isArrayOf_alike hZ.alike A'.2.1) A'.2.2 (fun q => q.elim hj (fun q => by omega)) (by rw [r]; simp [hv]) hg hs hd target hr
theorem own_newD (X : Stand p l e R s m args below meth c T locs cells slots) (hx : p.tables.exec = Jvm.exec) (hZ : Z.Warmed39 s.vm) {a0 : Array Value} (w : (Cond.arrayClass .double).before a0 Z = true) (eT : T.heap = h) {g : JFrame} (hg : g.method = m) (hd : decode c.code g.pc = .ok (.newarray .double, 2)) {z : Int32} {n : Nat} {rest : List Value} (hs : g.stack = .int z :: rest) (hz : ¬ z < 0) (hn : z.toNatClampNeg = n) (hb : n * 8 ≤ 536870912) (hc : cells + 1 ≤ R.cells) (hl : slots + n ≤ R.slots) :
    ∃ T' h', Stand p l e R s m args below meth c T' locs (cells + 1) (slots + n) ∧ T'.heap = h' ∧ Ext h h' ∧ OwnDA Z h' h.size (List.replicate n 0) ∧ ∀ target, Steps p.tables e below (T'.setTop { g with pc := g.pc + 2, stack := .ref h.size :: rest }) target → Steps p.tables e below (T.setTop g) target := by
  obtain ⟨T', h', cA, X', e', E, A, st⟩ := newP X hx hZ (aty := .double) w eT hg hd hs hz (cap := n) (Nat.le_of_eq hn) hb hc hl
  exact ⟨T', h', X', e', E, OwnDA.nw A n hn, st⟩
end OwnDAs
section OwnDAx
variable {Z : State} {h h' : Heap} {o b : Addr} {vs : List UInt64} {sl : Nat} {w : Value} {ws : List Addr}
variable {p : Program} {l : Launch} {e : Env} {R : Room} {s : State} {m : MethodId} {args : Array Value} {below : List Frame} {meth : Method} {c : Code} {T : State} {locs : List Loc} {cells slots : Nat}
theorem own_newDX (X : Stand p l e R s m args below meth c T locs cells slots) (hx : p.tables.exec = Jvm.exec) (hZ : Z.Warmed39 s.vm) {a0 : Array Value} (w : (Cond.arrayClass .double).before a0 Z = true) (eT : T.heap = h) {g : JFrame} (hg : g.method = m) (hd : decode c.code g.pc = .ok (.newarray .double, 2)) {z : Int32} {n : Nat} {rest : List Value} (hs : g.stack = .int z :: rest) (hz : ¬ z < 0) (hn : z.toNatClampNeg = n) (hb : n * 8 ≤ 536870912) (hc : cells + 1 ≤ R.cells) (hl : slots + n ≤ R.slots) :
    ∃ T' h', Stand p l e R s m args below meth c T' locs (cells + 1) (slots + n) ∧ T'.heap = h' ∧ Ext h h' ∧ OwnDA Z h' h.size (List.replicate n 0) ∧ Exa Z h' h.size "[D" ∧ ∀ target, Steps p.tables e below (T'.setTop { g with pc := g.pc + 2, stack := .ref h.size :: rest }) target → Steps p.tables e below (T.setTop g) target := by
  obtain ⟨T', h', cA, X', e', E, A, Q, st⟩ := newPE X hx hZ (aty := .double) w eT hg hd hs hz (cap := n) (Nat.le_of_eq hn) hb hc hl (ad := "[D") (by decide)
  exact ⟨T', h', X', e', E, OwnDA.nw A n hn, Q, st⟩
theorem own_cloneD (X : Stand p l e R s m args below meth c T locs cells slots) (hx : p.tables.exec = Jvm.exec) (hZ : Z.Warmed39 s.vm) {a0 : Array Value} {own : String} {index : Nat} (hown : s.vm.findClass own = some m.cls)
    (w1 : (Cond.methodLink own index ⟨"[D", "clone", "()Ljava/lang/Object;"⟩).before a0 Z = true) (w2 : (Cond.sameMethod "[D" "java/lang/Object" "clone" "()Ljava/lang/Object;").before a0 Z = true) (w3 : (Cond.native ⟨"java/lang/Object", "clone", "()Ljava/lang/Object;"⟩).before a0 Z = true)
    (w4 : (Cond.instanceMethod ⟨"java/lang/Object", "clone", "()Ljava/lang/Object;"⟩).before a0 Z = true) (w5 : (Cond.selects "[D" ⟨"[D", "clone", "()Ljava/lang/Object;"⟩ ⟨"java/lang/Object", "clone", "()Ljava/lang/Object;"⟩).before a0 Z = true) (w6 : (Cond.castable "[D" "java/lang/Cloneable").before a0 Z = true)
    (eT : T.heap = h) (A : OwnDA Z h o vs) (E : Exa Z h o "[D") {g : JFrame} (hg : g.method = m) (hsize : g.locals.size = c.maxLocals) {rest : List Value} (hs : g.stack = .ref o :: rest) (hd : decode c.code g.pc = .ok (.invokevirtual index, 3))
    (hf : 1 ≤ R.frames) {W cap : Nat} (hW : 2 * g.monitorRoom + (rest.map fun v => v.category).sum ≤ W) (hl : W + 14 ≤ R.locals) (hcap : vs.length ≤ cap) (hc : cells + 1 ≤ R.cells) (hsl : slots + cap ≤ R.slots) :
    ∃ T' h', Stand p l e R s m args below meth c T' locs (cells + 1) (slots + cap) ∧ T'.heap = h' ∧ Ext h h' ∧ OwnDA Z h' h.size vs ∧ Exa Z h' h.size "[D" ∧
      ∀ target, Steps p.tables e below (T'.setTop { g with pc := g.pc + 3, stack := .ref h.size :: rest }) target → Steps p.tables e below (T.setTop g) target := by
  obtain ⟨cl, A', r⟩ := A
  have hz : cl.slots.size = vs.length := by rw [r]; simp
  have FC : FitC Z cl := fitC_of A' fun i hi v hv => by
    rw [r] at hv
    simp only [List.getElem?_toArray, List.getElem?_map, Option.map_eq_some_iff] at hv
    obtain ⟨x, -, rfl⟩ := hv
    rfl
  obtain ⟨T', h', X', e', E', B, Q, st⟩ := cloneA X hx hZ hown w1 w2 w3 w4 w5 w6 eT A' E FC hg hsize hs hd hf (cap := cap) hW hl (by omega) hc hsl
  exact ⟨T', h', X', e', E', ⟨_, B, r⟩, Q, st⟩
theorem own_lenD (X : Stand p l e R s m args below meth c T locs cells slots) (hx : p.tables.exec = Jvm.exec) (hZ : Z.Warmed39 s.vm) (eT : T.heap = h) (A : OwnDA Z h o vs) {z : Int32} (hn : vs.length.toInt32 = z) {g : JFrame} (hg : g.method = m) {rest : List Value} (hs : g.stack = .ref o :: rest) (hd : decode c.code g.pc = .ok (.arraylength, 1)) {target : State}
    (hr : Steps p.tables e below (T.setTop { g with pc := g.pc + 1, stack := .int z :: rest }) target) : Steps p.tables e below (T.setTop g) target := by
  obtain ⟨cl, A', r⟩ := A
  have hz : cl.slots.size = vs.length := by rw [r]; simp
  refine X.arraylength hx (by rw [eT]; exact A'.1) (State.isArrayOf_alike hZ.alike A'.2.1) hg hs hd target ?_
  rw [hz, hn]; exact hr
end OwnDAx
theorem own_k1 {r : Nat} {P : List UInt64} (hr : r + 1 ≤ 101) (lP : P.length = 102) : r < P.length := by omega
theorem own_k2 {v : Int32} {r : Nat} (hv : v.toInt = ((r + 1 : Nat) : Int) - 1) : v.toInt = (r : Int) := by omega
theorem own_k3 {v : Int32} {r : Nat} (hv : v.toInt = ((r + 1 : Nat) : Int) - 1) : ¬ v.toInt < 0 := by omega
theorem own_k4 {v w : Int32} {r : Nat} (hv : v.toInt = ((r + 1 : Nat) : Int) - 1) (hr : r + 1 ≤ 101) (hw : v + (1 : Int32) = w) : w.toInt = ((r + 1 : Nat) : Int) := by
  have c1 : (1 : Int32).toInt = 1 := rfl
  rw [← hw, Jvm.Kit.i32_add (by omega) (by omega)]; omega
theorem own_k5 {v : Int32} {r : Nat} (hv : v.toInt = ((r + 1 : Nat) : Int) - 1) (hr : r + 1 ≤ 101) : (v + Int32.ofInt (-1)).toInt = (r : Int) - 1 := by
  have c1 : (Int32.ofInt (-1)).toInt = -1 := rfl
  rw [Jvm.Kit.i32_add (by omega) (by omega)]; omega
theorem own_sw (a b : UInt64) : ifCond.holds .gt (cmpValue (FP.dcmp a b) .g) = ifCond.holds .lt (cmpValue (FP.dcmp b a) .l) := by
  rw [show FP.dcmp b a = (FP.dcmp a b).map Ordering.swap from Jvm.FP.Core.dcmp_swap a b]
  rcases FP.dcmp a b with _ | (_ | _ | _) <;> rfl
theorem own_nat32 {v : Int32} {i : Nat} (h : v.toInt = i) : ¬ v < 0 ∧ v.toNatClampNeg = i := by
  constructor
  · rw [Int32.lt_iff_toInt_lt, h]; show ¬ (i : Int) < 0; omega
  · show v.toInt.toNat = i; rw [h]; rfl
theorem own_oft {i : Int32} {n : Nat} (h : n.toInt32 = i) : n.toInt32 = i := h
theorem own_nanL (rc : UInt64) : cmpValue (FP.dcmp 9221120237041090560 rc) .l = -1 := by
  rw [show FP.dcmp 9221120237041090560 rc = none from (Jvm.FP.Core.dcmp_none _ _).mpr (Or.inl (by decide +kernel))]; rfl
def own_z (u : UInt64) : UInt64 := if ifCond.holds .eq (cmpValue (FP.dcmp u u) .l) = true then u else 0
theorem own_zN : own_z 9221120237041090560 = 0 := by decide +kernel
theorem own_z0 : own_z 0 = 0 := by decide +kernel
theorem own_z1 : own_z 4607182418800017408 = 4607182418800017408 := by decide +kernel
theorem own_n0 : Jvm.Free.Fl.NoNaN64 0 := by unfold Jvm.Free.Fl.NoNaN64; decide
theorem own_n1 : Jvm.Free.Fl.NoNaN64 4607182418800017408 := by unfold Jvm.Free.Fl.NoNaN64; decide
theorem pd_maxD : parseMethodDescriptor "(DD)D" = some ⟨[.double, .double], some .double⟩ := by decide +kernel
theorem own_setL {P : List UInt64} {i j : Nat} {x : UInt64} (hj : j ≠ i) : (P.set i x)[j]? = P[j]? := List.getElem?_set_ne (Ne.symm hj)
theorem own_setS {P : List UInt64} {i : Nat} {x : UInt64} (hi : i < P.length) : (P.set i x)[i]? = some x := by rw [List.getElem?_set_self hi]
theorem d3_0 : decode jdk_22_method_1_code 0 = .ok (.aload_n 0, 1) := by decide +kernel
theorem d3_1 : decode jdk_22_method_1_code 1 = .ok (.invokespecial 1, 3) := by decide +kernel
theorem d3_4 : decode jdk_22_method_1_code 4 = .ok (.return_, 1) := by decide +kernel
theorem pn_rmAC : plainName "java/util/AbstractCollection" = true := by first | (simp [plainName, overriddenIn]; done) | decide +kernel
theorem pd_rmAC : parseMethodDescriptor "()V" = some ⟨[], none⟩ := by decide +kernel
theorem ef_rmAC (m : MethodId) (o : Addr) : entryFrame m #[(.ref o)] 1 = (mkF m 0 #[sR o] []) := by first | (simp [entryFrame, mkF, argsToLocals, Value.category, maxLocals]; done) | rfl
def Q_rmAC (Z : State) (o : Addr) (h0 : Heap) (n0 : Nat) (v : Option Value) (h : Heap) (L : List Loc) : Prop := v = none ∧ Fr n0 L ∧ h = h0
set_option maxRecDepth 65536 in
set_option maxHeartbeats 40000000 in
theorem rmAC (l : Launch) (Z : State) (a0 : Array Value) (hw : ∀ d ∈ tables_1, d.before a0 Z = true) (ws : List Jvm.Cond) (o : Addr) (h0 : Heap) (n0 : Nat) (Z0 : n0 ≤ h0.size)  :
    MetFree l (⟨"java/util/AbstractCollection", "<init>", "()V"⟩ : MethodName) (head1 (Jvm.Cond.code (⟨"java/util/AbstractCollection", "<init>", "()V"⟩ : MethodName) jdk_22_method_1_code 1 none :: ws) ({ frames := 1, cells := 0, slots := 0, locals := 12 } : Room)) (fun a U => a = #[(.ref o)] ∧ Z.Warmed39 U.vm ∧ U.heap = h0) (fun _ _ _ _ _ => True) (fun _ U oO U' => ∃ v L, oO = .returned v ∧ Q_rmAC Z o h0 n0 v U'.heap L ∧ FrameEnd U oO U' L ({ frames := 1, cells := 0, slots := 0, locals := 12 } : Room).cells ({ frames := 1, cells := 0, slots := 0, locals := 12 } : Room).slots) := by
  refine MetFree.of_bodySF (plainFor_of_name pn_rmAC) hisR ?_
  intro p e s m args below meth c s₁ Bd hml0 hP hK
  obtain ⟨rfl, hZ, hh⟩ := hP
  have hx := Bd.exec
  have hby := Bd.bytes
  have hml : c.maxLocals = 1 := hml0
  have hown : s.vm.findClass "java/util/AbstractCollection" = some m.cls := findClass_of_methodNamed Bd.named
  have hnm := (name_of_methodNamed Bd.named Bd.method).1
  have hk := Bd.notSynchronized
  have hrt := Bd.returns
  have X0 : Stand p l e ({ frames := 1, cells := 0, slots := 0, locals := 12 } : Room) s m #[(.ref o)] below meth c s₁ [] 0 0 := Stand.of_body Bd
  have e0 : s₁.heap = h0 := by rw [← hh, Bd.state]; rfl
  have N0 := Fr.nil n0
  show OwnGo p.tables e below (OwnEnd s (Q_rmAC Z o h0 n0) ({ frames := 1, cells := 0, slots := 0, locals := 12 } : Room).cells ({ frames := 1, cells := 0, slots := 0, locals := 12 } : Room).slots) _
  refine OwnGo.pre (fun t k => castTop (ef_rmAC m o) k) ?_
  show OwnGo _ _ _ _ (s₁.setTop (mkF m 0 #[sR o] []))
  refine OwnGo.pre (fun t k => XS.aloadN X0.here hx rfl (hb hby d3_0) rfl rfl k) ?_
  show OwnGo _ _ _ _ (s₁.setTop (mkF m 1 #[sR o] [(.ref o)]))
  obtain ⟨T1, X1, e1, st1⟩ := initO X0 hx hZ hown (hw _ (List.mem_of_getElem? (i := 21) rfl)) (hw _ (List.mem_of_getElem? (i := 22) rfl)) (hw _ (List.mem_of_getElem? (i := 23) rfl)) e0 (g := (mkF m 1 #[sR o] [(.ref o)])) rfl (by rw [hml]; rfl) rfl (hb hby d3_1) (by decide) (W := 0) (by show 2 * 0 + _ ≤ _; exact Nat.le_of_eq rfl) (by decide)
  refine OwnGo.pre (fun t k => st1 t k) ?_
  show OwnGo _ _ _ _ (T1.setTop (mkF m 4 #[sR o] []))
  exact own_ret0 X1 hx hk hrt (hb hby d3_4) ⟨rfl, N0, e1⟩ (by decide) (by decide)
theorem d2_0 : decode jdk_39_method_1_code 0 = .ok (.aload_n 0, 1) := by decide +kernel
theorem d2_1 : decode jdk_39_method_1_code 1 = .ok (.invokespecial 1, 3) := by decide +kernel
theorem d2_4 : decode jdk_39_method_1_code 4 = .ok (.aload_n 0, 1) := by decide +kernel
theorem d2_5 : decode jdk_39_method_1_code 5 = .ok (.iconst 0, 1) := by decide +kernel
theorem d2_6 : decode jdk_39_method_1_code 6 = .ok (.putfield 7, 3) := by decide +kernel
theorem d2_9 : decode jdk_39_method_1_code 9 = .ok (.return_, 1) := by decide +kernel
theorem pn_rmABL : plainName "java/util/AbstractList" = true := by first | (simp [plainName, overriddenIn]; done) | decide +kernel
theorem pd_rmABL : parseMethodDescriptor "()V" = some ⟨[], none⟩ := by decide +kernel
theorem ef_rmABL (m : MethodId) (o : Addr) : entryFrame m #[(.ref o)] 1 = (mkF m 0 #[sR o] []) := by first | (simp [entryFrame, mkF, argsToLocals, Value.category, maxLocals]; done) | rfl
def Q_rmABL (Z : State) (o : Addr) (h0 : Heap) (n0 : Nat) (v : Option Value) (h : Heap) (L : List Loc) : Prop := v = none ∧ Fr n0 L ∧ Keep h0 h [o] ∧ Exa Z h o "java/util/ArrayList" ∧ Fld Z h o "java/util/AbstractList" "modCount" "I" (.int 0) ∧ Fld Z h o "java/util/ArrayList" "elementData" "[Ljava/lang/Object;" .null ∧ Fld Z h o "java/util/ArrayList" "size" "I" (.int 0)
set_option maxRecDepth 65536 in
set_option maxHeartbeats 40000000 in
theorem rmABL (l : Launch) (Z : State) (a0 : Array Value) (hw : ∀ d ∈ tables_1, d.before a0 Z = true) (ws : List Jvm.Cond) (o : Addr) (h0 : Heap) (n0 : Nat) (Z0 : n0 ≤ h0.size) (E : Exa Z h0 o "java/util/ArrayList") (F0 : Fld Z h0 o "java/util/AbstractList" "modCount" "I" (.int 0)) (F1 : Fld Z h0 o "java/util/ArrayList" "elementData" "[Ljava/lang/Object;" .null) (F2 : Fld Z h0 o "java/util/ArrayList" "size" "I" (.int 0)) (g : n0 ≤ o) :
    MetFree l (⟨"java/util/AbstractList", "<init>", "()V"⟩ : MethodName) (head1 (Jvm.Cond.code (⟨"java/util/AbstractList", "<init>", "()V"⟩ : MethodName) jdk_39_method_1_code 1 none :: ws) ({ frames := 2, cells := 0, slots := 0, locals := 24 } : Room)) (fun a U => a = #[(.ref o)] ∧ Z.Warmed39 U.vm ∧ U.heap = h0) (fun _ _ _ _ _ => True) (fun _ U oO U' => ∃ v L, oO = .returned v ∧ Q_rmABL Z o h0 n0 v U'.heap L ∧ FrameEnd U oO U' L ({ frames := 2, cells := 0, slots := 0, locals := 24 } : Room).cells ({ frames := 2, cells := 0, slots := 0, locals := 24 } : Room).slots) := by
  refine MetFree.of_bodySF (plainFor_of_name pn_rmABL) hisR ?_
  intro p e s m args below meth c s₁ Bd hml0 hP hK
  obtain ⟨rfl, hZ, hh⟩ := hP
  have hx := Bd.exec
  have hby := Bd.bytes
  have hml : c.maxLocals = 1 := hml0
  have hown : s.vm.findClass "java/util/AbstractList" = some m.cls := findClass_of_methodNamed Bd.named
  have hnm := (name_of_methodNamed Bd.named Bd.method).1
  have hk := Bd.notSynchronized
  have hrt := Bd.returns
  have X0 : Stand p l e ({ frames := 2, cells := 0, slots := 0, locals := 24 } : Room) s m #[(.ref o)] below meth c s₁ [] 0 0 := Stand.of_body Bd
  have e0 : s₁.heap = h0 := by rw [← hh, Bd.state]; rfl
  have N0 := Fr.nil n0
  show OwnGo p.tables e below (OwnEnd s (Q_rmABL Z o h0 n0) ({ frames := 2, cells := 0, slots := 0, locals := 24 } : Room).cells ({ frames := 2, cells := 0, slots := 0, locals := 24 } : Room).slots) _
  refine OwnGo.pre (fun t k => castTop (ef_rmABL m o) k) ?_
  show OwnGo _ _ _ _ (s₁.setTop (mkF m 0 #[sR o] []))
  refine OwnGo.pre (fun t k => XS.aloadN X0.here hx rfl (hb hby d2_0) rfl rfl k) ?_
  show OwnGo _ _ _ _ (s₁.setTop (mkF m 1 #[sR o] [(.ref o)]))
  obtain ⟨_, _, ⟨T2, L2, k2, n2⟩, -, X2, ⟨Lc2, hQ2, l2, y2, z2⟩, st2⟩ := X0.specialBack hx (y := (⟨"java/util/AbstractCollection", "<init>", "()V"⟩ : MethodName)) rfl hown (mvT hZ (hw _ (List.mem_of_getElem? (i := 15) rfl))) (mvT hZ (hw _ (List.mem_of_getElem? (i := 16) rfl))) (mvT hZ (hw _ (List.mem_of_getElem? (i := 20) rfl))) (by decide) (backOf (W := 0) (rmAC l Z a0 hw [] o h0 n0 Z0 ) hZ (hw _ (List.mem_of_getElem? (i := 20) rfl)) (hw _ (List.mem_of_getElem? (i := 19) rfl)) (by decide) (by decide)) (g := (mkF m 1 #[sR o] [(.ref o)])) rfl (by rw [hml]; rfl) (Steps.refl _) (a := o) (argsL := []) (rest := []) (lenOf pd_rmAC rfl) rfl (by show 2 * 0 + _ ≤ _; exact Nat.le_of_eq rfl) (hb hby d2_1) (fun _ _ => ⟨rfl, e0, (by decide : 0 + 0 ≤ _), (by decide : 0 + 0 ≤ _)⟩)
  dsimp only [Pt.U, Pt.locs, Pt.cells, Pt.slots] at X2 l2 y2 z2 st2 hQ2
  subst l2 y2 z2
  obtain ⟨rfl, N2, e2⟩ := hQ2
  refine OwnGo.pre (fun t k => st2.trans k) ?_
  show OwnGo _ _ _ _ (T2.setTop (mkF m 4 #[sR o] []))
  have M2 := Fr.app N0 N2
  refine OwnGo.pre (fun t k => XS.aloadN X2.here hx rfl (hb hby d2_4) rfl rfl (XS.iconst X2.here hx rfl (hb hby d2_5) k)) ?_
  show OwnGo _ _ _ _ (T2.setTop (mkF m 6 #[sR o] [(.int (0 : Int32)), (.ref o)]))
  obtain ⟨T3, h3, X3, e3, W3, st3⟩ := putF X2 hx hZ hown (host := "") (Or.inl (hw _ (List.mem_of_getElem? (i := 24) rfl))) Via.refl e2 F0 E (Or.inl (hw _ (List.mem_of_getElem? (i := 25) rfl))) (hw _ (List.mem_of_getElem? (i := 4) rfl)) (ty := .int) (by decide) rfl rfl (g := (mkF m 6 #[sR o] [(.int (0 : Int32)), (.ref o)])) rfl rfl (hb hby d2_6)
  have N3 := Fr.snoc X3 M2 g
  refine OwnGo.pre (fun t k => st3 t k) ?_
  show OwnGo _ _ _ _ (T3.setTop (mkF m 9 #[sR o] []))
  have F0a := F0.same W3
  have F1a := F1.other W3 (Or.inr (slot_ne (Or.inl (hw _ (List.mem_of_getElem? (i := 28) rfl))) (Or.inl (hw _ (List.mem_of_getElem? (i := 25) rfl))) (by decide) (t := (.array (.object "java/lang/Object"))) (by decide) (t' := .int) (by decide)))
  have F2a := F2.other W3 (Or.inr (slot_ne (Or.inl (hw _ (List.mem_of_getElem? (i := 84) rfl))) (Or.inl (hw _ (List.mem_of_getElem? (i := 25) rfl))) (by decide) (t := .int) (by decide) (t' := .int) (by decide)))
  have Ea := E.wr W3
  have Ka := (Keep.refl h0 [o]).wr W3 (Or.inl (List.mem_of_getElem? (i := 0) rfl))
  rw [← e3] at F0a F1a F2a Ea Ka
  exact own_ret0 X3 hx hk hrt (hb hby d2_9) ⟨rfl, N3, Ka, Ea, F0a, F1a, F2a⟩ (by decide) (by decide)
theorem d1_0 : decode jdk_38_method_2_code 0 = .ok (.aload_n 0, 1) := by decide +kernel
theorem d1_1 : decode jdk_38_method_2_code 1 = .ok (.invokespecial 1, 3) := by decide +kernel
theorem d1_4 : decode jdk_38_method_2_code 4 = .ok (.aload_n 0, 1) := by decide +kernel
theorem d1_5 : decode jdk_38_method_2_code 5 = .ok (.getstatic 39, 3) := by decide +kernel
theorem d1_8 : decode jdk_38_method_2_code 8 = .ok (.putfield 9, 3) := by decide +kernel
theorem d1_11 : decode jdk_38_method_2_code 11 = .ok (.return_, 1) := by decide +kernel
theorem pn_rmAL : plainName "java/util/ArrayList" = true := by first | (simp [plainName, overriddenIn]; done) | decide +kernel
theorem pd_rmAL : parseMethodDescriptor "()V" = some ⟨[], none⟩ := by decide +kernel
theorem ef_rmAL (m : MethodId) (o : Addr) (ed : Value) : entryFrame m #[(.ref o)] 1 = (mkF m 0 #[sR o] []) := by first | (simp [entryFrame, mkF, argsToLocals, Value.category, maxLocals]; done) | rfl
def Q_rmAL (Z : State) (o : Addr) (ed : Value) (h0 : Heap) (n0 : Nat) (v : Option Value) (h : Heap) (L : List Loc) : Prop := v = none ∧ Fr n0 L ∧ Keep h0 h [o] ∧ Exa Z h o "java/util/ArrayList" ∧ Fld Z h o "java/util/AbstractList" "modCount" "I" (.int 0) ∧ Fld Z h o "java/util/ArrayList" "size" "I" (.int 0)
set_option maxRecDepth 65536 in
set_option maxHeartbeats 40000000 in
theorem rmAL (l : Launch) (Z : State) (a0 : Array Value) (hw : ∀ d ∈ tables_1, d.before a0 Z = true) (ws : List Jvm.Cond) (o : Addr) (ed : Value) (h0 : Heap) (n0 : Nat) (Z0 : n0 ≤ h0.size) (E : Exa Z h0 o "java/util/ArrayList") (F0 : Fld Z h0 o "java/util/AbstractList" "modCount" "I" (.int 0)) (F1 : Fld Z h0 o "java/util/ArrayList" "elementData" "[Ljava/lang/Object;" .null) (F2 : Fld Z h0 o "java/util/ArrayList" "size" "I" (.int 0)) (g : n0 ≤ o) (S : Sta Z Z.heap "java/util/ArrayList" "DEFAULTCAPACITY_EMPTY_ELEMENTDATA" "[Ljava/lang/Object;" ed) (O : Old Z n0 h0) (red : ed.isRef = true) :
    MetFree l (⟨"java/util/ArrayList", "<init>", "()V"⟩ : MethodName) (head1 (Jvm.Cond.code (⟨"java/util/ArrayList", "<init>", "()V"⟩ : MethodName) jdk_38_method_2_code 1 none :: ws) ({ frames := 3, cells := 0, slots := 0, locals := 36 } : Room)) (fun a U => a = #[(.ref o)] ∧ Z.Warmed39 U.vm ∧ U.heap = h0) (fun _ _ _ _ _ => True) (fun _ U oO U' => ∃ v L, oO = .returned v ∧ Q_rmAL Z o ed h0 n0 v U'.heap L ∧ FrameEnd U oO U' L ({ frames := 3, cells := 0, slots := 0, locals := 36 } : Room).cells ({ frames := 3, cells := 0, slots := 0, locals := 36 } : Room).slots) := by
  refine MetFree.of_bodySF (plainFor_of_name pn_rmAL) hisR ?_
  intro p e s m args below meth c s₁ Bd hml0 hP hK
  obtain ⟨rfl, hZ, hh⟩ := hP
  have hx := Bd.exec
  have hby := Bd.bytes
  have hml : c.maxLocals = 1 := hml0
  have hown : s.vm.findClass "java/util/ArrayList" = some m.cls := findClass_of_methodNamed Bd.named
  have hnm := (name_of_methodNamed Bd.named Bd.method).1
  have hk := Bd.notSynchronized
  have hrt := Bd.returns
  have X0 : Stand p l e ({ frames := 3, cells := 0, slots := 0, locals := 36 } : Room) s m #[(.ref o)] below meth c s₁ [] 0 0 := Stand.of_body Bd
  have e0 : s₁.heap = h0 := by rw [← hh, Bd.state]; rfl
  have N0 := Fr.nil n0
  show OwnGo p.tables e below (OwnEnd s (Q_rmAL Z o ed h0 n0) ({ frames := 3, cells := 0, slots := 0, locals := 36 } : Room).cells ({ frames := 3, cells := 0, slots := 0, locals := 36 } : Room).slots) _
  refine OwnGo.pre (fun t k => castTop (ef_rmAL m o ed) k) ?_
  show OwnGo _ _ _ _ (s₁.setTop (mkF m 0 #[sR o] []))
  refine OwnGo.pre (fun t k => XS.aloadN X0.here hx rfl (hb hby d1_0) rfl rfl k) ?_
  show OwnGo _ _ _ _ (s₁.setTop (mkF m 1 #[sR o] [(.ref o)]))
  obtain ⟨_, _, ⟨T4, L4, k4, n4⟩, -, X4, ⟨Lc4, hQ4, l4, y4, z4⟩, st4⟩ := X0.specialBack hx (y := (⟨"java/util/AbstractList", "<init>", "()V"⟩ : MethodName)) rfl hown (mvT hZ (hw _ (List.mem_of_getElem? (i := 9) rfl))) (mvT hZ (hw _ (List.mem_of_getElem? (i := 10) rfl))) (mvT hZ (hw _ (List.mem_of_getElem? (i := 14) rfl))) (by decide) (backOf (W := 0) (rmABL l Z a0 hw [] o h0 n0 Z0 E F0 F1 F2 g) hZ (hw _ (List.mem_of_getElem? (i := 14) rfl)) (hw _ (List.mem_of_getElem? (i := 13) rfl)) (by decide) (by decide)) (g := (mkF m 1 #[sR o] [(.ref o)])) rfl (by rw [hml]; rfl) (Steps.refl _) (a := o) (argsL := []) (rest := []) (lenOf pd_rmABL rfl) rfl (by show 2 * 0 + _ ≤ _; exact Nat.le_of_eq rfl) (hb hby d1_1) (fun _ _ => ⟨rfl, e0, (by decide : 0 + 0 ≤ _), (by decide : 0 + 0 ≤ _)⟩)
  dsimp only [Pt.U, Pt.locs, Pt.cells, Pt.slots] at X4 l4 y4 z4 st4 hQ4
  subst l4 y4 z4
  obtain ⟨rfl, N4, K4, E4, Fa4, Fb4, Fc4⟩ := hQ4
  refine OwnGo.pre (fun t k => st4.trans k) ?_
  show OwnGo _ _ _ _ (T4.setTop (mkF m 4 #[sR o] []))
  have M4 := Fr.app N0 N4
  have O1 := O.keep K4 (allS g all0)
  refine OwnGo.pre (fun t k => XS.aloadN X4.here hx rfl (hb hby d1_4) rfl rfl k) ?_
  show OwnGo _ _ _ _ (T4.setTop (mkF m 5 #[sR o] [(.ref o)]))
  obtain ⟨T5, X5, e5, st5⟩ := getS X4 hx hZ (host := "") hown (hw _ (List.mem_of_getElem? (i := 26) rfl)) Via.refl rfl (S.ext O1.2) (g := (mkF m 5 #[sR o] [(.ref o)])) rfl (hb hby d1_5)
  refine OwnGo.pre (fun t k => st5 t k) ?_
  show OwnGo _ _ _ _ (T5.setTop (mkF m 8 #[sR o] [ed, (.ref o)]))
  obtain ⟨T6, h6, X6, e6, W6, st6⟩ := putF X5 hx hZ hown (host := "") (Or.inl (hw _ (List.mem_of_getElem? (i := 27) rfl))) Via.refl e5 Fb4 E4 (Or.inl (hw _ (List.mem_of_getElem? (i := 28) rfl))) (hw _ (List.mem_of_getElem? (i := 4) rfl)) (ty := (.array (.object "java/lang/Object"))) (by decide) (by rcases ref_cases red with rfl | ⟨q, rfl⟩ <;> rfl) (by rcases ref_cases red with rfl | ⟨q, rfl⟩ <;> rfl) (g := (mkF m 8 #[sR o] [ed, (.ref o)])) rfl rfl (hb hby d1_8)
  have N6 := Fr.snoc X6 M4 g
  refine OwnGo.pre (fun t k => st6 t k) ?_
  show OwnGo _ _ _ _ (T6.setTop (mkF m 11 #[sR o] []))
  have F0a := Fa4.other W6 (Or.inr (slot_ne (Or.inl (hw _ (List.mem_of_getElem? (i := 25) rfl))) (Or.inl (hw _ (List.mem_of_getElem? (i := 28) rfl))) (by decide) (t := .int) (by decide) (t' := (.array (.object "java/lang/Object"))) (by decide)))
  have F2a := Fc4.other W6 (Or.inr (slot_ne (Or.inl (hw _ (List.mem_of_getElem? (i := 84) rfl))) (Or.inl (hw _ (List.mem_of_getElem? (i := 28) rfl))) (by decide) (t := .int) (by decide) (t' := (.array (.object "java/lang/Object"))) (by decide)))
  have Ea := E4.wr W6
  have Ka := K4.wr W6 (Or.inl (List.mem_of_getElem? (i := 0) rfl))
  rw [← e6] at F0a F2a Ea Ka
  exact own_ret0 X6 hx hk hrt (hb hby d1_11) ⟨rfl, N6, Ka, Ea, F0a, F2a⟩ (by decide) (by decide)
theorem d8_0 : decode jdk_49_method_1_code 0 = .ok (.aload_n 0, 1) := by decide +kernel
theorem d8_1 : decode jdk_49_method_1_code 1 = .ok (.aload_n 1, 1) := by decide +kernel
theorem d8_2 : decode jdk_49_method_1_code 2 = .ok (.putfield 1, 3) := by decide +kernel
theorem d8_5 : decode jdk_49_method_1_code 5 = .ok (.aload_n 0, 1) := by decide +kernel
theorem d8_6 : decode jdk_49_method_1_code 6 = .ok (.invokespecial 7, 3) := by decide +kernel
theorem d8_9 : decode jdk_49_method_1_code 9 = .ok (.aload_n 0, 1) := by decide +kernel
theorem d8_10 : decode jdk_49_method_1_code 10 = .ok (.iconst (-1), 1) := by decide +kernel
theorem d8_11 : decode jdk_49_method_1_code 11 = .ok (.putfield 13, 3) := by decide +kernel
theorem d8_14 : decode jdk_49_method_1_code 14 = .ok (.aload_n 0, 1) := by decide +kernel
theorem d8_15 : decode jdk_49_method_1_code 15 = .ok (.aload_n 0, 1) := by decide +kernel
theorem d8_16 : decode jdk_49_method_1_code 16 = .ok (.getfield 1, 3) := by decide +kernel
theorem d8_19 : decode jdk_49_method_1_code 19 = .ok (.getfield 17, 3) := by decide +kernel
theorem d8_22 : decode jdk_49_method_1_code 22 = .ok (.putfield 22, 3) := by decide +kernel
theorem d8_25 : decode jdk_49_method_1_code 25 = .ok (.return_, 1) := by decide +kernel
theorem pn_rmI0 : plainName "java/util/ArrayList$Itr" = true := by first | (simp [plainName, overriddenIn]; done) | decide +kernel
theorem pd_rmI0 : parseMethodDescriptor "(Ljava/util/ArrayList;)V" = some ⟨[(.object "java/util/ArrayList")], none⟩ := by decide +kernel
theorem ef_rmI0 (m : MethodId) (o b : Addr) : entryFrame m #[(.ref o), (.ref b)] 2 = (mkF m 0 #[sR o, sR b] []) := by first | (simp [entryFrame, mkF, argsToLocals, Value.category, maxLocals]; done) | rfl
def Q_rmI0 (Z : State) (o b : Addr) (h0 : Heap) (n0 : Nat) (v : Option Value) (h : Heap) (L : List Loc) : Prop := v = none ∧ Fr n0 L ∧ Keep h0 h [o] ∧ Exa Z h o "java/util/ArrayList$Itr" ∧ Fld Z h o "java/util/ArrayList$Itr" "cursor" "I" (.int 0) ∧ Fld Z h o "java/util/ArrayList$Itr" "this$0" "Ljava/util/ArrayList;" (.ref b)
set_option maxRecDepth 65536 in
set_option maxHeartbeats 40000000 in
theorem rmI0 (l : Launch) (Z : State) (a0 : Array Value) (hw : ∀ d ∈ tables_1, d.before a0 Z = true) (ws : List Jvm.Cond) (o b : Addr) (h0 : Heap) (n0 : Nat) (Z0 : n0 ≤ h0.size) (E : Exa Z h0 o "java/util/ArrayList$Itr") (Ft : Fld Z h0 o "java/util/ArrayList$Itr" "this$0" "Ljava/util/ArrayList;" .null) (Fl : Fld Z h0 o "java/util/ArrayList$Itr" "lastRet" "I" (.int 0)) (Fx : Fld Z h0 o "java/util/ArrayList$Itr" "expectedModCount" "I" (.int 0)) (Fc : Fld Z h0 o "java/util/ArrayList$Itr" "cursor" "I" (.int 0)) (g : n0 ≤ o) (Fm : Fld Z h0 b "java/util/AbstractList" "modCount" "I" (.int 0)) (nbo : b ≠ o) :
    MetFree l (⟨"java/util/ArrayList$Itr", "<init>", "(Ljava/util/ArrayList;)V"⟩ : MethodName) (head1 (Jvm.Cond.code (⟨"java/util/ArrayList$Itr", "<init>", "(Ljava/util/ArrayList;)V"⟩ : MethodName) jdk_49_method_1_code 2 none :: ws) ({ frames := 1, cells := 0, slots := 0, locals := 12 } : Room)) (fun a U => a = #[(.ref o), (.ref b)] ∧ Z.Warmed39 U.vm ∧ U.heap = h0) (fun _ _ _ _ _ => True) (fun _ U oO U' => ∃ v L, oO = .returned v ∧ Q_rmI0 Z o b h0 n0 v U'.heap L ∧ FrameEnd U oO U' L ({ frames := 1, cells := 0, slots := 0, locals := 12 } : Room).cells ({ frames := 1, cells := 0, slots := 0, locals := 12 } : Room).slots) := by
  refine MetFree.of_bodySF (plainFor_of_name pn_rmI0) hisR ?_
  intro p e s m args below meth c s₁ Bd hml0 hP hK
  obtain ⟨rfl, hZ, hh⟩ := hP
  have hx := Bd.exec
  have hby := Bd.bytes
  have hml : c.maxLocals = 2 := hml0
  have hown : s.vm.findClass "java/util/ArrayList$Itr" = some m.cls := findClass_of_methodNamed Bd.named
  have hnm := (name_of_methodNamed Bd.named Bd.method).1
  have hk := Bd.notSynchronized
  have hrt := Bd.returns
  have X0 : Stand p l e ({ frames := 1, cells := 0, slots := 0, locals := 12 } : Room) s m #[(.ref o), (.ref b)] below meth c s₁ [] 0 0 := Stand.of_body Bd
  have e0 : s₁.heap = h0 := by rw [← hh, Bd.state]; rfl
  have N0 := Fr.nil n0
  show OwnGo p.tables e below (OwnEnd s (Q_rmI0 Z o b h0 n0) ({ frames := 1, cells := 0, slots := 0, locals := 12 } : Room).cells ({ frames := 1, cells := 0, slots := 0, locals := 12 } : Room).slots) _
  refine OwnGo.pre (fun t k => castTop (ef_rmI0 m o b) k) ?_
  show OwnGo _ _ _ _ (s₁.setTop (mkF m 0 #[sR o, sR b] []))
  refine OwnGo.pre (fun t k => XS.aloadN X0.here hx rfl (hb hby d8_0) rfl rfl (XS.aloadN X0.here hx rfl (hb hby d8_1) rfl rfl k)) ?_
  show OwnGo _ _ _ _ (s₁.setTop (mkF m 2 #[sR o, sR b] [(.ref b), (.ref o)]))
  obtain ⟨T7, h7, X7, e7, W7, st7⟩ := putF X0 hx hZ hown (host := "") (Or.inl (hw _ (List.mem_of_getElem? (i := 63) rfl))) Via.refl e0 Ft E (Or.inr ⟨(hw _ (List.mem_of_getElem? (i := 64) rfl)), rfl, hnm⟩) (hw _ (List.mem_of_getElem? (i := 57) rfl)) (ty := (.object "java/util/ArrayList")) (by decide) rfl rfl (g := (mkF m 2 #[sR o, sR b] [(.ref b), (.ref o)])) rfl rfl (hb hby d8_2)
  have N7 := Fr.snoc X7 N0 g
  refine OwnGo.pre (fun t k => st7 t k) ?_
  show OwnGo _ _ _ _ (T7.setTop (mkF m 5 #[sR o, sR b] []))
  have Ft1 := Ft.same W7
  have Fl1 := Fl.other W7 (Or.inr (slot_ne (Or.inl (hw _ (List.mem_of_getElem? (i := 67) rfl))) (Or.inr (hw _ (List.mem_of_getElem? (i := 64) rfl))) (by decide) (t := .int) (by decide) (t' := (.object "java/util/ArrayList")) (by decide)))
  have Fx1 := Fx.other W7 (Or.inr (slot_ne (Or.inl (hw _ (List.mem_of_getElem? (i := 71) rfl))) (Or.inr (hw _ (List.mem_of_getElem? (i := 64) rfl))) (by decide) (t := .int) (by decide) (t' := (.object "java/util/ArrayList")) (by decide)))
  have Fc1 := Fc.other W7 (Or.inr (slot_ne (Or.inl (hw _ (List.mem_of_getElem? (i := 82) rfl))) (Or.inr (hw _ (List.mem_of_getElem? (i := 64) rfl))) (by decide) (t := .int) (by decide) (t' := (.object "java/util/ArrayList")) (by decide)))
  have E1 := E.wr W7
  have Fm1 := Fm.other W7 (Or.inl nbo)
  have K1 := (Keep.refl h0 [o]).wr W7 (Or.inl (List.mem_of_getElem? (i := 0) rfl))
  refine OwnGo.pre (fun t k => XS.aloadN X7.here hx rfl (hb hby d8_5) rfl rfl k) ?_
  show OwnGo _ _ _ _ (T7.setTop (mkF m 6 #[sR o, sR b] [(.ref o)]))
  obtain ⟨T8, X8, e8, st8⟩ := initO X7 hx hZ hown (hw _ (List.mem_of_getElem? (i := 65) rfl)) (hw _ (List.mem_of_getElem? (i := 22) rfl)) (hw _ (List.mem_of_getElem? (i := 23) rfl)) e7 (g := (mkF m 6 #[sR o, sR b] [(.ref o)])) rfl (by rw [hml]; rfl) rfl (hb hby d8_6) (by decide) (W := 0) (by show 2 * 0 + _ ≤ _; exact Nat.le_of_eq rfl) (by decide)
  refine OwnGo.pre (fun t k => st8 t k) ?_
  show OwnGo _ _ _ _ (T8.setTop (mkF m 9 #[sR o, sR b] []))
  refine OwnGo.pre (fun t k => XS.aloadN X8.here hx rfl (hb hby d8_9) rfl rfl (XS.iconst X8.here hx rfl (hb hby d8_10) k)) ?_
  show OwnGo _ _ _ _ (T8.setTop (mkF m 11 #[sR o, sR b] [(.int (-1 : Int32)), (.ref o)]))
  obtain ⟨T9, h9, X9, e9, W9, st9⟩ := putF X8 hx hZ hown (host := "") (Or.inl (hw _ (List.mem_of_getElem? (i := 66) rfl))) Via.refl e8 Fl1 E1 (Or.inl (hw _ (List.mem_of_getElem? (i := 67) rfl))) (hw _ (List.mem_of_getElem? (i := 57) rfl)) (ty := .int) (by decide) rfl rfl (g := (mkF m 11 #[sR o, sR b] [(.int (-1 : Int32)), (.ref o)])) rfl rfl (hb hby d8_11)
  have N9 := Fr.snoc X9 N7 g
  refine OwnGo.pre (fun t k => st9 t k) ?_
  show OwnGo _ _ _ _ (T9.setTop (mkF m 14 #[sR o, sR b] []))
  have Ft2 := Ft1.other W9 (Or.inr (slot_ne (Or.inr (hw _ (List.mem_of_getElem? (i := 64) rfl))) (Or.inl (hw _ (List.mem_of_getElem? (i := 67) rfl))) (by decide) (t := (.object "java/util/ArrayList")) (by decide) (t' := .int) (by decide)))
  have Fx2 := Fx1.other W9 (Or.inr (slot_ne (Or.inl (hw _ (List.mem_of_getElem? (i := 71) rfl))) (Or.inl (hw _ (List.mem_of_getElem? (i := 67) rfl))) (by decide) (t := .int) (by decide) (t' := .int) (by decide)))
  have Fc2 := Fc1.other W9 (Or.inr (slot_ne (Or.inl (hw _ (List.mem_of_getElem? (i := 82) rfl))) (Or.inl (hw _ (List.mem_of_getElem? (i := 67) rfl))) (by decide) (t := .int) (by decide) (t' := .int) (by decide)))
  have E2 := E1.wr W9
  have Fm2 := Fm1.other W9 (Or.inl nbo)
  have K2 := K1.wr W9 (Or.inl (List.mem_of_getElem? (i := 0) rfl))
  refine OwnGo.pre (fun t k => XS.aloadN X9.here hx rfl (hb hby d8_14) rfl rfl (XS.aloadN X9.here hx rfl (hb hby d8_15) rfl rfl k)) ?_
  show OwnGo _ _ _ _ (T9.setTop (mkF m 16 #[sR o, sR b] [(.ref o), (.ref o)]))
  obtain ⟨T10, X10, e10, st10⟩ := getF X9 hx hZ hown (host := "") (Or.inl (hw _ (List.mem_of_getElem? (i := 63) rfl))) Via.refl e9 Ft2 (g := (mkF m 16 #[sR o, sR b] [(.ref o), (.ref o)])) rfl rfl (hb hby d8_16)
  refine OwnGo.pre (fun t k => st10 t k) ?_
  show OwnGo _ _ _ _ (T10.setTop (mkF m 19 #[sR o, sR b] [(.ref b), (.ref o)]))
  obtain ⟨T11, X11, e11, st11⟩ := getF X10 hx hZ hown (host := "") (Or.inl (hw _ (List.mem_of_getElem? (i := 68) rfl))) (Via.of (hw _ (List.mem_of_getElem? (i := 69) rfl))) e10 Fm2 (g := (mkF m 19 #[sR o, sR b] [(.ref b), (.ref o)])) rfl rfl (hb hby d8_19)
  refine OwnGo.pre (fun t k => st11 t k) ?_
  show OwnGo _ _ _ _ (T11.setTop (mkF m 22 #[sR o, sR b] [(.int (0 : Int32)), (.ref o)]))
  obtain ⟨T12, h12, X12, e12, W12, st12⟩ := putF X11 hx hZ hown (host := "") (Or.inl (hw _ (List.mem_of_getElem? (i := 70) rfl))) Via.refl e11 Fx2 E2 (Or.inl (hw _ (List.mem_of_getElem? (i := 71) rfl))) (hw _ (List.mem_of_getElem? (i := 57) rfl)) (ty := .int) (by decide) rfl rfl (g := (mkF m 22 #[sR o, sR b] [(.int (0 : Int32)), (.ref o)])) rfl rfl (hb hby d8_22)
  have N12 := Fr.snoc X12 N9 g
  refine OwnGo.pre (fun t k => st12 t k) ?_
  show OwnGo _ _ _ _ (T12.setTop (mkF m 25 #[sR o, sR b] []))
  have Ft3 := Ft2.other W12 (Or.inr (slot_ne (Or.inr (hw _ (List.mem_of_getElem? (i := 64) rfl))) (Or.inl (hw _ (List.mem_of_getElem? (i := 71) rfl))) (by decide) (t := (.object "java/util/ArrayList")) (by decide) (t' := .int) (by decide)))
  have Fc3 := Fc2.other W12 (Or.inr (slot_ne (Or.inl (hw _ (List.mem_of_getElem? (i := 82) rfl))) (Or.inl (hw _ (List.mem_of_getElem? (i := 71) rfl))) (by decide) (t := .int) (by decide) (t' := .int) (by decide)))
  have E3 := E2.wr W12
  have K3 := K2.wr W12 (Or.inl (List.mem_of_getElem? (i := 0) rfl))
  rw [← e12] at Ft3 Fc3 E3 K3
  exact own_ret0 X12 hx hk hrt (hb hby d8_25) ⟨rfl, N12, K3, E3, Fc3, Ft3⟩ (by decide) (by decide)
theorem d7_0 : decode jdk_38_method_55_code 0 = .ok (.new 267, 3) := by decide +kernel
theorem d7_3 : decode jdk_38_method_55_code 3 = .ok (.dup, 1) := by decide +kernel
theorem d7_4 : decode jdk_38_method_55_code 4 = .ok (.aload_n 0, 1) := by decide +kernel
theorem d7_5 : decode jdk_38_method_55_code 5 = .ok (.invokespecial 269, 3) := by decide +kernel
theorem d7_8 : decode jdk_38_method_55_code 8 = .ok (.areturn, 1) := by decide +kernel
theorem pn_rmIt : plainName "java/util/ArrayList" = true := by first | (simp [plainName, overriddenIn]; done) | decide +kernel
theorem pd_rmIt : parseMethodDescriptor "()Ljava/util/Iterator;" = some ⟨[], (some (.object "java/util/Iterator"))⟩ := by decide +kernel
theorem ef_rmIt (m : MethodId) (b : Addr) : entryFrame m #[(.ref b)] 1 = (mkF m 0 #[sR b] []) := by first | (simp [entryFrame, mkF, argsToLocals, Value.category, maxLocals]; done) | rfl
def Q_rmIt (Z : State) (b : Addr) (h0 : Heap) (n0 : Nat) (v : Option Value) (h : Heap) (L : List Loc) : Prop := ∃ o, v = some (.ref o) ∧ Fr n0 L ∧ Keep h0 h [] ∧ Exa Z h o "java/util/ArrayList$Itr" ∧ Fld Z h o "java/util/ArrayList$Itr" "cursor" "I" (.int 0) ∧ Fld Z h o "java/util/ArrayList$Itr" "this$0" "Ljava/util/ArrayList;" (.ref b)
set_option maxRecDepth 65536 in
set_option maxHeartbeats 40000000 in
theorem rmIt (l : Launch) (Z : State) (a0 : Array Value) (hw : ∀ d ∈ tables_1, d.before a0 Z = true) (ws : List Jvm.Cond) (b : Addr) (h0 : Heap) (n0 : Nat) (Z0 : n0 ≤ h0.size) (Fm : Fld Z h0 b "java/util/AbstractList" "modCount" "I" (.int 0)) :
    MetFree l (⟨"java/util/ArrayList", "iterator", "()Ljava/util/Iterator;"⟩ : MethodName) (head1 (Jvm.Cond.code (⟨"java/util/ArrayList", "iterator", "()Ljava/util/Iterator;"⟩ : MethodName) jdk_38_method_55_code 1 (some (.object "java/util/Iterator")) :: ws) ({ frames := 2, cells := 1, slots := 4, locals := 26 } : Room)) (fun a U => a = #[(.ref b)] ∧ Z.Warmed39 U.vm ∧ U.heap = h0) (fun _ _ _ _ _ => True) (fun _ U oO U' => ∃ v L, oO = .returned v ∧ Q_rmIt Z b h0 n0 v U'.heap L ∧ FrameEnd U oO U' L ({ frames := 2, cells := 1, slots := 4, locals := 26 } : Room).cells ({ frames := 2, cells := 1, slots := 4, locals := 26 } : Room).slots) := by
  refine MetFree.of_bodySF (plainFor_of_name pn_rmIt) hisR ?_
  intro p e s m args below meth c s₁ Bd hml0 hP hK
  obtain ⟨rfl, hZ, hh⟩ := hP
  have hx := Bd.exec
  have hby := Bd.bytes
  have hml : c.maxLocals = 1 := hml0
  have hown : s.vm.findClass "java/util/ArrayList" = some m.cls := findClass_of_methodNamed Bd.named
  have hnm := (name_of_methodNamed Bd.named Bd.method).1
  have hk := Bd.notSynchronized
  have hrt := Bd.returns
  have X0 : Stand p l e ({ frames := 2, cells := 1, slots := 4, locals := 26 } : Room) s m #[(.ref b)] below meth c s₁ [] 0 0 := Stand.of_body Bd
  have e0 : s₁.heap = h0 := by rw [← hh, Bd.state]; rfl
  have N0 := Fr.nil n0
  show OwnGo p.tables e below (OwnEnd s (Q_rmIt Z b h0 n0) ({ frames := 2, cells := 1, slots := 4, locals := 26 } : Room).cells ({ frames := 2, cells := 1, slots := 4, locals := 26 } : Room).slots) _
  refine OwnGo.pre (fun t k => castTop (ef_rmIt m b) k) ?_
  show OwnGo _ _ _ _ (s₁.setTop (mkF m 0 #[sR b] []))
  obtain ⟨T13, h13, X13, e13, E13, A13, D13, -, st13⟩ := newO X0 hx hZ hown (hw _ (List.mem_of_getElem? (i := 56) rfl)) (hw _ (List.mem_of_getElem? (i := 57) rfl)) (hw _ (List.mem_of_getElem? (i := 58) rfl)) e0 (g := (mkF m 0 #[sR b] [])) rfl (hb hby d7_0) (by decide) (by decide)
  obtain ⟨a13, g13⟩ : ∃ z, z = h0.size := ⟨_, rfl⟩
  rw [← g13] at A13 D13 st13
  have G13 : n0 ≤ a13 := Nat.le_trans Z0 (Nat.le_of_eq g13.symm)
  have Z13 : n0 ≤ h13.size := Nat.le_trans Z0 E13.1
  refine OwnGo.pre (fun t k => st13 t k) ?_
  show OwnGo _ _ _ _ (T13.setTop (mkF m 3 #[sR b] [(.ref a13)]))
  have nb : b ≠ a13 := (Nat.ne_of_lt (Nat.lt_of_lt_of_le Fm.lt (Nat.le_of_eq g13.symm)))
  refine OwnGo.pre (fun t k => XS.dup X13.here hx rfl (hb hby d7_3) rfl rfl (XS.aloadN X13.here hx rfl (hb hby d7_4) rfl rfl k)) ?_
  show OwnGo _ _ _ _ (T13.setTop (mkF m 5 #[sR b] [(.ref b), (.ref a13), (.ref a13)]))
  obtain ⟨_, _, ⟨T14, L14, k14, n14⟩, -, X14, ⟨Lc14, hQ14, l14, y14, z14⟩, st14⟩ := X13.specialBack hx (y := (⟨"java/util/ArrayList$Itr", "<init>", "(Ljava/util/ArrayList;)V"⟩ : MethodName)) rfl hown (mvT hZ (hw _ (List.mem_of_getElem? (i := 59) rfl))) (mvT hZ (hw _ (List.mem_of_getElem? (i := 60) rfl))) (mvT hZ (hw _ (List.mem_of_getElem? (i := 62) rfl))) (by decide) (backOf (W := 1) (rmI0 l Z a0 hw [] a13 b h13 n0 Z13 A13 (D13 (Or.inr (hw _ (List.mem_of_getElem? (i := 64) rfl))) (ty := (.object "java/util/ArrayList")) (by decide)) (D13 (Or.inl (hw _ (List.mem_of_getElem? (i := 67) rfl))) (ty := .int) (by decide)) (D13 (Or.inl (hw _ (List.mem_of_getElem? (i := 71) rfl))) (ty := .int) (by decide)) (D13 (Or.inl (hw _ (List.mem_of_getElem? (i := 82) rfl))) (ty := .int) (by decide)) G13 (Fm.ext E13) nb) hZ (hw _ (List.mem_of_getElem? (i := 62) rfl)) (hw _ (List.mem_of_getElem? (i := 58) rfl)) (by decide) (by decide)) (g := (mkF m 5 #[sR b] [(.ref b), (.ref a13), (.ref a13)])) rfl (by rw [hml]; rfl) (Steps.refl _) (a := a13) (argsL := [(.ref b)]) (rest := [(.ref a13)]) (lenOf pd_rmI0 rfl) rfl (by show 2 * 0 + _ ≤ _; exact Nat.le_of_eq rfl) (hb hby d7_5) (fun _ _ => ⟨rfl, e13, (by decide : 1 + 0 ≤ _), (by decide : 4 + 0 ≤ _)⟩)
  dsimp only [Pt.U, Pt.locs, Pt.cells, Pt.slots] at X14 l14 y14 z14 st14 hQ14
  subst l14 y14 z14
  obtain ⟨rfl, N14, K14, E14, Fc14, Ft14⟩ := hQ14
  refine OwnGo.pre (fun t k => st14.trans k) ?_
  show OwnGo _ _ _ _ (T14.setTop (mkF m 8 #[sR b] [(.ref a13)]))
  have Q14 : Keep h0 T14.heap [] := ((Keep.refl h0 []).ext E13).trans K14 (allS (Or.inr (Nat.le_of_eq g13.symm)) all0)
  exact own_retA X14 hx hk hrt (hb hby d7_8) rfl ⟨_, rfl, Fr.app N0 N14, Q14, E14, Fc14, Ft14⟩ (by decide) (by decide)
theorem d9_0 : decode jdk_49_method_2_code 0 = .ok (.aload_n 0, 1) := by decide +kernel
theorem d9_1 : decode jdk_49_method_2_code 1 = .ok (.getfield 25, 3) := by decide +kernel
theorem d9_4 : decode jdk_49_method_2_code 4 = .ok (.aload_n 0, 1) := by decide +kernel
theorem d9_5 : decode jdk_49_method_2_code 5 = .ok (.getfield 1, 3) := by decide +kernel
theorem d9_8 : decode jdk_49_method_2_code 8 = .ok (.getfield 28, 3) := by decide +kernel
theorem d9_11 : decode jdk_49_method_2_code 11 = .ok (.if_icmp .eq 7, 3) := by decide +kernel
theorem d9_14 : decode jdk_49_method_2_code 14 = .ok (.iconst 1, 1) := by decide +kernel
theorem d9_15 : decode jdk_49_method_2_code 15 = .ok (.goto 4, 3) := by decide +kernel
theorem d9_18 : decode jdk_49_method_2_code 18 = .ok (.iconst 0, 1) := by decide +kernel
theorem d9_19 : decode jdk_49_method_2_code 19 = .ok (.ireturn, 1) := by decide +kernel
theorem pn_rmHN : plainName "java/util/ArrayList$Itr" = true := by first | (simp [plainName, overriddenIn]; done) | decide +kernel
theorem pd_rmHN : parseMethodDescriptor "()Z" = some ⟨[], (some .boolean)⟩ := by decide +kernel
theorem ef_rmHN (m : MethodId) (o b : Addr) : entryFrame m #[(.ref o)] 1 = (mkF m 0 #[sR o] []) := by first | (simp [entryFrame, mkF, argsToLocals, Value.category, maxLocals]; done) | rfl
def Q_rmHN (Z : State) (o b : Addr) (h0 : Heap) (n0 : Nat) (v : Option Value) (h : Heap) (L : List Loc) : Prop := v = some (.int 0) ∧ Fr n0 L ∧ h = h0
set_option maxRecDepth 65536 in
set_option maxHeartbeats 40000000 in
theorem rmHN (l : Launch) (Z : State) (a0 : Array Value) (hw : ∀ d ∈ tables_1, d.before a0 Z = true) (ws : List Jvm.Cond) (o b : Addr) (h0 : Heap) (n0 : Nat) (Z0 : n0 ≤ h0.size) (Fc : Fld Z h0 o "java/util/ArrayList$Itr" "cursor" "I" (.int 0)) (Ft : Fld Z h0 o "java/util/ArrayList$Itr" "this$0" "Ljava/util/ArrayList;" (.ref b)) (Fs : Fld Z h0 b "java/util/ArrayList" "size" "I" (.int 0)) :
    MetFree l (⟨"java/util/ArrayList$Itr", "hasNext", "()Z"⟩ : MethodName) (head1 (Jvm.Cond.code (⟨"java/util/ArrayList$Itr", "hasNext", "()Z"⟩ : MethodName) jdk_49_method_2_code 1 (some .boolean) :: ws) ({ frames := 0, cells := 0, slots := 0, locals := 0 } : Room)) (fun a U => a = #[(.ref o)] ∧ Z.Warmed39 U.vm ∧ U.heap = h0) (fun _ _ _ _ _ => True) (fun _ U oO U' => ∃ v L, oO = .returned v ∧ Q_rmHN Z o b h0 n0 v U'.heap L ∧ FrameEnd U oO U' L ({ frames := 0, cells := 0, slots := 0, locals := 0 } : Room).cells ({ frames := 0, cells := 0, slots := 0, locals := 0 } : Room).slots) := by
  refine MetFree.of_bodySF (plainFor_of_name pn_rmHN) hisR ?_
  intro p e s m args below meth c s₁ Bd hml0 hP hK
  obtain ⟨rfl, hZ, hh⟩ := hP
  have hx := Bd.exec
  have hby := Bd.bytes
  have hml : c.maxLocals = 1 := hml0
  have hown : s.vm.findClass "java/util/ArrayList$Itr" = some m.cls := findClass_of_methodNamed Bd.named
  have hnm := (name_of_methodNamed Bd.named Bd.method).1
  have hk := Bd.notSynchronized
  have hrt := Bd.returns
  have X0 : Stand p l e ({ frames := 0, cells := 0, slots := 0, locals := 0 } : Room) s m #[(.ref o)] below meth c s₁ [] 0 0 := Stand.of_body Bd
  have e0 : s₁.heap = h0 := by rw [← hh, Bd.state]; rfl
  have N0 := Fr.nil n0
  show OwnGo p.tables e below (OwnEnd s (Q_rmHN Z o b h0 n0) ({ frames := 0, cells := 0, slots := 0, locals := 0 } : Room).cells ({ frames := 0, cells := 0, slots := 0, locals := 0 } : Room).slots) _
  refine OwnGo.pre (fun t k => castTop (ef_rmHN m o b) k) ?_
  show OwnGo _ _ _ _ (s₁.setTop (mkF m 0 #[sR o] []))
  refine OwnGo.pre (fun t k => XS.aloadN X0.here hx rfl (hb hby d9_0) rfl rfl k) ?_
  show OwnGo _ _ _ _ (s₁.setTop (mkF m 1 #[sR o] [(.ref o)]))
  obtain ⟨T15, X15, e15, st15⟩ := getF X0 hx hZ hown (host := "") (Or.inl (hw _ (List.mem_of_getElem? (i := 81) rfl))) Via.refl e0 Fc (g := (mkF m 1 #[sR o] [(.ref o)])) rfl rfl (hb hby d9_1)
  refine OwnGo.pre (fun t k => st15 t k) ?_
  show OwnGo _ _ _ _ (T15.setTop (mkF m 4 #[sR o] [(.int (0 : Int32))]))
  refine OwnGo.pre (fun t k => XS.aloadN X15.here hx rfl (hb hby d9_4) rfl rfl k) ?_
  show OwnGo _ _ _ _ (T15.setTop (mkF m 5 #[sR o] [(.ref o), (.int (0 : Int32))]))
  obtain ⟨T16, X16, e16, st16⟩ := getF X15 hx hZ hown (host := "") (Or.inl (hw _ (List.mem_of_getElem? (i := 63) rfl))) Via.refl e15 Ft (g := (mkF m 5 #[sR o] [(.ref o), (.int (0 : Int32))])) rfl rfl (hb hby d9_5)
  refine OwnGo.pre (fun t k => st16 t k) ?_
  show OwnGo _ _ _ _ (T16.setTop (mkF m 8 #[sR o] [(.ref b), (.int (0 : Int32))]))
  obtain ⟨T17, X17, e17, st17⟩ := getF X16 hx hZ hown (host := "java/util/ArrayList") (Or.inr (hw _ (List.mem_of_getElem? (i := 83) rfl))) Via.refl e16 Fs (g := (mkF m 8 #[sR o] [(.ref b), (.int (0 : Int32))])) rfl rfl (hb hby d9_8)
  refine OwnGo.pre (fun t k => st17 t k) ?_
  show OwnGo _ _ _ _ (T17.setTop (mkF m 11 #[sR o] [(.int (0 : Int32)), (.int (0 : Int32))]))
  refine OwnGo.pre (fun t k => XS.icmpYes X17.here hx rfl (pc0 := 11) (pc' := 18) rfl (hb hby d9_11) rfl (by decide) (by decide) (by decide) (XS.iconst X17.here hx rfl (hb hby d9_18) k)) ?_
  show OwnGo _ _ _ _ (T17.setTop (mkF m 19 #[sR o] [(.int (0 : Int32))]))
  exact own_retZ X17 hx hk hrt (hb hby d9_19) ⟨rfl, N0, e17⟩ (by decide) (by decide)
theorem d6_0 : decode prog_54_method_1_code 0 = .ok (.aload_n 0, 1) := by decide +kernel
theorem d6_1 : decode prog_54_method_1_code 1 = .ok (.invokespecial 1, 3) := by decide +kernel
theorem d6_4 : decode prog_54_method_1_code 4 = .ok (.return_, 1) := by decide +kernel
theorem pn_rmTI : plainName "com/example/clausewright/clausewright/scoring/Tally" = true := by first | (simp [plainName, overriddenIn]; done) | decide +kernel
theorem pd_rmTI : parseMethodDescriptor "()V" = some ⟨[], none⟩ := by decide +kernel
theorem ef_rmTI (m : MethodId) (o : Addr) : entryFrame m #[(.ref o)] 1 = (mkF m 0 #[sR o] []) := by first | (simp [entryFrame, mkF, argsToLocals, Value.category, maxLocals]; done) | rfl
def Q_rmTI (Z : State) (o : Addr) (h0 : Heap) (n0 : Nat) (v : Option Value) (h : Heap) (L : List Loc) : Prop := v = none ∧ Fr n0 L ∧ h = h0
set_option maxRecDepth 65536 in
set_option maxHeartbeats 40000000 in
theorem rmTI (l : Launch) (Z : State) (a0 : Array Value) (hw : ∀ d ∈ tables_1, d.before a0 Z = true) (ws : List Jvm.Cond) (o : Addr) (h0 : Heap) (n0 : Nat) (Z0 : n0 ≤ h0.size)  :
    MetFree l (⟨"com/example/clausewright/clausewright/scoring/Tally", "<init>", "()V"⟩ : MethodName) (head1 (Jvm.Cond.code (⟨"com/example/clausewright/clausewright/scoring/Tally", "<init>", "()V"⟩ : MethodName) prog_54_method_1_code 1 none :: ws) ({ frames := 1, cells := 0, slots := 0, locals := 12 } : Room)) (fun a U => a = #[(.ref o)] ∧ Z.Warmed39 U.vm ∧ U.heap = h0) (fun _ _ _ _ _ => True) (fun _ U oO U' => ∃ v L, oO = .returned v ∧ Q_rmTI Z o h0 n0 v U'.heap L ∧ FrameEnd U oO U' L ({ frames := 1, cells := 0, slots := 0, locals := 12 } : Room).cells ({ frames := 1, cells := 0, slots := 0, locals := 12 } : Room).slots) := by
  refine MetFree.of_bodySF (plainFor_of_name pn_rmTI) hisR ?_
  intro p e s m args below meth c s₁ Bd hml0 hP hK
  obtain ⟨rfl, hZ, hh⟩ := hP
  have hx := Bd.exec
  have hby := Bd.bytes
  have hml : c.maxLocals = 1 := hml0
  have hown : s.vm.findClass "com/example/clausewright/clausewright/scoring/Tally" = some m.cls := findClass_of_methodNamed Bd.named
  have hnm := (name_of_methodNamed Bd.named Bd.method).1
  have hk := Bd.notSynchronized
  have hrt := Bd.returns
  have X0 : Stand p l e ({ frames := 1, cells := 0, slots := 0, locals := 12 } : Room) s m #[(.ref o)] below meth c s₁ [] 0 0 := Stand.of_body Bd
  have e0 : s₁.heap = h0 := by rw [← hh, Bd.state]; rfl
  have N0 := Fr.nil n0
  show OwnGo p.tables e below (OwnEnd s (Q_rmTI Z o h0 n0) ({ frames := 1, cells := 0, slots := 0, locals := 12 } : Room).cells ({ frames := 1, cells := 0, slots := 0, locals := 12 } : Room).slots) _
  refine OwnGo.pre (fun t k => castTop (ef_rmTI m o) k) ?_
  show OwnGo _ _ _ _ (s₁.setTop (mkF m 0 #[sR o] []))
  refine OwnGo.pre (fun t k => XS.aloadN X0.here hx rfl (hb hby d6_0) rfl rfl k) ?_
  show OwnGo _ _ _ _ (s₁.setTop (mkF m 1 #[sR o] [(.ref o)]))
  obtain ⟨T18, X18, e18, st18⟩ := initO X0 hx hZ hown (hw _ (List.mem_of_getElem? (i := 46) rfl)) (hw _ (List.mem_of_getElem? (i := 22) rfl)) (hw _ (List.mem_of_getElem? (i := 23) rfl)) e0 (g := (mkF m 1 #[sR o] [(.ref o)])) rfl (by rw [hml]; rfl) rfl (hb hby d6_1) (by decide) (W := 0) (by show 2 * 0 + _ ≤ _; exact Nat.le_of_eq rfl) (by decide)
  refine OwnGo.pre (fun t k => st18 t k) ?_
  show OwnGo _ _ _ _ (T18.setTop (mkF m 4 #[sR o] []))
  exact own_ret0 X18 hx hk hrt (hb hby d6_4) ⟨rfl, N0, e18⟩ (by decide) (by decide)
theorem d10_0 : decode prog_54_method_5_code 0 = .ok (.aload_n 0, 1) := by decide +kernel
theorem d10_1 : decode prog_54_method_5_code 1 = .ok (.getfield 7, 3) := by decide +kernel
theorem d10_4 : decode prog_54_method_5_code 4 = .ok (.aload_n 0, 1) := by decide +kernel
theorem d10_5 : decode prog_54_method_5_code 5 = .ok (.getfield 13, 3) := by decide +kernel
theorem d10_8 : decode prog_54_method_5_code 8 = .ok (.iadd, 1) := by decide +kernel
theorem d10_9 : decode prog_54_method_5_code 9 = .ok (.istore_n 1, 1) := by decide +kernel
theorem d10_10 : decode prog_54_method_5_code 10 = .ok (.iload_n 1, 1) := by decide +kernel
theorem d10_11 : decode prog_54_method_5_code 11 = .ok (.ifCond .ne 9, 3) := by decide +kernel
theorem d10_14 : decode prog_54_method_5_code 14 = .ok (.ldc2_w 21, 3) := by decide +kernel
theorem d10_17 : decode prog_54_method_5_code 17 = .ok (.goto 11, 3) := by decide +kernel
theorem d10_20 : decode prog_54_method_5_code 20 = .ok (.aload_n 0, 1) := by decide +kernel
theorem d10_21 : decode prog_54_method_5_code 21 = .ok (.getfield 7, 3) := by decide +kernel
theorem d10_24 : decode prog_54_method_5_code 24 = .ok (.i2d, 1) := by decide +kernel
theorem d10_25 : decode prog_54_method_5_code 25 = .ok (.iload_n 1, 1) := by decide +kernel
theorem d10_26 : decode prog_54_method_5_code 26 = .ok (.i2d, 1) := by decide +kernel
theorem d10_27 : decode prog_54_method_5_code 27 = .ok (.ddiv, 1) := by decide +kernel
theorem d10_28 : decode prog_54_method_5_code 28 = .ok (.dreturn, 1) := by decide +kernel
theorem pn_rmRec : plainName "com/example/clausewright/clausewright/scoring/Tally" = true := by first | (simp [plainName, overriddenIn]; done) | decide +kernel
theorem pd_rmRec : parseMethodDescriptor "()D" = some ⟨[], (some .double)⟩ := by decide +kernel
theorem ef_rmRec (m : MethodId) (o : Addr) : entryFrame m #[(.ref o)] 2 = (mkF m 0 #[sR o, uU] []) := by first | (simp [entryFrame, mkF, argsToLocals, Value.category, maxLocals]; done) | rfl
def Q_rmRec (Z : State) (o : Addr) (h0 : Heap) (n0 : Nat) (v : Option Value) (h : Heap) (L : List Loc) : Prop := v = some (.double 9221120237041090560) ∧ Fr n0 L ∧ h = h0
set_option maxRecDepth 65536 in
set_option maxHeartbeats 40000000 in
theorem rmRec (l : Launch) (Z : State) (a0 : Array Value) (hw : ∀ d ∈ tables_1, d.before a0 Z = true) (ws : List Jvm.Cond) (o : Addr) (h0 : Heap) (n0 : Nat) (Z0 : n0 ≤ h0.size) (F0 : Fld Z h0 o "com/example/clausewright/clausewright/scoring/Tally" "truePositives" "I" (.int 0)) (F1 : Fld Z h0 o "com/example/clausewright/clausewright/scoring/Tally" "falseNegatives" "I" (.int 0)) :
    MetFree l (⟨"com/example/clausewright/clausewright/scoring/Tally", "recall", "()D"⟩ : MethodName) (head1 (Jvm.Cond.code (⟨"com/example/clausewright/clausewright/scoring/Tally", "recall", "()D"⟩ : MethodName) prog_54_method_5_code 2 (some .double) :: ws) ({ frames := 0, cells := 0, slots := 0, locals := 0 } : Room)) (fun a U => a = #[(.ref o)] ∧ Z.Warmed39 U.vm ∧ U.heap = h0) (fun _ _ _ _ _ => True) (fun _ U oO U' => ∃ v L, oO = .returned v ∧ Q_rmRec Z o h0 n0 v U'.heap L ∧ FrameEnd U oO U' L ({ frames := 0, cells := 0, slots := 0, locals := 0 } : Room).cells ({ frames := 0, cells := 0, slots := 0, locals := 0 } : Room).slots) := by
  refine MetFree.of_bodySF (plainFor_of_name pn_rmRec) hisR ?_
  intro p e s m args below meth c s₁ Bd hml0 hP hK
  obtain ⟨rfl, hZ, hh⟩ := hP
  have hx := Bd.exec
  have hby := Bd.bytes
  have hml : c.maxLocals = 2 := hml0
  have hown : s.vm.findClass "com/example/clausewright/clausewright/scoring/Tally" = some m.cls := findClass_of_methodNamed Bd.named
  have hnm := (name_of_methodNamed Bd.named Bd.method).1
  have hk := Bd.notSynchronized
  have hrt := Bd.returns
  have X0 : Stand p l e ({ frames := 0, cells := 0, slots := 0, locals := 0 } : Room) s m #[(.ref o)] below meth c s₁ [] 0 0 := Stand.of_body Bd
  have e0 : s₁.heap = h0 := by rw [← hh, Bd.state]; rfl
  have N0 := Fr.nil n0
  show OwnGo p.tables e below (OwnEnd s (Q_rmRec Z o h0 n0) ({ frames := 0, cells := 0, slots := 0, locals := 0 } : Room).cells ({ frames := 0, cells := 0, slots := 0, locals := 0 } : Room).slots) _
  refine OwnGo.pre (fun t k => castTop (ef_rmRec m o) k) ?_
  show OwnGo _ _ _ _ (s₁.setTop (mkF m 0 #[sR o, uU] []))
  refine OwnGo.pre (fun t k => XS.aloadN X0.here hx rfl (hb hby d10_0) rfl rfl k) ?_
  show OwnGo _ _ _ _ (s₁.setTop (mkF m 1 #[sR o, uU] [(.ref o)]))
  obtain ⟨T19, X19, e19, st19⟩ := getF X0 hx hZ hown (host := "") (Or.inl (hw _ (List.mem_of_getElem? (i := 90) rfl))) Via.refl e0 F0 (g := (mkF m 1 #[sR o, uU] [(.ref o)])) rfl rfl (hb hby d10_1)
  refine OwnGo.pre (fun t k => st19 t k) ?_
  show OwnGo _ _ _ _ (T19.setTop (mkF m 4 #[sR o, uU] [(.int (0 : Int32))]))
  refine OwnGo.pre (fun t k => XS.aloadN X19.here hx rfl (hb hby d10_4) rfl rfl k) ?_
  show OwnGo _ _ _ _ (T19.setTop (mkF m 5 #[sR o, uU] [(.ref o), (.int (0 : Int32))]))
  obtain ⟨T20, X20, e20, st20⟩ := getF X19 hx hZ hown (host := "") (Or.inl (hw _ (List.mem_of_getElem? (i := 92) rfl))) Via.refl e19 F1 (g := (mkF m 5 #[sR o, uU] [(.ref o), (.int (0 : Int32))])) rfl rfl (hb hby d10_5)
  refine OwnGo.pre (fun t k => st20 t k) ?_
  show OwnGo _ _ _ _ (T20.setTop (mkF m 8 #[sR o, uU] [(.int (0 : Int32)), (.int (0 : Int32))]))
  refine OwnGo.pre (fun t k => own_iadd X20.here hx rfl (hb hby d10_8) rfl (v := (0 : Int32)) (by decide) (XS.istoreN X20.here hx rfl (hb hby d10_9) rfl (l' := #[sR o, sI (0 : Int32)]) rfl (XS.iloadN X20.here hx rfl (hb hby d10_10) rfl (XS.ifNo X20.here hx rfl (hb hby d10_11) rfl (by decide) (own_ldcD X20 hx hown (mvT hZ (hw _ (List.mem_of_getElem? (i := 94) rfl))) rfl (hb hby d10_14) (XS.goto X20.here hx rfl (pc0 := 17) (pc' := 28) rfl (hb hby d10_17) (by decide) (by decide) k)))))) ?_
  show OwnGo _ _ _ _ (T20.setTop (mkF m 28 #[sR o, sI (0 : Int32)] [(.double (9221120237041090560 : UInt64))]))
  exact own_retD X20 hx hk hrt (hb hby d10_28) ⟨rfl, N0, e20⟩ (by decide) (by decide)
theorem d11_0 : decode prog_54_method_4_code 0 = .ok (.aload_n 0, 1) := by decide +kernel
theorem d11_1 : decode prog_54_method_4_code 1 = .ok (.getfield 7, 3) := by decide +kernel
theorem d11_4 : decode prog_54_method_4_code 4 = .ok (.aload_n 0, 1) := by decide +kernel
theorem d11_5 : decode prog_54_method_4_code 5 = .ok (.getfield 16, 3) := by decide +kernel
theorem d11_8 : decode prog_54_method_4_code 8 = .ok (.iadd, 1) := by decide +kernel
theorem d11_9 : decode prog_54_method_4_code 9 = .ok (.istore_n 1, 1) := by decide +kernel
theorem d11_10 : decode prog_54_method_4_code 10 = .ok (.iload_n 1, 1) := by decide +kernel
theorem d11_11 : decode prog_54_method_4_code 11 = .ok (.ifCond .ne 9, 3) := by decide +kernel
theorem d11_14 : decode prog_54_method_4_code 14 = .ok (.ldc2_w 21, 3) := by decide +kernel
theorem d11_17 : decode prog_54_method_4_code 17 = .ok (.goto 11, 3) := by decide +kernel
theorem d11_20 : decode prog_54_method_4_code 20 = .ok (.aload_n 0, 1) := by decide +kernel
theorem d11_21 : decode prog_54_method_4_code 21 = .ok (.getfield 7, 3) := by decide +kernel
theorem d11_24 : decode prog_54_method_4_code 24 = .ok (.i2d, 1) := by decide +kernel
theorem d11_25 : decode prog_54_method_4_code 25 = .ok (.iload_n 1, 1) := by decide +kernel
theorem d11_26 : decode prog_54_method_4_code 26 = .ok (.i2d, 1) := by decide +kernel
theorem d11_27 : decode prog_54_method_4_code 27 = .ok (.ddiv, 1) := by decide +kernel
theorem d11_28 : decode prog_54_method_4_code 28 = .ok (.dreturn, 1) := by decide +kernel
theorem pn_rmPre : plainName "com/example/clausewright/clausewright/scoring/Tally" = true := by first | (simp [plainName, overriddenIn]; done) | decide +kernel
theorem pd_rmPre : parseMethodDescriptor "()D" = some ⟨[], (some .double)⟩ := by decide +kernel
theorem ef_rmPre (m : MethodId) (o : Addr) : entryFrame m #[(.ref o)] 2 = (mkF m 0 #[sR o, uU] []) := by first | (simp [entryFrame, mkF, argsToLocals, Value.category, maxLocals]; done) | rfl
def Q_rmPre (Z : State) (o : Addr) (h0 : Heap) (n0 : Nat) (v : Option Value) (h : Heap) (L : List Loc) : Prop := v = some (.double 9221120237041090560) ∧ Fr n0 L ∧ h = h0
set_option maxRecDepth 65536 in
set_option maxHeartbeats 40000000 in
theorem rmPre (l : Launch) (Z : State) (a0 : Array Value) (hw : ∀ d ∈ tables_1, d.before a0 Z = true) (ws : List Jvm.Cond) (o : Addr) (h0 : Heap) (n0 : Nat) (Z0 : n0 ≤ h0.size) (F0 : Fld Z h0 o "com/example/clausewright/clausewright/scoring/Tally" "truePositives" "I" (.int 0)) (F1 : Fld Z h0 o "com/example/clausewright/clausewright/scoring/Tally" "falsePositives" "I" (.int 0)) :
    MetFree l (⟨"com/example/clausewright/clausewright/scoring/Tally", "precision", "()D"⟩ : MethodName) (head1 (Jvm.Cond.code (⟨"com/example/clausewright/clausewright/scoring/Tally", "precision", "()D"⟩ : MethodName) prog_54_method_4_code 2 (some .double) :: ws) ({ frames := 0, cells := 0, slots := 0, locals := 0 } : Room)) (fun a U => a = #[(.ref o)] ∧ Z.Warmed39 U.vm ∧ U.heap = h0) (fun _ _ _ _ _ => True) (fun _ U oO U' => ∃ v L, oO = .returned v ∧ Q_rmPre Z o h0 n0 v U'.heap L ∧ FrameEnd U oO U' L ({ frames := 0, cells := 0, slots := 0, locals := 0 } : Room).cells ({ frames := 0, cells := 0, slots := 0, locals := 0 } : Room).slots) := by
  refine MetFree.of_bodySF (plainFor_of_name pn_rmPre) hisR ?_
  intro p e s m args below meth c s₁ Bd hml0 hP hK
  obtain ⟨rfl, hZ, hh⟩ := hP
  have hx := Bd.exec
  have hby := Bd.bytes
  have hml : c.maxLocals = 2 := hml0
  have hown : s.vm.findClass "com/example/clausewright/clausewright/scoring/Tally" = some m.cls := findClass_of_methodNamed Bd.named
  have hnm := (name_of_methodNamed Bd.named Bd.method).1
  have hk := Bd.notSynchronized
  have hrt := Bd.returns
  have X0 : Stand p l e ({ frames := 0, cells := 0, slots := 0, locals := 0 } : Room) s m #[(.ref o)] below meth c s₁ [] 0 0 := Stand.of_body Bd
  have e0 : s₁.heap = h0 := by rw [← hh, Bd.state]; rfl
  have N0 := Fr.nil n0
  show OwnGo p.tables e below (OwnEnd s (Q_rmPre Z o h0 n0) ({ frames := 0, cells := 0, slots := 0, locals := 0 } : Room).cells ({ frames := 0, cells := 0, slots := 0, locals := 0 } : Room).slots) _
  refine OwnGo.pre (fun t k => castTop (ef_rmPre m o) k) ?_
  show OwnGo _ _ _ _ (s₁.setTop (mkF m 0 #[sR o, uU] []))
  refine OwnGo.pre (fun t k => XS.aloadN X0.here hx rfl (hb hby d11_0) rfl rfl k) ?_
  show OwnGo _ _ _ _ (s₁.setTop (mkF m 1 #[sR o, uU] [(.ref o)]))
  obtain ⟨T21, X21, e21, st21⟩ := getF X0 hx hZ hown (host := "") (Or.inl (hw _ (List.mem_of_getElem? (i := 90) rfl))) Via.refl e0 F0 (g := (mkF m 1 #[sR o, uU] [(.ref o)])) rfl rfl (hb hby d11_1)
  refine OwnGo.pre (fun t k => st21 t k) ?_
  show OwnGo _ _ _ _ (T21.setTop (mkF m 4 #[sR o, uU] [(.int (0 : Int32))]))
  refine OwnGo.pre (fun t k => XS.aloadN X21.here hx rfl (hb hby d11_4) rfl rfl k) ?_
  show OwnGo _ _ _ _ (T21.setTop (mkF m 5 #[sR o, uU] [(.ref o), (.int (0 : Int32))]))
  obtain ⟨T22, X22, e22, st22⟩ := getF X21 hx hZ hown (host := "") (Or.inl (hw _ (List.mem_of_getElem? (i := 100) rfl))) Via.refl e21 F1 (g := (mkF m 5 #[sR o, uU] [(.ref o), (.int (0 : Int32))])) rfl rfl (hb hby d11_5)
  refine OwnGo.pre (fun t k => st22 t k) ?_
  show OwnGo _ _ _ _ (T22.setTop (mkF m 8 #[sR o, uU] [(.int (0 : Int32)), (.int (0 : Int32))]))
  refine OwnGo.pre (fun t k => own_iadd X22.here hx rfl (hb hby d11_8) rfl (v := (0 : Int32)) (by decide) (XS.istoreN X22.here hx rfl (hb hby d11_9) rfl (l' := #[sR o, sI (0 : Int32)]) rfl (XS.iloadN X22.here hx rfl (hb hby d11_10) rfl (XS.ifNo X22.here hx rfl (hb hby d11_11) rfl (by decide) (own_ldcD X22 hx hown (mvT hZ (hw _ (List.mem_of_getElem? (i := 94) rfl))) rfl (hb hby d11_14) (XS.goto X22.here hx rfl (pc0 := 17) (pc' := 28) rfl (hb hby d11_17) (by decide) (by decide) k)))))) ?_
  show OwnGo _ _ _ _ (T22.setTop (mkF m 28 #[sR o, sI (0 : Int32)] [(.double (9221120237041090560 : UInt64))]))
  exact own_retD X22 hx hk hrt (hb hby d11_28) ⟨rfl, N0, e22⟩ (by decide) (by decide)
theorem d13_0 : decode jdk_117_method_6_code 0 = .ok (.dload_n 0, 1) := by decide +kernel
theorem d13_1 : decode jdk_117_method_6_code 1 = .ok (.dload_n 0, 1) := by decide +kernel
theorem d13_2 : decode jdk_117_method_6_code 2 = .ok (.dcmp .l, 1) := by decide +kernel
theorem d13_3 : decode jdk_117_method_6_code 3 = .ok (.ifCond .eq 7, 3) := by decide +kernel
theorem d13_6 : decode jdk_117_method_6_code 6 = .ok (.iconst 1, 1) := by decide +kernel
theorem d13_7 : decode jdk_117_method_6_code 7 = .ok (.goto 4, 3) := by decide +kernel
theorem d13_10 : decode jdk_117_method_6_code 10 = .ok (.iconst 0, 1) := by decide +kernel
theorem d13_11 : decode jdk_117_method_6_code 11 = .ok (.ireturn, 1) := by decide +kernel
theorem pn_rmNN : plainName "java/lang/Double" = true := by first | (simp [plainName, overriddenIn]; done) | decide +kernel
theorem pd_rmNN : parseMethodDescriptor "(D)Z" = some ⟨[.double], (some .boolean)⟩ := by decide +kernel
theorem ef_rmNN (m : MethodId) (u : UInt64) : entryFrame m #[(.double u)] 2 = (mkF m 0 #[sD u, uS] []) := by first | (simp [entryFrame, mkF, argsToLocals, Value.category, maxLocals]; done) | rfl
def Q_rmNN (Z : State) (u : UInt64) (h0 : Heap) (n0 : Nat) (v : Option Value) (h : Heap) (L : List Loc) : Prop := ∃ r : Int32, v = some (.int r) ∧ r = (if ifCond.holds .eq (cmpValue (FP.dcmp u u) .l) = true then 0 else 1) ∧ Fr n0 L ∧ h = h0
set_option maxRecDepth 65536 in
set_option maxHeartbeats 40000000 in
theorem rmNN (l : Launch) (Z : State) (a0 : Array Value) (hw : ∀ d ∈ tables_1, d.before a0 Z = true) (ws : List Jvm.Cond) (u : UInt64) (h0 : Heap) (n0 : Nat) (Z0 : n0 ≤ h0.size)  :
    MetFree l (⟨"java/lang/Double", "isNaN", "(D)Z"⟩ : MethodName) (head1 (Jvm.Cond.code (⟨"java/lang/Double", "isNaN", "(D)Z"⟩ : MethodName) jdk_117_method_6_code 2 (some .boolean) :: ws) ({ frames := 0, cells := 0, slots := 0, locals := 0 } : Room)) (fun a U => a = #[(.double u)] ∧ Z.Warmed39 U.vm ∧ U.heap = h0) (fun _ _ _ _ _ => True) (fun _ U oO U' => ∃ v L, oO = .returned v ∧ Q_rmNN Z u h0 n0 v U'.heap L ∧ FrameEnd U oO U' L ({ frames := 0, cells := 0, slots := 0, locals := 0 } : Room).cells ({ frames := 0, cells := 0, slots := 0, locals := 0 } : Room).slots) := by
  refine MetFree.of_bodySF (plainFor_of_name pn_rmNN) hisR ?_
  intro p e s m args below meth c s₁ Bd hml0 hP hK
  obtain ⟨rfl, hZ, hh⟩ := hP
  have hx := Bd.exec
  have hby := Bd.bytes
  have hml : c.maxLocals = 2 := hml0
  have hown : s.vm.findClass "java/lang/Double" = some m.cls := findClass_of_methodNamed Bd.named
  have hnm := (name_of_methodNamed Bd.named Bd.method).1
  have hk := Bd.notSynchronized
  have hrt := Bd.returns
  have X0 : Stand p l e ({ frames := 0, cells := 0, slots := 0, locals := 0 } : Room) s m #[(.double u)] below meth c s₁ [] 0 0 := Stand.of_body Bd
  have e0 : s₁.heap = h0 := by rw [← hh, Bd.state]; rfl
  have N0 := Fr.nil n0
  show OwnGo p.tables e below (OwnEnd s (Q_rmNN Z u h0 n0) ({ frames := 0, cells := 0, slots := 0, locals := 0 } : Room).cells ({ frames := 0, cells := 0, slots := 0, locals := 0 } : Room).slots) _
  refine OwnGo.pre (fun t k => castTop (ef_rmNN m u) k) ?_
  show OwnGo _ _ _ _ (s₁.setTop (mkF m 0 #[sD u, uS] []))
  refine OwnGo.pre (fun t k => XS.dloadN X0.here hx rfl (hb hby d13_0) rfl (XS.dloadN X0.here hx rfl (hb hby d13_1) rfl (XS.dcmpS X0.here hx rfl (hb hby d13_2) rfl rfl k))) ?_
  show OwnGo _ _ _ _ (s₁.setTop (mkF m 3 #[sD u, uS] [(.int (cmpValue (FP.dcmp u u) .l))]))
  by_cases hq : ifCond.holds .eq (cmpValue (FP.dcmp u u) .l) = true
  · skip
    refine OwnGo.pre (fun t k => XS.ifYes X0.here hx rfl (pc0 := 3) (pc' := 10) rfl (hb hby d13_3) rfl hq (by decide) (by decide) (XS.iconst X0.here hx rfl (hb hby d13_10) k)) ?_
    show OwnGo _ _ _ _ (s₁.setTop (mkF m 11 #[sD u, uS] [(.int (0 : Int32))]))
    exact own_retZ X0 hx hk hrt (hb hby d13_11) ⟨_, rfl, by rw [if_pos hq]; rfl, N0, e0⟩ (by decide) (by decide)
  · skip
    refine OwnGo.pre (fun t k => XS.ifNo X0.here hx rfl (hb hby d13_3) rfl (eq_false_of_ne_true hq) (XS.iconst X0.here hx rfl (hb hby d13_6) (XS.goto X0.here hx rfl (pc0 := 7) (pc' := 11) rfl (hb hby d13_7) (by decide) (by decide) k))) ?_
    show OwnGo _ _ _ _ (s₁.setTop (mkF m 11 #[sD u, uS] [(.int (1 : Int32))]))
    exact own_retZ X0 hx hk hrt (hb hby d13_11) ⟨_, rfl, by rw [if_neg hq]; rfl, N0, e0⟩ (by decide) (by decide)
theorem d12_0 : decode prog_47_method_4_code 0 = .ok (.dload_n 0, 1) := by decide +kernel
theorem d12_1 : decode prog_47_method_4_code 1 = .ok (.invokestatic 63, 3) := by decide +kernel
theorem d12_4 : decode prog_47_method_4_code 4 = .ok (.ifCond .eq 7, 3) := by decide +kernel
theorem d12_7 : decode prog_47_method_4_code 7 = .ok (.dconst 0, 1) := by decide +kernel
theorem d12_8 : decode prog_47_method_4_code 8 = .ok (.goto 4, 3) := by decide +kernel
theorem d12_11 : decode prog_47_method_4_code 11 = .ok (.dload_n 0, 1) := by decide +kernel
theorem d12_12 : decode prog_47_method_4_code 12 = .ok (.dreturn, 1) := by decide +kernel
theorem pn_rmZ : plainName "com/example/clausewright/clausewright/scoring/Curve" = true := by first | (simp [plainName, overriddenIn]; done) | decide +kernel
theorem pd_rmZ : parseMethodDescriptor "(D)D" = some ⟨[.double], (some .double)⟩ := by decide +kernel
theorem ef_rmZ (m : MethodId) (u : UInt64) : entryFrame m #[(.double u)] 2 = (mkF m 0 #[sD u, uS] []) := by first | (simp [entryFrame, mkF, argsToLocals, Value.category, maxLocals]; done) | rfl
def Q_rmZ (Z : State) (u : UInt64) (h0 : Heap) (n0 : Nat) (v : Option Value) (h : Heap) (L : List Loc) : Prop := ∃ r : UInt64, v = some (.double r) ∧ r = own_z u ∧ Fr n0 L ∧ h = h0
set_option maxRecDepth 65536 in
set_option maxHeartbeats 40000000 in
theorem rmZ (l : Launch) (Z : State) (a0 : Array Value) (hw : ∀ d ∈ tables_1, d.before a0 Z = true) (ws : List Jvm.Cond) (u : UInt64) (h0 : Heap) (n0 : Nat) (Z0 : n0 ≤ h0.size)  :
    MetFree l (⟨"com/example/clausewright/clausewright/scoring/Curve", "zeroForNaN", "(D)D"⟩ : MethodName) (head1 (Jvm.Cond.code (⟨"com/example/clausewright/clausewright/scoring/Curve", "zeroForNaN", "(D)D"⟩ : MethodName) prog_47_method_4_code 2 (some .double) :: ws) ({ frames := 1, cells := 0, slots := 0, locals := 13 } : Room)) (fun a U => a = #[(.double u)] ∧ Z.Warmed39 U.vm ∧ U.heap = h0) (fun _ _ _ _ _ => True) (fun _ U oO U' => ∃ v L, oO = .returned v ∧ Q_rmZ Z u h0 n0 v U'.heap L ∧ FrameEnd U oO U' L ({ frames := 1, cells := 0, slots := 0, locals := 13 } : Room).cells ({ frames := 1, cells := 0, slots := 0, locals := 13 } : Room).slots) := by
  refine MetFree.of_bodySF (plainFor_of_name pn_rmZ) hisR ?_
  intro p e s m args below meth c s₁ Bd hml0 hP hK
  obtain ⟨rfl, hZ, hh⟩ := hP
  have hx := Bd.exec
  have hby := Bd.bytes
  have hml : c.maxLocals = 2 := hml0
  have hown : s.vm.findClass "com/example/clausewright/clausewright/scoring/Curve" = some m.cls := findClass_of_methodNamed Bd.named
  have hnm := (name_of_methodNamed Bd.named Bd.method).1
  have hk := Bd.notSynchronized
  have hrt := Bd.returns
  have X0 : Stand p l e ({ frames := 1, cells := 0, slots := 0, locals := 13 } : Room) s m #[(.double u)] below meth c s₁ [] 0 0 := Stand.of_body Bd
  have e0 : s₁.heap = h0 := by rw [← hh, Bd.state]; rfl
  have N0 := Fr.nil n0
  show OwnGo p.tables e below (OwnEnd s (Q_rmZ Z u h0 n0) ({ frames := 1, cells := 0, slots := 0, locals := 13 } : Room).cells ({ frames := 1, cells := 0, slots := 0, locals := 13 } : Room).slots) _
  refine OwnGo.pre (fun t k => castTop (ef_rmZ m u) k) ?_
  show OwnGo _ _ _ _ (s₁.setTop (mkF m 0 #[sD u, uS] []))
  refine OwnGo.pre (fun t k => XS.dloadN X0.here hx rfl (hb hby d12_0) rfl k) ?_
  show OwnGo _ _ _ _ (s₁.setTop (mkF m 1 #[sD u, uS] [(.double u)]))
  obtain ⟨_, _, ⟨T23, L23, k23, n23⟩, -, X23, ⟨Lc23, hQ23, l23, y23, z23⟩, st23⟩ := Jvm.LawKit.callS X0 hx (y := (⟨"java/lang/Double", "isNaN", "(D)Z"⟩ : MethodName)) hown (mvT hZ (hw _ (List.mem_of_getElem? (i := 105) rfl))) (mvT hZ (hw _ (List.mem_of_getElem? (i := 106) rfl))) (mvT hZ (hw _ (List.mem_of_getElem? (i := 107) rfl))) (mvT hZ (hw _ (List.mem_of_getElem? (i := 108) rfl))) (by decide) (backOf (W := 0) (rmNN l Z a0 hw [] u h0 n0 Z0 ) hZ (hw _ (List.mem_of_getElem? (i := 108) rfl)) (hw _ (List.mem_of_getElem? (i := 107) rfl)) (by decide) (by decide)) (g := (mkF m 1 #[sD u, uS] [(.double u)])) rfl (by rw [hml]; rfl) (argsL := [(.double u)]) (rest := []) (lenOf pd_rmNN rfl) rfl (by show 2 * 0 + _ ≤ _; exact Nat.le_of_eq rfl) (hb hby d12_1) (fun _ _ => ⟨rfl, e0, (by decide : 0 + 0 ≤ _), (by decide : 0 + 0 ≤ _)⟩)
  dsimp only [Pt.U, Pt.locs, Pt.cells, Pt.slots] at X23 l23 y23 z23 st23 hQ23
  subst l23 y23 z23
  obtain ⟨rr, rfl, hr, N23, e23⟩ := hQ23
  refine OwnGo.pre (fun t k => st23 t k) ?_
  show OwnGo _ _ _ _ (T23.setTop (mkF m 4 #[sD u, uS] [(.int rr)]))
  have M23 := Fr.app N0 N23
  by_cases hq : ifCond.holds .eq (cmpValue (FP.dcmp u u) .l) = true
  · skip
    refine OwnGo.pre (fun t k => XS.ifYes X23.here hx rfl (pc0 := 4) (pc' := 11) rfl (hb hby d12_4) rfl (by rw [hr, if_pos hq]; rfl) (by decide) (by decide) (XS.dloadN X23.here hx rfl (hb hby d12_11) rfl k)) ?_
    show OwnGo _ _ _ _ (T23.setTop (mkF m 12 #[sD u, uS] [(.double u)]))
    exact own_retD X23 hx hk hrt (hb hby d12_12) ⟨_, rfl, (if_pos hq).symm, M23, e23⟩ (by decide) (by decide)
  · skip
    refine OwnGo.pre (fun t k => XS.ifNo X23.here hx rfl (hb hby d12_4) rfl (by rw [hr, if_neg hq]; rfl) (XS.dconst0 X23.here hx rfl (hb hby d12_7) rfl (XS.goto X23.here hx rfl (pc0 := 8) (pc' := 12) rfl (hb hby d12_8) (by decide) (by decide) k))) ?_
    show OwnGo _ _ _ _ (T23.setTop (mkF m 12 #[sD u, uS] [(.double (0 : UInt64))]))
    exact own_retD X23 hx hk hrt (hb hby d12_12) ⟨_, rfl, (if_neg hq).symm, M23, e23⟩ (by decide) (by decide)
theorem d5_0 : decode prog_47_method_1_code 0 = .ok (.aload_n 0, 1) := by decide +kernel
theorem d5_1 : decode prog_47_method_1_code 1 = .ok (.invokespecial 1, 3) := by decide +kernel
theorem d5_4 : decode prog_47_method_1_code 4 = .ok (.getstatic 7, 3) := by decide +kernel
theorem d5_7 : decode prog_47_method_1_code 7 = .ok (.arraylength, 1) := by decide +kernel
theorem d5_8 : decode prog_47_method_1_code 8 = .ok (.iconst 1, 1) := by decide +kernel
theorem d5_9 : decode prog_47_method_1_code 9 = .ok (.iadd, 1) := by decide +kernel
theorem d5_10 : decode prog_47_method_1_code 10 = .ok (.istore_n 2, 1) := by decide +kernel
theorem d5_11 : decode prog_47_method_1_code 11 = .ok (.aload_n 0, 1) := by decide +kernel
theorem d5_12 : decode prog_47_method_1_code 12 = .ok (.iload_n 2, 1) := by decide +kernel
theorem d5_13 : decode prog_47_method_1_code 13 = .ok (.newarray .double, 2) := by decide +kernel
theorem d5_15 : decode prog_47_method_1_code 15 = .ok (.putfield 13, 3) := by decide +kernel
theorem d5_18 : decode prog_47_method_1_code 18 = .ok (.aload_n 0, 1) := by decide +kernel
theorem d5_19 : decode prog_47_method_1_code 19 = .ok (.iload_n 2, 1) := by decide +kernel
theorem d5_20 : decode prog_47_method_1_code 20 = .ok (.newarray .double, 2) := by decide +kernel
theorem d5_22 : decode prog_47_method_1_code 22 = .ok (.putfield 16, 3) := by decide +kernel
theorem d5_25 : decode prog_47_method_1_code 25 = .ok (.aload_n 0, 1) := by decide +kernel
theorem d5_26 : decode prog_47_method_1_code 26 = .ok (.getfield 13, 3) := by decide +kernel
theorem d5_29 : decode prog_47_method_1_code 29 = .ok (.iconst 0, 1) := by decide +kernel
theorem d5_30 : decode prog_47_method_1_code 30 = .ok (.dconst 0, 1) := by decide +kernel
theorem d5_31 : decode prog_47_method_1_code 31 = .ok (.dastore, 1) := by decide +kernel
theorem d5_32 : decode prog_47_method_1_code 32 = .ok (.aload_n 0, 1) := by decide +kernel
theorem d5_33 : decode prog_47_method_1_code 33 = .ok (.getfield 16, 3) := by decide +kernel
theorem d5_36 : decode prog_47_method_1_code 36 = .ok (.iconst 0, 1) := by decide +kernel
theorem d5_37 : decode prog_47_method_1_code 37 = .ok (.dconst 1, 1) := by decide +kernel
theorem d5_38 : decode prog_47_method_1_code 38 = .ok (.dastore, 1) := by decide +kernel
theorem d5_39 : decode prog_47_method_1_code 39 = .ok (.iconst 1, 1) := by decide +kernel
theorem d5_40 : decode prog_47_method_1_code 40 = .ok (.istore_n 3, 1) := by decide +kernel
theorem d5_41 : decode prog_47_method_1_code 41 = .ok (.iload_n 3, 1) := by decide +kernel
theorem d5_42 : decode prog_47_method_1_code 42 = .ok (.iload_n 2, 1) := by decide +kernel
theorem d5_43 : decode prog_47_method_1_code 43 = .ok (.if_icmp .ge 87, 3) := by decide +kernel
theorem d5_46 : decode prog_47_method_1_code 46 = .ok (.new 19, 3) := by decide +kernel
theorem d5_49 : decode prog_47_method_1_code 49 = .ok (.dup, 1) := by decide +kernel
theorem d5_50 : decode prog_47_method_1_code 50 = .ok (.invokespecial 21, 3) := by decide +kernel
theorem d5_53 : decode prog_47_method_1_code 53 = .ok (.astore 4, 2) := by decide +kernel
theorem d5_55 : decode prog_47_method_1_code 55 = .ok (.aload_n 1, 1) := by decide +kernel
theorem d5_56 : decode prog_47_method_1_code 56 = .ok (.invokeinterface 22 1, 5) := by decide +kernel
theorem d5_61 : decode prog_47_method_1_code 61 = .ok (.astore 5, 2) := by decide +kernel
theorem d5_63 : decode prog_47_method_1_code 63 = .ok (.aload 5, 2) := by decide +kernel
theorem d5_65 : decode prog_47_method_1_code 65 = .ok (.invokeinterface 28 1, 5) := by decide +kernel
theorem d5_70 : decode prog_47_method_1_code 70 = .ok (.ifCond .eq 32, 3) := by decide +kernel
theorem d5_73 : decode prog_47_method_1_code 73 = .ok (.aload 5, 2) := by decide +kernel
theorem d5_75 : decode prog_47_method_1_code 75 = .ok (.invokeinterface 34 1, 5) := by decide +kernel
theorem d5_80 : decode prog_47_method_1_code 80 = .ok (.checkcast 38, 3) := by decide +kernel
theorem d5_83 : decode prog_47_method_1_code 83 = .ok (.astore 6, 2) := by decide +kernel
theorem d5_85 : decode prog_47_method_1_code 85 = .ok (.aload 6, 2) := by decide +kernel
theorem d5_87 : decode prog_47_method_1_code 87 = .ok (.aload 4, 2) := by decide +kernel
theorem d5_89 : decode prog_47_method_1_code 89 = .ok (.getstatic 7, 3) := by decide +kernel
theorem d5_92 : decode prog_47_method_1_code 92 = .ok (.iload_n 3, 1) := by decide +kernel
theorem d5_93 : decode prog_47_method_1_code 93 = .ok (.iconst 1, 1) := by decide +kernel
theorem d5_94 : decode prog_47_method_1_code 94 = .ok (.isub, 1) := by decide +kernel
theorem d5_95 : decode prog_47_method_1_code 95 = .ok (.daload, 1) := by decide +kernel
theorem d5_96 : decode prog_47_method_1_code 96 = .ok (.invokevirtual 40, 3) := by decide +kernel
theorem d5_99 : decode prog_47_method_1_code 99 = .ok (.goto (-36), 3) := by decide +kernel
theorem d5_102 : decode prog_47_method_1_code 102 = .ok (.aload_n 0, 1) := by decide +kernel
theorem d5_103 : decode prog_47_method_1_code 103 = .ok (.getfield 13, 3) := by decide +kernel
theorem d5_106 : decode prog_47_method_1_code 106 = .ok (.iload_n 3, 1) := by decide +kernel
theorem d5_107 : decode prog_47_method_1_code 107 = .ok (.aload 4, 2) := by decide +kernel
theorem d5_109 : decode prog_47_method_1_code 109 = .ok (.invokevirtual 44, 3) := by decide +kernel
theorem d5_112 : decode prog_47_method_1_code 112 = .ok (.dastore, 1) := by decide +kernel
theorem d5_113 : decode prog_47_method_1_code 113 = .ok (.aload_n 0, 1) := by decide +kernel
theorem d5_114 : decode prog_47_method_1_code 114 = .ok (.getfield 16, 3) := by decide +kernel
theorem d5_117 : decode prog_47_method_1_code 117 = .ok (.iload_n 3, 1) := by decide +kernel
theorem d5_118 : decode prog_47_method_1_code 118 = .ok (.aload 4, 2) := by decide +kernel
theorem d5_120 : decode prog_47_method_1_code 120 = .ok (.invokevirtual 48, 3) := by decide +kernel
theorem d5_123 : decode prog_47_method_1_code 123 = .ok (.dastore, 1) := by decide +kernel
theorem d5_124 : decode prog_47_method_1_code 124 = .ok (.iinc 3 1, 3) := by decide +kernel
theorem d5_127 : decode prog_47_method_1_code 127 = .ok (.goto (-86), 3) := by decide +kernel
theorem d5_130 : decode prog_47_method_1_code 130 = .ok (.iload_n 2, 1) := by decide +kernel
theorem d5_131 : decode prog_47_method_1_code 131 = .ok (.iconst 2, 1) := by decide +kernel
theorem d5_132 : decode prog_47_method_1_code 132 = .ok (.isub, 1) := by decide +kernel
theorem d5_133 : decode prog_47_method_1_code 133 = .ok (.istore_n 3, 1) := by decide +kernel
theorem d5_134 : decode prog_47_method_1_code 134 = .ok (.iload_n 3, 1) := by decide +kernel
theorem d5_135 : decode prog_47_method_1_code 135 = .ok (.ifCond .lt 38, 3) := by decide +kernel
theorem d5_138 : decode prog_47_method_1_code 138 = .ok (.aload_n 0, 1) := by decide +kernel
theorem d5_139 : decode prog_47_method_1_code 139 = .ok (.getfield 16, 3) := by decide +kernel
theorem d5_142 : decode prog_47_method_1_code 142 = .ok (.iload_n 3, 1) := by decide +kernel
theorem d5_143 : decode prog_47_method_1_code 143 = .ok (.aload_n 0, 1) := by decide +kernel
theorem d5_144 : decode prog_47_method_1_code 144 = .ok (.getfield 16, 3) := by decide +kernel
theorem d5_147 : decode prog_47_method_1_code 147 = .ok (.iload_n 3, 1) := by decide +kernel
theorem d5_148 : decode prog_47_method_1_code 148 = .ok (.daload, 1) := by decide +kernel
theorem d5_149 : decode prog_47_method_1_code 149 = .ok (.invokestatic 51, 3) := by decide +kernel
theorem d5_152 : decode prog_47_method_1_code 152 = .ok (.aload_n 0, 1) := by decide +kernel
theorem d5_153 : decode prog_47_method_1_code 153 = .ok (.getfield 16, 3) := by decide +kernel
theorem d5_156 : decode prog_47_method_1_code 156 = .ok (.iload_n 3, 1) := by decide +kernel
theorem d5_157 : decode prog_47_method_1_code 157 = .ok (.iconst 1, 1) := by decide +kernel
theorem d5_158 : decode prog_47_method_1_code 158 = .ok (.iadd, 1) := by decide +kernel
theorem d5_159 : decode prog_47_method_1_code 159 = .ok (.daload, 1) := by decide +kernel
theorem d5_160 : decode prog_47_method_1_code 160 = .ok (.invokestatic 51, 3) := by decide +kernel
theorem d5_163 : decode prog_47_method_1_code 163 = .ok (.invokestatic 55, 3) := by decide +kernel
theorem d5_166 : decode prog_47_method_1_code 166 = .ok (.dastore, 1) := by decide +kernel
theorem d5_167 : decode prog_47_method_1_code 167 = .ok (.iinc 3 (-1), 3) := by decide +kernel
theorem d5_170 : decode prog_47_method_1_code 170 = .ok (.goto (-36), 3) := by decide +kernel
theorem d5_173 : decode prog_47_method_1_code 173 = .ok (.return_, 1) := by decide +kernel
theorem pn_rmCu : plainName "com/example/clausewright/clausewright/scoring/Curve" = true := by first | (simp [plainName, overriddenIn]; done) | decide +kernel
theorem pd_rmCu : parseMethodDescriptor "(Ljava/util/List;)V" = some ⟨[(.object "java/util/List")], none⟩ := by decide +kernel
theorem ef_rmCu (m : MethodId) (o b th : Addr) (tc : Cell) : entryFrame m #[(.ref o), (.ref b)] 7 = (mkF m 0 #[sR o, sR b, uU, uU, uU, uU, uU] []) := by first | (simp [entryFrame, mkF, argsToLocals, Value.category, maxLocals]; done) | rfl
def Q_rmCu (Z : State) (o b th : Addr) (tc : Cell) (h0 : Heap) (n0 : Nat) (v : Option Value) (h : Heap) (L : List Loc) : Prop := ∃ (ar ap : Addr) (Rl Pl : List UInt64), v = none ∧ Fr n0 L ∧ n0 ≤ h.size ∧ Exa Z h o "com/example/clausewright/clausewright/scoring/Curve" ∧ Fld Z h o "com/example/clausewright/clausewright/scoring/Curve" "recalls" "[D" (.ref ar) ∧ Fld Z h o "com/example/clausewright/clausewright/scoring/Curve" "precisions" "[D" (.ref ap) ∧ OwnDA Z h ar Rl ∧ OwnDA Z h ap Pl ∧ Rl.length = 102 ∧ Pl.length = 102 ∧ Rl[0]? = some 0 ∧ (∀ j : Nat, 1 ≤ j → j < 102 → Rl[j]? = some 9221120237041090560) ∧ Pl[0]? = some 4607182418800017408
set_option maxRecDepth 65536 in
set_option maxHeartbeats 40000000 in
theorem rmCu (l : Launch) (Z : State) (a0 : Array Value) (hw : ∀ d ∈ tables_1, d.before a0 Z = true) (ws : List Jvm.Cond) (o b th : Addr) (tc : Cell) (h0 : Heap) (n0 : Nat) (Z0 : n0 ≤ h0.size) (E : Exa Z h0 o "com/example/clausewright/clausewright/scoring/Curve") (F0 : Fld Z h0 o "com/example/clausewright/clausewright/scoring/Curve" "recalls" "[D" .null) (F1 : Fld Z h0 o "com/example/clausewright/clausewright/scoring/Curve" "precisions" "[D" .null) (g : n0 ≤ o) (S : Sta Z Z.heap "com/example/clausewright/clausewright/scoring/Curve" "THRESHOLDS" "[D" (.ref th)) (At : Jvm.RoadKit.Arr Z Z.heap th tc .double) (tl : tc.slots.size.toInt32 = 101) (O : Old Z n0 h0) (Eb : Exa Z h0 b "java/util/ArrayList") (Fm : Fld Z h0 b "java/util/AbstractList" "modCount" "I" (.int 0)) (Fs : Fld Z h0 b "java/util/ArrayList" "size" "I" (.int 0)) (nbo : b ≠ o) :
    MetFree l (⟨"com/example/clausewright/clausewright/scoring/Curve", "<init>", "(Ljava/util/List;)V"⟩ : MethodName) (head1 (Jvm.Cond.code (⟨"com/example/clausewright/clausewright/scoring/Curve", "<init>", "(Ljava/util/List;)V"⟩ : MethodName) prog_47_method_1_code 7 none :: ws) ({ frames := 3, cells := 204, slots := 911, locals := 40 } : Room)) (fun a U => a = #[(.ref o), (.ref b)] ∧ Z.Warmed39 U.vm ∧ U.heap = h0) (fun _ _ _ _ _ => True) (fun _ U oO U' => ∃ v L, oO = .returned v ∧ Q_rmCu Z o b th tc h0 n0 v U'.heap L ∧ FrameEnd U oO U' L ({ frames := 3, cells := 204, slots := 911, locals := 40 } : Room).cells ({ frames := 3, cells := 204, slots := 911, locals := 40 } : Room).slots) := by
  refine MetFree.of_bodySF (plainFor_of_name pn_rmCu) hisR ?_
  intro p e s m args below meth c s₁ Bd hml0 hP hK
  obtain ⟨rfl, hZ, hh⟩ := hP
  have hx := Bd.exec
  have hby := Bd.bytes
  have hml : c.maxLocals = 7 := hml0
  have hown : s.vm.findClass "com/example/clausewright/clausewright/scoring/Curve" = some m.cls := findClass_of_methodNamed Bd.named
  have hnm := (name_of_methodNamed Bd.named Bd.method).1
  have hk := Bd.notSynchronized
  have hrt := Bd.returns
  have X0 : Stand p l e ({ frames := 3, cells := 204, slots := 911, locals := 40 } : Room) s m #[(.ref o), (.ref b)] below meth c s₁ [] 0 0 := Stand.of_body Bd
  have e0 : s₁.heap = h0 := by rw [← hh, Bd.state]; rfl
  have N0 := Fr.nil n0
  show OwnGo p.tables e below (OwnEnd s (Q_rmCu Z o b th tc h0 n0) ({ frames := 3, cells := 204, slots := 911, locals := 40 } : Room).cells ({ frames := 3, cells := 204, slots := 911, locals := 40 } : Room).slots) _
  refine OwnGo.pre (fun t k => castTop (ef_rmCu m o b th tc) k) ?_
  show OwnGo _ _ _ _ (s₁.setTop (mkF m 0 #[sR o, sR b, uU, uU, uU, uU, uU] []))
  refine OwnGo.pre (fun t k => XS.aloadN X0.here hx rfl (hb hby d5_0) rfl rfl k) ?_
  show OwnGo _ _ _ _ (s₁.setTop (mkF m 1 #[sR o, sR b, uU, uU, uU, uU, uU] [(.ref o)]))
  obtain ⟨T24, X24, e24, st24⟩ := initO X0 hx hZ hown (hw _ (List.mem_of_getElem? (i := 32) rfl)) (hw _ (List.mem_of_getElem? (i := 22) rfl)) (hw _ (List.mem_of_getElem? (i := 23) rfl)) e0 (g := (mkF m 1 #[sR o, sR b, uU, uU, uU, uU, uU] [(.ref o)])) rfl (by rw [hml]; rfl) rfl (hb hby d5_1) (by decide) (W := 0) (by show 2 * 0 + _ ≤ _; exact Nat.le_of_eq rfl) (by decide)
  refine OwnGo.pre (fun t k => st24 t k) ?_
  show OwnGo _ _ _ _ (T24.setTop (mkF m 4 #[sR o, sR b, uU, uU, uU, uU, uU] []))
  obtain ⟨T25, X25, e25, st25⟩ := getS X24 hx hZ (host := "") hown (hw _ (List.mem_of_getElem? (i := 33) rfl)) Via.refl e24 (S.ext O.2) (g := (mkF m 4 #[sR o, sR b, uU, uU, uU, uU, uU] [])) rfl (hb hby d5_4)
  refine OwnGo.pre (fun t k => st25 t k) ?_
  show OwnGo _ _ _ _ (T25.setTop (mkF m 7 #[sR o, sR b, uU, uU, uU, uU, uU] [(.ref th)]))
  have lenT : ∀ t, Steps p.tables e below (T25.setTop (mkF m 8 #[sR o, sR b, uU, uU, uU, uU, uU] [(.int (101 : Int32))])) t → Steps p.tables e below (T25.setTop (mkF m 7 #[sR o, sR b, uU, uU, uU, uU, uU] [(.ref th)])) t := fun t k => X25.arraylength hx (cell := tc) (ty := .double) (by rw [e25]; exact (At.ext O.2).1) (State.isArrayOf_alike hZ.alike At.2.1) (g := (mkF m 7 #[sR o, sR b, uU, uU, uU, uU, uU] [(.ref th)])) rfl rfl (hb hby d5_7) t (by rw [tl]; exact k)
  refine OwnGo.pre (fun t k => lenT t k) ?_
  show OwnGo _ _ _ _ (T25.setTop (mkF m 8 #[sR o, sR b, uU, uU, uU, uU, uU] [(.int (101 : Int32))]))
  refine OwnGo.pre (fun t k => XS.iconst X25.here hx rfl (hb hby d5_8) (own_iadd X25.here hx rfl (hb hby d5_9) rfl (v := (102 : Int32)) (by decide) (XS.istoreN X25.here hx rfl (hb hby d5_10) rfl (l' := #[sR o, sR b, sI (102 : Int32), uU, uU, uU, uU]) rfl (XS.aloadN X25.here hx rfl (hb hby d5_11) rfl rfl (XS.iloadN X25.here hx rfl (hb hby d5_12) rfl k))))) ?_
  show OwnGo _ _ _ _ (T25.setTop (mkF m 13 #[sR o, sR b, sI (102 : Int32), uU, uU, uU, uU] [(.int (102 : Int32)), (.ref o)]))
  obtain ⟨T26, h26, X26, e26, E26, A26, st26⟩ := own_newD X25 hx hZ (hw _ (List.mem_of_getElem? (i := 35) rfl)) e25 (g := (mkF m 13 #[sR o, sR b, sI (102 : Int32), uU, uU, uU, uU] [(.int (102 : Int32)), (.ref o)])) rfl (hb hby d5_13) rfl (by decide) (n := 102) (by decide) (by decide) (by decide) (by decide)
  obtain ⟨a26, g26⟩ : ∃ z, z = h0.size := ⟨_, rfl⟩
  rw [← g26] at A26 st26
  have G26 : n0 ≤ a26 := Nat.le_trans Z0 (Nat.le_of_eq g26.symm)
  have Z26 : n0 ≤ h26.size := Nat.le_trans Z0 E26.1
  have A26n : OwnDA Z h26 a26 [0, 0, 0, 0, 0, 0, 0, 0, 0, 0, 0, 0, 0, 0, 0, 0, 0, 0, 0, 0, 0, 0, 0, 0, 0, 0, 0, 0, 0, 0, 0, 0, 0, 0, 0, 0, 0, 0, 0, 0, 0, 0, 0, 0, 0, 0, 0, 0, 0, 0, 0, 0, 0, 0, 0, 0, 0, 0, 0, 0, 0, 0, 0, 0, 0, 0, 0, 0, 0, 0, 0, 0, 0, 0, 0, 0, 0, 0, 0, 0, 0, 0, 0, 0, 0, 0, 0, 0, 0, 0, 0, 0, 0, 0, 0, 0, 0, 0, 0, 0, 0, 0] := A26
  refine OwnGo.pre (fun t k => st26 t k) ?_
  show OwnGo _ _ _ _ (T26.setTop (mkF m 15 #[sR o, sR b, sI (102 : Int32), uU, uU, uU, uU] [(.ref a26), (.ref o)]))
  have E1 := E.ext E26
  have F01 := F0.ext E26
  have F11 := F1.ext E26
  have Fm1 := Fm.ext E26
  have Fs1 := Fs.ext E26
  have Eb1 := Eb.ext E26
  have nr : a26 ≠ o := (Nat.ne_of_gt (Nat.lt_of_lt_of_le E.lt (Nat.le_of_eq g26.symm)))
  obtain ⟨T27, h27, X27, e27, W27, st27⟩ := putF X26 hx hZ hown (host := "") (Or.inl (hw _ (List.mem_of_getElem? (i := 36) rfl))) Via.refl e26 F01 E1 (Or.inr ⟨(hw _ (List.mem_of_getElem? (i := 37) rfl)), rfl, hnm⟩) (hw _ (List.mem_of_getElem? (i := 1) rfl)) (ty := (.array .double)) (by decide) rfl rfl (g := (mkF m 15 #[sR o, sR b, sI (102 : Int32), uU, uU, uU, uU] [(.ref a26), (.ref o)])) rfl rfl (hb hby d5_15)
  have N27 := Fr.snoc X27 N0 g
  refine OwnGo.pre (fun t k => st27 t k) ?_
  show OwnGo _ _ _ _ (T27.setTop (mkF m 18 #[sR o, sR b, sI (102 : Int32), uU, uU, uU, uU] []))
  have E2 := E1.wr W27
  have F02 := F01.same W27
  have F12 := F11.other W27 (Or.inr (slot_ne (Or.inr (hw _ (List.mem_of_getElem? (i := 39) rfl))) (Or.inr (hw _ (List.mem_of_getElem? (i := 37) rfl))) (by decide) (t := (.array .double)) (by decide) (t' := (.array .double)) (by decide)))
  have Fm2 := Fm1.other W27 (Or.inl nbo)
  have Fs2 := Fs1.other W27 (Or.inl nbo)
  have Eb2 := Eb1.wr W27
  have R2 := A26.ot W27 nr
  have Zp27 : n0 ≤ h27.size := by rw [W27.size]; exact Z26
  refine OwnGo.pre (fun t k => XS.aloadN X27.here hx rfl (hb hby d5_18) rfl rfl (XS.iloadN X27.here hx rfl (hb hby d5_19) rfl k)) ?_
  show OwnGo _ _ _ _ (T27.setTop (mkF m 20 #[sR o, sR b, sI (102 : Int32), uU, uU, uU, uU] [(.int (102 : Int32)), (.ref o)]))
  obtain ⟨T28, h28, X28, e28, E28, A28, st28⟩ := own_newD X27 hx hZ (hw _ (List.mem_of_getElem? (i := 35) rfl)) e27 (g := (mkF m 20 #[sR o, sR b, sI (102 : Int32), uU, uU, uU, uU] [(.int (102 : Int32)), (.ref o)])) rfl (hb hby d5_20) rfl (by decide) (n := 102) (by decide) (by decide) (by decide) (by decide)
  obtain ⟨a28, g28⟩ : ∃ z, z = h27.size := ⟨_, rfl⟩
  rw [← g28] at A28 st28
  have G28 : n0 ≤ a28 := Nat.le_trans Zp27 (Nat.le_of_eq g28.symm)
  have Z28 : n0 ≤ h28.size := Nat.le_trans Zp27 E28.1
  have A28n : OwnDA Z h28 a28 [0, 0, 0, 0, 0, 0, 0, 0, 0, 0, 0, 0, 0, 0, 0, 0, 0, 0, 0, 0, 0, 0, 0, 0, 0, 0, 0, 0, 0, 0, 0, 0, 0, 0, 0, 0, 0, 0, 0, 0, 0, 0, 0, 0, 0, 0, 0, 0, 0, 0, 0, 0, 0, 0, 0, 0, 0, 0, 0, 0, 0, 0, 0, 0, 0, 0, 0, 0, 0, 0, 0, 0, 0, 0, 0, 0, 0, 0, 0, 0, 0, 0, 0, 0, 0, 0, 0, 0, 0, 0, 0, 0, 0, 0, 0, 0, 0, 0, 0, 0, 0, 0] := A28
  refine OwnGo.pre (fun t k => st28 t k) ?_
  show OwnGo _ _ _ _ (T28.setTop (mkF m 22 #[sR o, sR b, sI (102 : Int32), uU, uU, uU, uU] [(.ref a28), (.ref o)]))
  have E3 := E2.ext E28
  have F03 := F02.ext E28
  have F13 := F12.ext E28
  have Fm3 := Fm2.ext E28
  have Fs3 := Fs2.ext E28
  have Eb3 := Eb2.ext E28
  have R3 := R2.ex E28
  have np : a28 ≠ o := (Nat.ne_of_gt (Nat.lt_of_lt_of_le E2.lt (Nat.le_of_eq g28.symm)))
  have nrp : a26 ≠ a28 := (Nat.ne_of_lt (Nat.lt_of_lt_of_le R2.lt (Nat.le_of_eq g28.symm)))
  obtain ⟨T29, h29, X29, e29, W29, st29⟩ := putF X28 hx hZ hown (host := "") (Or.inl (hw _ (List.mem_of_getElem? (i := 38) rfl))) Via.refl e28 F13 E3 (Or.inr ⟨(hw _ (List.mem_of_getElem? (i := 39) rfl)), rfl, hnm⟩) (hw _ (List.mem_of_getElem? (i := 1) rfl)) (ty := (.array .double)) (by decide) rfl rfl (g := (mkF m 22 #[sR o, sR b, sI (102 : Int32), uU, uU, uU, uU] [(.ref a28), (.ref o)])) rfl rfl (hb hby d5_22)
  have N29 := Fr.snoc X29 N27 g
  refine OwnGo.pre (fun t k => st29 t k) ?_
  show OwnGo _ _ _ _ (T29.setTop (mkF m 25 #[sR o, sR b, sI (102 : Int32), uU, uU, uU, uU] []))
  have E4 := E3.wr W29
  have F14 := F13.same W29
  have F04 := F03.other W29 (Or.inr (slot_ne (Or.inr (hw _ (List.mem_of_getElem? (i := 37) rfl))) (Or.inr (hw _ (List.mem_of_getElem? (i := 39) rfl))) (by decide) (t := (.array .double)) (by decide) (t' := (.array .double)) (by decide)))
  have Fm4 := Fm3.other W29 (Or.inl nbo)
  have Fs4 := Fs3.other W29 (Or.inl nbo)
  have Eb4 := Eb3.wr W29
  have R4 := R3.ot W29 nr
  have P4 := A28.ot W29 np
  have Zp29 : n0 ≤ h29.size := by rw [W29.size]; exact Z28
  have nbr : b ≠ a26 := (Nat.ne_of_lt (Nat.lt_of_lt_of_le Fm.lt (Nat.le_of_eq g26.symm)))
  have nbp : b ≠ a28 := (Nat.ne_of_lt (Nat.lt_of_lt_of_le Fm2.lt (Nat.le_of_eq g28.symm)))
  refine OwnGo.pre (fun t k => XS.aloadN X29.here hx rfl (hb hby d5_25) rfl rfl k) ?_
  show OwnGo _ _ _ _ (T29.setTop (mkF m 26 #[sR o, sR b, sI (102 : Int32), uU, uU, uU, uU] [(.ref o)]))
  obtain ⟨T30, X30, e30, st30⟩ := getF X29 hx hZ hown (host := "") (Or.inl (hw _ (List.mem_of_getElem? (i := 36) rfl))) Via.refl e29 F04 (g := (mkF m 26 #[sR o, sR b, sI (102 : Int32), uU, uU, uU, uU] [(.ref o)])) rfl rfl (hb hby d5_26)
  refine OwnGo.pre (fun t k => st30 t k) ?_
  show OwnGo _ _ _ _ (T30.setTop (mkF m 29 #[sR o, sR b, sI (102 : Int32), uU, uU, uU, uU] [(.ref a26)]))
  refine OwnGo.pre (fun t k => XS.iconst X30.here hx rfl (hb hby d5_29) (XS.dconst0 X30.here hx rfl (hb hby d5_30) rfl k)) ?_
  show OwnGo _ _ _ _ (T30.setTop (mkF m 31 #[sR o, sR b, sI (102 : Int32), uU, uU, uU, uU] [(.double (0 : UInt64)), (.int (0 : Int32)), (.ref a26)]))
  obtain ⟨T31, h31, X31, e31, W31, A31, st31⟩ := own_daS X30 hx hZ e30 R4 (by decide) (i := 0) (by decide) (by decide) (g := (mkF m 31 #[sR o, sR b, sI (102 : Int32), uU, uU, uU, uU] [(.double (0 : UInt64)), (.int (0 : Int32)), (.ref a26)])) rfl rfl (hb hby d5_31)
  have N31 := Fr.snoc X31 N29 G26
  have Z31 : n0 ≤ h31.size := by rw [W31.size]; exact Zp29
  refine OwnGo.pre (fun t k => st31 t k) ?_
  show OwnGo _ _ _ _ (T31.setTop (mkF m 32 #[sR o, sR b, sI (102 : Int32), uU, uU, uU, uU] []))
  have E5 := E4.wr W31
  have F05 := F04.other W31 (Or.inl nr.symm)
  have F15 := F14.other W31 (Or.inl nr.symm)
  have Fm5 := Fm4.other W31 (Or.inl nbr)
  have Fs5 := Fs4.other W31 (Or.inl nbr)
  have Eb5 := Eb4.wr W31
  have R5 := A31
  have P5 := P4.ot W31 nrp.symm
  refine OwnGo.pre (fun t k => XS.aloadN X31.here hx rfl (hb hby d5_32) rfl rfl k) ?_
  show OwnGo _ _ _ _ (T31.setTop (mkF m 33 #[sR o, sR b, sI (102 : Int32), uU, uU, uU, uU] [(.ref o)]))
  obtain ⟨T32, X32, e32, st32⟩ := getF X31 hx hZ hown (host := "") (Or.inl (hw _ (List.mem_of_getElem? (i := 38) rfl))) Via.refl e31 F15 (g := (mkF m 33 #[sR o, sR b, sI (102 : Int32), uU, uU, uU, uU] [(.ref o)])) rfl rfl (hb hby d5_33)
  refine OwnGo.pre (fun t k => st32 t k) ?_
  show OwnGo _ _ _ _ (T32.setTop (mkF m 36 #[sR o, sR b, sI (102 : Int32), uU, uU, uU, uU] [(.ref a28)]))
  refine OwnGo.pre (fun t k => XS.iconst X32.here hx rfl (hb hby d5_36) (XS.dconst1 X32.here hx rfl (hb hby d5_37) rfl k)) ?_
  show OwnGo _ _ _ _ (T32.setTop (mkF m 38 #[sR o, sR b, sI (102 : Int32), uU, uU, uU, uU] [(.double (4607182418800017408 : UInt64)), (.int (0 : Int32)), (.ref a28)]))
  obtain ⟨T33, h33, X33, e33, W33, A33, st33⟩ := own_daS X32 hx hZ e32 P5 (by decide) (i := 0) (by decide) (by decide) (g := (mkF m 38 #[sR o, sR b, sI (102 : Int32), uU, uU, uU, uU] [(.double (4607182418800017408 : UInt64)), (.int (0 : Int32)), (.ref a28)])) rfl rfl (hb hby d5_38)
  have N33 := Fr.snoc X33 N31 G28
  have Z33 : n0 ≤ h33.size := by rw [W33.size]; exact Z31
  refine OwnGo.pre (fun t k => st33 t k) ?_
  show OwnGo _ _ _ _ (T33.setTop (mkF m 39 #[sR o, sR b, sI (102 : Int32), uU, uU, uU, uU] []))
  have E6 := E5.wr W33
  have F06 := F05.other W33 (Or.inl np.symm)
  have F16 := F15.other W33 (Or.inl np.symm)
  have Fm6 := Fm5.other W33 (Or.inl nbp)
  have Fs6 := Fs5.other W33 (Or.inl nbp)
  have Eb6 := Eb5.wr W33
  have R6 := R5.ot W33 nrp
  have P6 := A33
  refine OwnGo.pre (fun t k => XS.iconst X33.here hx rfl (hb hby d5_39) (XS.istoreN X33.here hx rfl (hb hby d5_40) rfl (l' := #[sR o, sR b, sI (102 : Int32), sI (1 : Int32), uU, uU, uU]) rfl k)) ?_
  show OwnGo _ _ _ _ (T33.setTop (mkF m 41 #[sR o, sR b, sI (102 : Int32), sI (1 : Int32), uU, uU, uU] []))
  rw [← e33] at E6 F06 F16 Fm6 Fs6 Eb6 R6 P6 Z33
  have K134 : ∀ (r : Nat) (T : State) (locs : List Loc) (cells slots : Nat) (v3 : Int32) (t4 t5 : Addr) (Rl Pl : List UInt64), r ≤ 101 → v3.toInt = (r : Int) - 1 → Stand p l e ({ frames := 3, cells := 204, slots := 911, locals := 40 } : Room) s m #[(.ref o), (.ref b)] below meth c T locs cells slots → Fr n0 locs → cells ≤ 204 → slots ≤ 911 → n0 ≤ T.heap.size → Exa Z T.heap o "com/example/clausewright/clausewright/scoring/Curve" → Fld Z T.heap o "com/example/clausewright/clausewright/scoring/Curve" "recalls" "[D" (.ref a26) → Fld Z T.heap o "com/example/clausewright/clausewright/scoring/Curve" "precisions" "[D" (.ref a28) → OwnDA Z T.heap a26 Rl → OwnDA Z T.heap a28 Pl → Rl.length = 102 → Pl.length = 102 → Rl[0]? = some 0 → (∀ j : Nat, 1 ≤ j → j < 102 → Rl[j]? = some 9221120237041090560) → Pl[0]? = some 4607182418800017408 → (∀ j : Nat, 1 ≤ j → j < r → Pl[j]? = some 9221120237041090560) → (Pl[r]? = some 9221120237041090560 ∨ Pl[r]? = some 0 ∨ r = 0) → OwnGo p.tables e below (OwnEnd s (Q_rmCu Z o b th tc h0 n0) ({ frames := 3, cells := 204, slots := 911, locals := 40 } : Room).cells ({ frames := 3, cells := 204, slots := 911, locals := 40 } : Room).slots) (T.setTop (mkF m 134 #[sR o, sR b, sI (102 : Int32), sI v3, sR t4, sR t5, uU] [])) := by
    intro r
    induction r with
    | zero =>
      intro T locs cells slots v3 t4 t5 Rl Pl hr hv3 X N hcc hss hz0 EO F0 F1 AR AP lR lP R0 RN P0 PN PR
      show OwnGo _ _ _ _ (T.setTop (mkF m 134 #[sR o, sR b, sI (102 : Int32), sI v3, sR t4, sR t5, uU] []))
      refine OwnGo.pre (fun t k => XS.iloadN X.here hx rfl (hb hby d5_134) rfl (XS.ifYes X.here hx rfl (pc0 := 135) (pc' := 173) rfl (hb hby d5_135) rfl ((own_br0 .lt _).trans (decide_eq_true (by omega))) (by decide) (by decide) k)) ?_
      show OwnGo _ _ _ _ (T.setTop (mkF m 173 #[sR o, sR b, sI (102 : Int32), sI v3, sR t4, sR t5, uU] []))
      exact own_ret0 X hx hk hrt (hb hby d5_173) ⟨_, _, Rl, Pl, rfl, N, hz0, EO, F0, F1, AR, AP, lR, lP, R0, RN, P0⟩ (by show cells ≤ 204; omega) (by show slots ≤ 911; omega)
    | succ r ih =>
      intro T locs cells slots v3 t4 t5 Rl Pl hr hv3 X N hcc hss hz0 EO F0 F1 AR AP lR lP R0 RN P0 PN PR
      have hrl : r < Pl.length := own_k1 hr lP
      obtain ⟨hneg, hcl⟩ := own_nat32 (v := v3) (i := r) (own_k2 hv3)
      obtain ⟨ua, hua, za, hza⟩ : ∃ ua, Pl[r]? = some ua ∧ ∃ za, own_z ua = za ∧ ((za = 0 ∧ r ≠ 0) ∨ (za = 4607182418800017408 ∧ r = 0)) := by
        by_cases q : r = 0
        · subst q; exact ⟨_, P0, _, own_z1, Or.inr ⟨rfl, rfl⟩⟩
        · exact ⟨_, PN r (Nat.pos_of_ne_zero q) (Nat.lt_succ_self r), _, own_zN, Or.inl ⟨rfl, q⟩⟩
      obtain ⟨ub, hub, hzb⟩ : ∃ ub, Pl[r + 1]? = some ub ∧ own_z ub = 0 := by
        rcases PR with q | q | q
        · exact ⟨_, q, own_zN⟩
        · exact ⟨_, q, own_z0⟩
        · exact absurd q (Nat.succ_ne_zero r)
      show OwnGo _ _ _ _ (T.setTop (mkF m 134 #[sR o, sR b, sI (102 : Int32), sI v3, sR t4, sR t5, uU] []))
      refine OwnGo.pre (fun t k => XS.iloadN X.here hx rfl (hb hby d5_134) rfl (XS.ifNo X.here hx rfl (hb hby d5_135) rfl ((own_br0 .lt _).trans (decide_eq_false (own_k3 hv3))) (XS.aloadN X.here hx rfl (hb hby d5_138) rfl rfl k))) ?_
      show OwnGo _ _ _ _ (T.setTop (mkF m 139 #[sR o, sR b, sI (102 : Int32), sI v3, sR t4, sR t5, uU] [(.ref o)]))
      obtain ⟨T34, X34, e34, st34⟩ := getF X hx hZ hown (host := "") (Or.inl (hw _ (List.mem_of_getElem? (i := 38) rfl))) Via.refl rfl F1 (g := (mkF m 139 #[sR o, sR b, sI (102 : Int32), sI v3, sR t4, sR t5, uU] [(.ref o)])) rfl rfl (hb hby d5_139)
      refine OwnGo.pre (fun t k => st34 t k) ?_
      show OwnGo _ _ _ _ (T34.setTop (mkF m 142 #[sR o, sR b, sI (102 : Int32), sI v3, sR t4, sR t5, uU] [(.ref a28)]))
      refine OwnGo.pre (fun t k => XS.iloadN X34.here hx rfl (hb hby d5_142) rfl (XS.aloadN X34.here hx rfl (hb hby d5_143) rfl rfl k)) ?_
      show OwnGo _ _ _ _ (T34.setTop (mkF m 144 #[sR o, sR b, sI (102 : Int32), sI v3, sR t4, sR t5, uU] [(.ref o), (.int v3), (.ref a28)]))
      obtain ⟨T35, X35, e35, st35⟩ := getF X34 hx hZ hown (host := "") (Or.inl (hw _ (List.mem_of_getElem? (i := 38) rfl))) Via.refl e34 F1 (g := (mkF m 144 #[sR o, sR b, sI (102 : Int32), sI v3, sR t4, sR t5, uU] [(.ref o), (.int v3), (.ref a28)])) rfl rfl (hb hby d5_144)
      refine OwnGo.pre (fun t k => st35 t k) ?_
      show OwnGo _ _ _ _ (T35.setTop (mkF m 147 #[sR o, sR b, sI (102 : Int32), sI v3, sR t4, sR t5, uU] [(.ref a28), (.int v3), (.ref a28)]))
      refine OwnGo.pre (fun t k => XS.iloadN X35.here hx rfl (hb hby d5_147) rfl (own_daL X35 hx hZ e35 AP (j := v3) hneg hcl (x := ua) hua (g := (mkF m 148 #[sR o, sR b, sI (102 : Int32), sI v3, sR t4, sR t5, uU] [(.int v3), (.ref a28), (.int v3), (.ref a28)])) rfl (rest := [(.int v3), (.ref a28)]) rfl (hb hby d5_148) k)) ?_
      show OwnGo _ _ _ _ (T35.setTop (mkF m 149 #[sR o, sR b, sI (102 : Int32), sI v3, sR t4, sR t5, uU] [(.double ua), (.int v3), (.ref a28)]))
      obtain ⟨_, _, ⟨T36, L36, k36, n36⟩, -, X36, ⟨Lc36, hQ36, l36, y36, z36⟩, st36⟩ := Jvm.LawKit.callS X35 hx (y := (⟨"com/example/clausewright/clausewright/scoring/Curve", "zeroForNaN", "(D)D"⟩ : MethodName)) hown (mvT hZ (hw _ (List.mem_of_getElem? (i := 102) rfl))) (mvT hZ (hw _ (List.mem_of_getElem? (i := 103) rfl))) (mvT hZ (hw _ (List.mem_of_getElem? (i := 2) rfl))) (mvT hZ (hw _ (List.mem_of_getElem? (i := 104) rfl))) (by decide) (backOf (W := 2) (rmZ l Z a0 hw [] ua T.heap n0 hz0 ) hZ (hw _ (List.mem_of_getElem? (i := 104) rfl)) (hw _ (List.mem_of_getElem? (i := 2) rfl)) (by decide) (by decide)) (g := (mkF m 149 #[sR o, sR b, sI (102 : Int32), sI v3, sR t4, sR t5, uU] [(.double ua), (.int v3), (.ref a28)])) rfl (by rw [hml]; rfl) (argsL := [(.double ua)]) (rest := [(.int v3), (.ref a28)]) (lenOf pd_rmZ rfl) rfl (by show 2 * 0 + _ ≤ _; exact Nat.le_of_eq rfl) (hb hby d5_149) (fun _ _ => ⟨rfl, e35, (by show cells + 0 ≤ 204; exact hcc), (by show slots + 0 ≤ 911; exact hss)⟩)
      dsimp only [Pt.U, Pt.locs, Pt.cells, Pt.slots] at X36 l36 y36 z36 st36 hQ36
      subst l36
      first | rw [y36, z36] at X36 | rw [← y36, ← z36] at X36
      obtain ⟨ra, rfl, hra, N36, e36⟩ := hQ36
      refine OwnGo.pre (fun t k => st36 t k) ?_
      show OwnGo _ _ _ _ (T36.setTop (mkF m 152 #[sR o, sR b, sI (102 : Int32), sI v3, sR t4, sR t5, uU] [(.double ra), (.int v3), (.ref a28)]))
      have M36 := Fr.app N N36
      refine OwnGo.pre (fun t k => XS.aloadN X36.here hx rfl (hb hby d5_152) rfl rfl k) ?_
      show OwnGo _ _ _ _ (T36.setTop (mkF m 153 #[sR o, sR b, sI (102 : Int32), sI v3, sR t4, sR t5, uU] [(.ref o), (.double ra), (.int v3), (.ref a28)]))
      obtain ⟨T37, X37, e37, st37⟩ := getF X36 hx hZ hown (host := "") (Or.inl (hw _ (List.mem_of_getElem? (i := 38) rfl))) Via.refl e36 F1 (g := (mkF m 153 #[sR o, sR b, sI (102 : Int32), sI v3, sR t4, sR t5, uU] [(.ref o), (.double ra), (.int v3), (.ref a28)])) rfl rfl (hb hby d5_153)
      refine OwnGo.pre (fun t k => st37 t k) ?_
      show OwnGo _ _ _ _ (T37.setTop (mkF m 156 #[sR o, sR b, sI (102 : Int32), sI v3, sR t4, sR t5, uU] [(.ref a28), (.double ra), (.int v3), (.ref a28)]))
      obtain ⟨v4, hv4⟩ : ∃ v, v3 + (1 : Int32) = v := ⟨_, rfl⟩
      have hv4i : v4.toInt = ((r + 1 : Nat) : Int) := own_k4 hv3 hr hv4
      obtain ⟨hneg4, hcl4⟩ := own_nat32 hv4i
      refine OwnGo.pre (fun t k => XS.iloadN X37.here hx rfl (hb hby d5_156) rfl (XS.iconst X37.here hx rfl (hb hby d5_157) (own_iadd X37.here hx rfl (hb hby d5_158) rfl hv4 (own_daL X37 hx hZ e37 AP (j := v4) hneg4 hcl4 (x := ub) hub (g := (mkF m 159 #[sR o, sR b, sI (102 : Int32), sI v3, sR t4, sR t5, uU] [(.int v4), (.ref a28), (.double ra), (.int v3), (.ref a28)])) rfl (rest := [(.double ra), (.int v3), (.ref a28)]) rfl (hb hby d5_159) k)))) ?_
      show OwnGo _ _ _ _ (T37.setTop (mkF m 160 #[sR o, sR b, sI (102 : Int32), sI v3, sR t4, sR t5, uU] [(.double ub), (.double ra), (.int v3), (.ref a28)]))
      obtain ⟨_, _, ⟨T38, L38, k38, n38⟩, -, X38, ⟨Lc38, hQ38, l38, y38, z38⟩, st38⟩ := Jvm.LawKit.callS X37 hx (y := (⟨"com/example/clausewright/clausewright/scoring/Curve", "zeroForNaN", "(D)D"⟩ : MethodName)) hown (mvT hZ (hw _ (List.mem_of_getElem? (i := 102) rfl))) (mvT hZ (hw _ (List.mem_of_getElem? (i := 103) rfl))) (mvT hZ (hw _ (List.mem_of_getElem? (i := 2) rfl))) (mvT hZ (hw _ (List.mem_of_getElem? (i := 104) rfl))) (by decide) (backOf (W := 4) (rmZ l Z a0 hw [] ub T.heap n0 hz0 ) hZ (hw _ (List.mem_of_getElem? (i := 104) rfl)) (hw _ (List.mem_of_getElem? (i := 2) rfl)) (by decide) (by decide)) (g := (mkF m 160 #[sR o, sR b, sI (102 : Int32), sI v3, sR t4, sR t5, uU] [(.double ub), (.double ra), (.int v3), (.ref a28)])) rfl (by rw [hml]; rfl) (argsL := [(.double ub)]) (rest := [(.double ra), (.int v3), (.ref a28)]) (lenOf pd_rmZ rfl) rfl (by show 2 * 0 + _ ≤ _; exact Nat.le_of_eq rfl) (hb hby d5_160) (fun _ _ => ⟨rfl, e37, (by show cells + 0 + 0 ≤ 204; exact hcc), (by show slots + 0 + 0 ≤ 911; exact hss)⟩)
      dsimp only [Pt.U, Pt.locs, Pt.cells, Pt.slots] at X38 l38 y38 z38 st38 hQ38
      subst l38
      first | rw [y38, z38] at X38 | rw [← y38, ← z38] at X38
      obtain ⟨rb, rfl, hrb, N38, e38⟩ := hQ38
      refine OwnGo.pre (fun t k => st38 t k) ?_
      show OwnGo _ _ _ _ (T38.setTop (mkF m 163 #[sR o, sR b, sI (102 : Int32), sI v3, sR t4, sR t5, uU] [(.double rb), (.double ra), (.int v3), (.ref a28)]))
      have M38 := Fr.app M36 N38
      obtain rfl : rb = 0 := hrb.trans hzb
      obtain rfl : ra = za := hra.trans hza.1
      have hmx : Jvm.Native.java_lang_Math.nans.pick64 true ra 0 = ra ∧ Jvm.Free.Fl.NoNaN64 ra := by rcases hza.2 with ⟨q, -⟩ | ⟨q, -⟩ <;> rw [q] <;> exact ⟨by decide +kernel, by first | exact own_n0 | exact own_n1⟩
      show OwnGo _ _ _ _ (T38.setTop (mkF m 163 #[sR o, sR b, sI (102 : Int32), sI v3, sR t4, sR t5, uU] [(.double 0), (.double ra), (.int v3), (.ref a28)]))
      obtain ⟨T39, X39, e39, st39⟩ := natS X38 hx hZ (y := (⟨"java/lang/Math", "max", "(DD)D"⟩ : MethodName)) hown (hw _ (List.mem_of_getElem? (i := 109) rfl)) (hw _ (List.mem_of_getElem? (i := 110) rfl)) (hw _ (List.mem_of_getElem? (i := 111) rfl)) (hw _ (List.mem_of_getElem? (i := 112) rfl)) (by decide) e38 (W := 2) (F := (fun a' => a' = #[.double ra, .double 0] ∧ Jvm.Free.Fl.NoNaN64 ra ∧ Jvm.Free.Fl.NoNaN64 0)) (val := (.double (Jvm.Native.java_lang_Math.nans.pick64 true ra 0))) (val' := (.double ra)) (fun c4 => Jvm.Free.Fl.Abs.maxD_pays ra 0 c4 (by decide) (by decide)) (g := (mkF m 163 #[sR o, sR b, sI (102 : Int32), sI v3, sR t4, sR t5, uU] [(.double 0), (.double ra), (.int v3), (.ref a28)])) rfl (by rw [hml]; rfl) (argsL := [(.double ra), (.double 0)]) (rest := [(.int v3), (.ref a28)]) (lenOf pd_maxD rfl) rfl (by show 2 * 0 + _ ≤ _; exact Nat.le_of_eq rfl) (hb hby d5_163) (by show cells + 0 + 0 ≤ 204; exact hcc) (by show slots + 0 + 0 ≤ 911; exact hss) ⟨rfl, hmx.2, own_n0⟩ (by rw [hmx.1])
      refine OwnGo.pre (fun t k => st39 t k) ?_
      show OwnGo _ _ _ _ (T39.setTop (mkF m 166 #[sR o, sR b, sI (102 : Int32), sI v3, sR t4, sR t5, uU] [(.double ra), (.int v3), (.ref a28)]))
      obtain ⟨T40, h40, X40, e40, W40, A40, st40⟩ := own_daS X39 hx hZ e39 AP hneg (i := r) hcl hrl (g := (mkF m 166 #[sR o, sR b, sI (102 : Int32), sI v3, sR t4, sR t5, uU] [(.double ra), (.int v3), (.ref a28)])) rfl rfl (hb hby d5_166)
      have N40 := Fr.snoc X40 M38 G28
      have Z40 : n0 ≤ h40.size := by rw [W40.size]; exact hz0
      refine OwnGo.pre (fun t k => st40 t k) ?_
      show OwnGo _ _ _ _ (T40.setTop (mkF m 167 #[sR o, sR b, sI (102 : Int32), sI v3, sR t4, sR t5, uU] []))
      have v5i : (v3 + Int32.ofInt (-1)).toInt = (r : Int) - 1 := own_k5 hv3 hr
      refine OwnGo.pre (fun t k => XS.iinc X40.here hx rfl (hb hby d5_167) rfl (l' := #[sR o, sR b, sI (102 : Int32), sI (v3 + Int32.ofInt (-1)), sR t4, sR t5, uU]) rfl (XS.goto X40.here hx rfl (pc0 := 170) (pc' := 134) rfl (hb hby d5_170) (by decide) (by decide) k)) ?_
      show OwnGo _ _ _ _ (T40.setTop (mkF m 134 #[sR o, sR b, sI (102 : Int32), sI (v3 + Int32.ofInt (-1)), sR t4, sR t5, uU] []))
      rw [← e40] at A40 Z40
      have EO2 := EO.wr W40
      have F02 := F0.other W40 (Or.inl np.symm)
      have F12 := F1.other W40 (Or.inl np.symm)
      have AR2 := AR.ot W40 nrp
      rw [← e40] at EO2 F02 F12 AR2
      refine ih _ _ _ _ _ t4 t5 Rl (Pl.set r ra) (Nat.le_of_succ_le hr) v5i X40 N40 (by show cells + 0 + 0 ≤ 204; exact hcc) (by show slots + 0 + 0 ≤ 911; exact hss) Z40 EO2 F02 F12 AR2 A40 lR (by rw [List.length_set]; exact lP) R0 RN ?_ ?_ ?_
      · by_cases q : r = 0
        · subst q; rw [own_setS hrl]; rcases hza.2 with ⟨-, q⟩ | ⟨q, -⟩
          · exact absurd rfl q
          · rw [q]
        · rw [own_setL (fun h => q h.symm)]; exact P0
      · intro j h1 h2; rw [own_setL (Nat.ne_of_lt h2)]; exact PN j h1 (Nat.lt_succ_of_lt h2)
      · by_cases q : r = 0
        · exact Or.inr (Or.inr q)
        · rcases hza.2 with ⟨q1, -⟩ | ⟨-, q1⟩
          · rw [own_setS hrl, q1]; exact Or.inr (Or.inl rfl)
          · exact absurd q1 q
  have K41 : ∀ (r : Nat) (i : Nat) (T : State) (locs : List Loc) (cells slots : Nat) (v3 : Int32) (t4 t5 : Addr) (Rl Pl : List UInt64), i + r = 102 → 2 ≤ i → v3.toInt = (i : Int) → Stand p l e ({ frames := 3, cells := 204, slots := 911, locals := 40 } : Room) s m #[(.ref o), (.ref b)] below meth c T locs cells slots → Fr n0 locs → cells ≤ 2 * i → slots ≤ 204 + 7 * (i - 1) → n0 ≤ T.heap.size → Exa Z T.heap o "com/example/clausewright/clausewright/scoring/Curve" → Fld Z T.heap o "com/example/clausewright/clausewright/scoring/Curve" "recalls" "[D" (.ref a26) → Fld Z T.heap o "com/example/clausewright/clausewright/scoring/Curve" "precisions" "[D" (.ref a28) → Fld Z T.heap b "java/util/AbstractList" "modCount" "I" (.int 0) → Fld Z T.heap b "java/util/ArrayList" "size" "I" (.int 0) → Exa Z T.heap b "java/util/ArrayList" → OwnDA Z T.heap a26 Rl → OwnDA Z T.heap a28 Pl → Rl.length = 102 → Pl.length = 102 → Rl[0]? = some 0 → (∀ j : Nat, 1 ≤ j → j < i → Rl[j]? = some 9221120237041090560) → Pl[0]? = some 4607182418800017408 → (∀ j : Nat, 1 ≤ j → j < i → Pl[j]? = some 9221120237041090560) → a28 < T.heap.size → OwnGo p.tables e below (OwnEnd s (Q_rmCu Z o b th tc h0 n0) ({ frames := 3, cells := 204, slots := 911, locals := 40 } : Room).cells ({ frames := 3, cells := 204, slots := 911, locals := 40 } : Room).slots) (T.setTop (mkF m 41 #[sR o, sR b, sI (102 : Int32), sI v3, sR t4, sR t5, uU] [])) := by
    intro r
    induction r with
    | zero =>
      intro i T locs cells slots v3 t4 t5 Rl Pl hir hi2 hv3 X N hcc hss hz0 EO F0 F1 Fm Fs Eb ARf APf lR lP R0 RN P0 PN hap
      obtain rfl : i = 102 := by omega
      have c102 : (102 : Int32).toInt = 102 := rfl
      show OwnGo _ _ _ _ (T.setTop (mkF m 41 #[sR o, sR b, sI (102 : Int32), sI v3, sR t4, sR t5, uU] []))
      refine OwnGo.pre (fun t k => XS.iloadN X.here hx rfl (hb hby d5_41) rfl (XS.iloadN X.here hx rfl (hb hby d5_42) rfl (XS.icmpYes X.here hx rfl (pc0 := 43) (pc' := 130) rfl (hb hby d5_43) rfl ((own_br2 .ge _ _).trans (decide_eq_true (by omega))) (by decide) (by decide) (XS.iloadN X.here hx rfl (hb hby d5_130) rfl (XS.iconst X.here hx rfl (hb hby d5_131) (own_isub X.here hx rfl (hb hby d5_132) rfl (v := (100 : Int32)) (by decide) (XS.istoreN X.here hx rfl (hb hby d5_133) rfl (l' := #[sR o, sR b, sI (102 : Int32), sI (100 : Int32), sR t4, sR t5, uU]) rfl k))))))) ?_
      show OwnGo _ _ _ _ (T.setTop (mkF m 134 #[sR o, sR b, sI (102 : Int32), sI (100 : Int32), sR t4, sR t5, uU] []))
      exact K134 101 _ _ _ _ _ t4 t5 Rl Pl (by omega) (by decide) X N (by omega) (by omega) hz0 EO F0 F1 ARf APf lR lP R0 RN P0 (fun j h1 h2 => PN j h1 (by omega)) (Or.inl (PN 101 (by omega) (by omega)))
    | succ r ih =>
      intro i T locs cells slots v3 t4 t5 Rl Pl hir hi2 hv3 X N hcc hss hz0 EO F0 F1 Fm Fs Eb ARf APf lR lP R0 RN P0 PN hap
      obtain ⟨hneg, hcl⟩ := own_nat32 hv3
      have c102 : (102 : Int32).toInt = 102 := rfl
      show OwnGo _ _ _ _ (T.setTop (mkF m 41 #[sR o, sR b, sI (102 : Int32), sI v3, sR t4, sR t5, uU] []))
      refine OwnGo.pre (fun t k => XS.iloadN X.here hx rfl (hb hby d5_41) rfl (XS.iloadN X.here hx rfl (hb hby d5_42) rfl (XS.icmpNo X.here hx rfl (hb hby d5_43) rfl ((own_br2 .ge _ _).trans (decide_eq_false (by omega))) k))) ?_
      show OwnGo _ _ _ _ (T.setTop (mkF m 46 #[sR o, sR b, sI (102 : Int32), sI v3, sR t4, sR t5, uU] []))
      obtain ⟨T41, h41, X41, e41, E41, A41, D41, -, st41⟩ := newO X hx hZ hown (hw _ (List.mem_of_getElem? (i := 40) rfl)) (hw _ (List.mem_of_getElem? (i := 41) rfl)) (hw _ (List.mem_of_getElem? (i := 42) rfl)) rfl (g := (mkF m 46 #[sR o, sR b, sI (102 : Int32), sI v3, sR t4, sR t5, uU] [])) rfl (hb hby d5_46) (by show cells + 1 ≤ 204; omega) (by show slots + 3 ≤ 911; omega)
      obtain ⟨a41, g41⟩ : ∃ z, z = T.heap.size := ⟨_, rfl⟩
      rw [← g41] at A41 D41 st41
      have G41 : n0 ≤ a41 := Nat.le_trans hz0 (Nat.le_of_eq g41.symm)
      have Z41 : n0 ≤ h41.size := Nat.le_trans hz0 E41.1
      refine OwnGo.pre (fun t k => st41 t k) ?_
      show OwnGo _ _ _ _ (T41.setTop (mkF m 49 #[sR o, sR b, sI (102 : Int32), sI v3, sR t4, sR t5, uU] [(.ref a41)]))
      have F0x := F0.ext E41
      have F1x := F1.ext E41
      have Fmx := Fm.ext E41
      have Fsx := Fs.ext E41
      have EOx := EO.ext E41
      have Ebx := Eb.ext E41
      have ARx := ARf.ex E41
      have APx := APf.ex E41
      have tf0 := D41 (Or.inl (hw _ (List.mem_of_getElem? (i := 91) rfl))) (ty := .int) (by decide)
      have tf1 := D41 (Or.inl (hw _ (List.mem_of_getElem? (i := 101) rfl))) (ty := .int) (by decide)
      have tf2 := D41 (Or.inl (hw _ (List.mem_of_getElem? (i := 93) rfl))) (ty := .int) (by decide)
      refine OwnGo.pre (fun t k => XS.dup X41.here hx rfl (hb hby d5_49) rfl rfl k) ?_
      show OwnGo _ _ _ _ (T41.setTop (mkF m 50 #[sR o, sR b, sI (102 : Int32), sI v3, sR t4, sR t5, uU] [(.ref a41), (.ref a41)]))
      obtain ⟨_, _, ⟨T42, L42, k42, n42⟩, -, X42, ⟨Lc42, hQ42, l42, y42, z42⟩, st42⟩ := X41.specialBack hx (y := (⟨"com/example/clausewright/clausewright/scoring/Tally", "<init>", "()V"⟩ : MethodName)) rfl hown (mvT hZ (hw _ (List.mem_of_getElem? (i := 43) rfl))) (mvT hZ (hw _ (List.mem_of_getElem? (i := 44) rfl))) (mvT hZ (hw _ (List.mem_of_getElem? (i := 45) rfl))) (by decide) (backOf (W := 1) (rmTI l Z a0 hw [] a41 h41 n0 Z41 ) hZ (hw _ (List.mem_of_getElem? (i := 45) rfl)) (hw _ (List.mem_of_getElem? (i := 42) rfl)) (by decide) (by decide)) (g := (mkF m 50 #[sR o, sR b, sI (102 : Int32), sI v3, sR t4, sR t5, uU] [(.ref a41), (.ref a41)])) rfl (by rw [hml]; rfl) (Steps.refl _) (a := a41) (argsL := []) (rest := [(.ref a41)]) (lenOf pd_rmTI rfl) rfl (by show 2 * 0 + _ ≤ _; exact Nat.le_of_eq rfl) (hb hby d5_50) (fun _ _ => ⟨rfl, e41, (by show cells + 1 + 0 ≤ 204; omega), (by show slots + 3 + 0 ≤ 911; omega)⟩)
      dsimp only [Pt.U, Pt.locs, Pt.cells, Pt.slots] at X42 l42 y42 z42 st42 hQ42
      subst l42
      first | rw [y42, z42] at X42 | rw [← y42, ← z42] at X42
      obtain ⟨rfl, N42, e42⟩ := hQ42
      refine OwnGo.pre (fun t k => st42.trans k) ?_
      show OwnGo _ _ _ _ (T42.setTop (mkF m 53 #[sR o, sR b, sI (102 : Int32), sI v3, sR t4, sR t5, uU] [(.ref a41)]))
      have M42 := Fr.app N N42
      refine OwnGo.pre (fun t k => XS.astore X42.here hx rfl (hb hby d5_53) rfl rfl (l' := #[sR o, sR b, sI (102 : Int32), sI v3, sR a41, sR t5, uU]) rfl (XS.aloadN X42.here hx rfl (hb hby d5_55) rfl rfl k)) ?_
      show OwnGo _ _ _ _ (T42.setTop (mkF m 56 #[sR o, sR b, sI (102 : Int32), sI v3, sR a41, sR t5, uU] [(.ref b)]))
      obtain ⟨cq43, kq43, qa43, qb43, qc43⟩ := isOf hZ e42 Ebx
      obtain ⟨_, _, ⟨T43, L43, k43, n43⟩, -, X43, ⟨Lc43, hQ43, l43, y43, z43⟩, st43⟩ := X42.interfaceBack hx (xi := (⟨"java/util/List", "iterator", "()Ljava/util/Iterator;"⟩ : MethodName)) (y := (⟨"java/util/ArrayList", "iterator", "()Ljava/util/Iterator;"⟩ : MethodName)) hown (mvT hZ (hw _ (List.mem_of_getElem? (i := 47) rfl))) (mvT hZ (hw _ (List.mem_of_getElem? (i := 48) rfl))) (mvT hZ (hw _ (List.mem_of_getElem? (i := 49) rfl))) (mvT hZ (hw _ (List.mem_of_getElem? (i := 50) rfl))) (mvT hZ (hw _ (List.mem_of_getElem? (i := 51) rfl))) (mvT hZ (hw _ (List.mem_of_getElem? (i := 52) rfl))) (mvT hZ (hw _ (List.mem_of_getElem? (i := 53) rfl))) (mvT hZ (hw _ (List.mem_of_getElem? (i := 54) rfl))) (by decide) (backOf (W := 0) (rmIt l Z a0 hw [] b h41 n0 Z41 Fmx) hZ (hw _ (List.mem_of_getElem? (i := 55) rfl)) (hw _ (List.mem_of_getElem? (i := 5) rfl)) (by decide) (by decide)) qa43 qb43 qc43 (g := (mkF m 56 #[sR o, sR b, sI (102 : Int32), sI v3, sR a41, sR t5, uU] [(.ref b)])) rfl (by rw [hml]; rfl) (Steps.refl _) (argsL := []) (rest := []) (lenOf pd_rmIt rfl) rfl (by show 2 * 0 + _ ≤ _; exact Nat.le_of_eq rfl) (hb hby d5_56) (fun _ _ => ⟨rfl, e42, (by show cells + 1 + 0 + 1 ≤ 204; omega), (by show slots + 3 + 0 + 4 ≤ 911; omega)⟩)
      dsimp only [Pt.U, Pt.locs, Pt.cells, Pt.slots] at X43 l43 y43 z43 st43 hQ43
      subst l43
      first | rw [y43, z43] at X43 | rw [← y43, ← z43] at X43
      obtain ⟨ti41, rfl, N43, K43, Ei, Fci, Fti⟩ := hQ43
      refine OwnGo.pre (fun t k => st43.trans k) ?_
      show OwnGo _ _ _ _ (T43.setTop (mkF m 61 #[sR o, sR b, sI (102 : Int32), sI v3, sR a41, sR t5, uU] [(.ref ti41)]))
      have M43 := Fr.app M42 N43
      have Z43 : n0 ≤ T43.heap.size := Nat.le_trans Z41 K43.1
      have F0y := F0x.keep K43 nin0
      have F1y := F1x.keep K43 nin0
      have Fmy := Fmx.keep K43 nin0
      have Fsy := Fsx.keep K43 nin0
      have tg0 := tf0.keep K43 nin0
      have tg1 := tf1.keep K43 nin0
      have tg2 := tf2.keep K43 nin0
      have EOy := EOx.keep K43
      have Eby := Ebx.keep K43
      have ARy := ARx.kp K43 nin0
      have APy := APx.kp K43 nin0
      have Ety := A41.keep K43
      refine OwnGo.pre (fun t k => XS.astore X43.here hx rfl (hb hby d5_61) rfl rfl (l' := #[sR o, sR b, sI (102 : Int32), sI v3, sR a41, sR ti41, uU]) rfl (XS.aload X43.here hx rfl (hb hby d5_63) rfl rfl k)) ?_
      show OwnGo _ _ _ _ (T43.setTop (mkF m 65 #[sR o, sR b, sI (102 : Int32), sI v3, sR a41, sR ti41, uU] [(.ref ti41)]))
      obtain ⟨cq44, kq44, qa44, qb44, qc44⟩ := isOf hZ rfl Ei
      obtain ⟨_, _, ⟨T44, L44, k44, n44⟩, -, X44, ⟨Lc44, hQ44, l44, y44, z44⟩, st44⟩ := X43.interfaceBack hx (xi := (⟨"java/util/Iterator", "hasNext", "()Z"⟩ : MethodName)) (y := (⟨"java/util/ArrayList$Itr", "hasNext", "()Z"⟩ : MethodName)) hown (mvT hZ (hw _ (List.mem_of_getElem? (i := 72) rfl))) (mvT hZ (hw _ (List.mem_of_getElem? (i := 73) rfl))) (mvT hZ (hw _ (List.mem_of_getElem? (i := 74) rfl))) (mvT hZ (hw _ (List.mem_of_getElem? (i := 75) rfl))) (mvT hZ (hw _ (List.mem_of_getElem? (i := 76) rfl))) (mvT hZ (hw _ (List.mem_of_getElem? (i := 77) rfl))) (mvT hZ (hw _ (List.mem_of_getElem? (i := 78) rfl))) (mvT hZ (hw _ (List.mem_of_getElem? (i := 79) rfl))) (by decide) (backOf (W := 0) (rmHN l Z a0 hw [] ti41 b T43.heap n0 Z43 Fci Fti Fsy) hZ (hw _ (List.mem_of_getElem? (i := 80) rfl)) (hw _ (List.mem_of_getElem? (i := 58) rfl)) (by decide) (by decide)) qa44 qb44 qc44 (g := (mkF m 65 #[sR o, sR b, sI (102 : Int32), sI v3, sR a41, sR ti41, uU] [(.ref ti41)])) rfl (by rw [hml]; rfl) (Steps.refl _) (argsL := []) (rest := []) (lenOf pd_rmHN rfl) rfl (by show 2 * 0 + _ ≤ _; exact Nat.le_of_eq rfl) (hb hby d5_65) (fun _ _ => ⟨rfl, rfl, (by show cells + 1 + 0 + 1 + 0 ≤ 204; omega), (by show slots + 3 + 0 + 4 + 0 ≤ 911; omega)⟩)
      dsimp only [Pt.U, Pt.locs, Pt.cells, Pt.slots] at X44 l44 y44 z44 st44 hQ44
      subst l44
      first | rw [y44, z44] at X44 | rw [← y44, ← z44] at X44
      obtain ⟨rfl, N44, e44⟩ := hQ44
      refine OwnGo.pre (fun t k => st44.trans k) ?_
      show OwnGo _ _ _ _ (T44.setTop (mkF m 70 #[sR o, sR b, sI (102 : Int32), sI v3, sR a41, sR ti41, uU] [(.int (0 : Int32))]))
      have M44 := Fr.app M43 N44
      refine OwnGo.pre (fun t k => XS.ifYes X44.here hx rfl (pc0 := 70) (pc' := 102) rfl (hb hby d5_70) rfl (by decide) (by decide) (by decide) (XS.aloadN X44.here hx rfl (hb hby d5_102) rfl rfl k)) ?_
      show OwnGo _ _ _ _ (T44.setTop (mkF m 103 #[sR o, sR b, sI (102 : Int32), sI v3, sR a41, sR ti41, uU] [(.ref o)]))
      obtain ⟨T45, X45, e45, st45⟩ := getF X44 hx hZ hown (host := "") (Or.inl (hw _ (List.mem_of_getElem? (i := 36) rfl))) Via.refl e44 F0y (g := (mkF m 103 #[sR o, sR b, sI (102 : Int32), sI v3, sR a41, sR ti41, uU] [(.ref o)])) rfl rfl (hb hby d5_103)
      refine OwnGo.pre (fun t k => st45 t k) ?_
      show OwnGo _ _ _ _ (T45.setTop (mkF m 106 #[sR o, sR b, sI (102 : Int32), sI v3, sR a41, sR ti41, uU] [(.ref a26)]))
      refine OwnGo.pre (fun t k => XS.iloadN X45.here hx rfl (hb hby d5_106) rfl (XS.aload X45.here hx rfl (hb hby d5_107) rfl rfl k)) ?_
      show OwnGo _ _ _ _ (T45.setTop (mkF m 109 #[sR o, sR b, sI (102 : Int32), sI v3, sR a41, sR ti41, uU] [(.ref a41), (.int v3), (.ref a26)]))
      obtain ⟨cq46, kq46, qa46, qb46, qc46⟩ := isOf hZ e45 Ety
      obtain ⟨_, _, ⟨T46, L46, k46, n46⟩, -, X46, ⟨Lc46, hQ46, l46, y46, z46⟩, st46⟩ := X45.virtualBack hx (y := (⟨"com/example/clausewright/clausewright/scoring/Tally", "recall", "()D"⟩ : MethodName)) (z := (⟨"com/example/clausewright/clausewright/scoring/Tally", "recall", "()D"⟩ : MethodName)) hown (mvT hZ (hw _ (List.mem_of_getElem? (i := 85) rfl))) (mvT hZ (hw _ (List.mem_of_getElem? (i := 86) rfl))) (notFace_of_selects (args := #[]) (mvT hZ (hw _ (List.mem_of_getElem? (i := 88) rfl)))) (mvT hZ (hw _ (List.mem_of_getElem? (i := 88) rfl))) (mvT hZ (hw _ (List.mem_of_getElem? (i := 87) rfl))) (by decide) (backOf (W := 2) (rmRec l Z a0 hw [] a41 T43.heap n0 Z43 tg0 tg2) hZ (hw _ (List.mem_of_getElem? (i := 89) rfl)) (hw _ (List.mem_of_getElem? (i := 42) rfl)) (by decide) (by decide)) qa46 qc46 (g := (mkF m 109 #[sR o, sR b, sI (102 : Int32), sI v3, sR a41, sR ti41, uU] [(.ref a41), (.int v3), (.ref a26)])) rfl (by rw [hml]; rfl) (Steps.refl _) (argsL := []) (rest := [(.int v3), (.ref a26)]) (lenOf pd_rmRec rfl) rfl (by show 2 * 0 + _ ≤ _; exact Nat.le_of_eq rfl) (hb hby d5_109) (fun _ _ => ⟨rfl, e45, (by show cells + 1 + 0 + 1 + 0 + 0 ≤ 204; omega), (by show slots + 3 + 0 + 4 + 0 + 0 ≤ 911; omega)⟩)
      dsimp only [Pt.U, Pt.locs, Pt.cells, Pt.slots] at X46 l46 y46 z46 st46 hQ46
      subst l46
      first | rw [y46, z46] at X46 | rw [← y46, ← z46] at X46
      obtain ⟨rfl, N46, e46⟩ := hQ46
      refine OwnGo.pre (fun t k => st46.trans k) ?_
      show OwnGo _ _ _ _ (T46.setTop (mkF m 112 #[sR o, sR b, sI (102 : Int32), sI v3, sR a41, sR ti41, uU] [(.double 9221120237041090560), (.int v3), (.ref a26)]))
      have M46 := Fr.app M44 N46
      obtain ⟨T47, h47, X47, e47, W47, A47, st47⟩ := own_daS X46 hx hZ e46 ARy hneg (i := i) hcl (by omega) (g := (mkF m 112 #[sR o, sR b, sI (102 : Int32), sI v3, sR a41, sR ti41, uU] [(.double 9221120237041090560), (.int v3), (.ref a26)])) rfl rfl (hb hby d5_112)
      have N47 := Fr.snoc X47 M46 G26
      have Z47 : n0 ≤ h47.size := by rw [W47.size]; exact Z43
      refine OwnGo.pre (fun t k => st47 t k) ?_
      show OwnGo _ _ _ _ (T47.setTop (mkF m 113 #[sR o, sR b, sI (102 : Int32), sI v3, sR a41, sR ti41, uU] []))
      have ntr : a41 ≠ a26 := (Nat.ne_of_gt (Nat.lt_of_lt_of_le ARf.lt (Nat.le_of_eq g41.symm)))
      have ntp : a41 ≠ a28 := (Nat.ne_of_gt (Nat.lt_of_lt_of_le APf.lt (Nat.le_of_eq g41.symm)))
      have F0z := F0y.other W47 (Or.inl nr.symm)
      have F1z := F1y.other W47 (Or.inl nr.symm)
      have Fmz := Fmy.other W47 (Or.inl nbr)
      have Fsz := Fsy.other W47 (Or.inl nbr)
      have th0 := tg0.other W47 (Or.inl ntr)
      have th1 := tg1.other W47 (Or.inl ntr)
      have EOz := EOy.wr W47
      have Ebz := Eby.wr W47
      have Etz := Ety.wr W47
      have APz := APy.ot W47 nrp.symm
      refine OwnGo.pre (fun t k => XS.aloadN X47.here hx rfl (hb hby d5_113) rfl rfl k) ?_
      show OwnGo _ _ _ _ (T47.setTop (mkF m 114 #[sR o, sR b, sI (102 : Int32), sI v3, sR a41, sR ti41, uU] [(.ref o)]))
      obtain ⟨T48, X48, e48, st48⟩ := getF X47 hx hZ hown (host := "") (Or.inl (hw _ (List.mem_of_getElem? (i := 38) rfl))) Via.refl e47 F1z (g := (mkF m 114 #[sR o, sR b, sI (102 : Int32), sI v3, sR a41, sR ti41, uU] [(.ref o)])) rfl rfl (hb hby d5_114)
      refine OwnGo.pre (fun t k => st48 t k) ?_
      show OwnGo _ _ _ _ (T48.setTop (mkF m 117 #[sR o, sR b, sI (102 : Int32), sI v3, sR a41, sR ti41, uU] [(.ref a28)]))
      refine OwnGo.pre (fun t k => XS.iloadN X48.here hx rfl (hb hby d5_117) rfl (XS.aload X48.here hx rfl (hb hby d5_118) rfl rfl k)) ?_
      show OwnGo _ _ _ _ (T48.setTop (mkF m 120 #[sR o, sR b, sI (102 : Int32), sI v3, sR a41, sR ti41, uU] [(.ref a41), (.int v3), (.ref a28)]))
      obtain ⟨cq49, kq49, qa49, qb49, qc49⟩ := isOf hZ e48 Etz
      obtain ⟨_, _, ⟨T49, L49, k49, n49⟩, -, X49, ⟨Lc49, hQ49, l49, y49, z49⟩, st49⟩ := X48.virtualBack hx (y := (⟨"com/example/clausewright/clausewright/scoring/Tally", "precision", "()D"⟩ : MethodName)) (z := (⟨"com/example/clausewright/clausewright/scoring/Tally", "precision", "()D"⟩ : MethodName)) hown (mvT hZ (hw _ (List.mem_of_getElem? (i := 95) rfl))) (mvT hZ (hw _ (List.mem_of_getElem? (i := 96) rfl))) (notFace_of_selects (args := #[]) (mvT hZ (hw _ (List.mem_of_getElem? (i := 98) rfl)))) (mvT hZ (hw _ (List.mem_of_getElem? (i := 98) rfl))) (mvT hZ (hw _ (List.mem_of_getElem? (i := 97) rfl))) (by decide) (backOf (W := 2) (rmPre l Z a0 hw [] a41 h47 n0 Z47 th0 th1) hZ (hw _ (List.mem_of_getElem? (i := 99) rfl)) (hw _ (List.mem_of_getElem? (i := 42) rfl)) (by decide) (by decide)) qa49 qc49 (g := (mkF m 120 #[sR o, sR b, sI (102 : Int32), sI v3, sR a41, sR ti41, uU] [(.ref a41), (.int v3), (.ref a28)])) rfl (by rw [hml]; rfl) (Steps.refl _) (argsL := []) (rest := [(.int v3), (.ref a28)]) (lenOf pd_rmPre rfl) rfl (by show 2 * 0 + _ ≤ _; exact Nat.le_of_eq rfl) (hb hby d5_120) (fun _ _ => ⟨rfl, e48, (by show cells + 1 + 0 + 1 + 0 + 0 + 0 ≤ 204; omega), (by show slots + 3 + 0 + 4 + 0 + 0 + 0 ≤ 911; omega)⟩)
      dsimp only [Pt.U, Pt.locs, Pt.cells, Pt.slots] at X49 l49 y49 z49 st49 hQ49
      subst l49
      first | rw [y49, z49] at X49 | rw [← y49, ← z49] at X49
      obtain ⟨rfl, N49, e49⟩ := hQ49
      refine OwnGo.pre (fun t k => st49.trans k) ?_
      show OwnGo _ _ _ _ (T49.setTop (mkF m 123 #[sR o, sR b, sI (102 : Int32), sI v3, sR a41, sR ti41, uU] [(.double 9221120237041090560), (.int v3), (.ref a28)]))
      have M49 := Fr.app N47 N49
      obtain ⟨T50, h50, X50, e50, W50, A50, st50⟩ := own_daS X49 hx hZ e49 APz hneg (i := i) hcl (by omega) (g := (mkF m 123 #[sR o, sR b, sI (102 : Int32), sI v3, sR a41, sR ti41, uU] [(.double 9221120237041090560), (.int v3), (.ref a28)])) rfl rfl (hb hby d5_123)
      have N50 := Fr.snoc X50 M49 G28
      have Z50 : n0 ≤ h50.size := by rw [W50.size]; exact Z47
      refine OwnGo.pre (fun t k => st50 t k) ?_
      show OwnGo _ _ _ _ (T50.setTop (mkF m 124 #[sR o, sR b, sI (102 : Int32), sI v3, sR a41, sR ti41, uU] []))
      have F0w := F0z.other W50 (Or.inl np.symm)
      have F1w := F1z.other W50 (Or.inl np.symm)
      have Fmw := Fmz.other W50 (Or.inl nbp)
      have Fsw := Fsz.other W50 (Or.inl nbp)
      have EOw := EOz.wr W50
      have Ebw := Ebz.wr W50
      have ARw := A47.ot W50 nrp
      have APw := A50
      refine OwnGo.pre (fun t k => XS.iinc X50.here hx rfl (hb hby d5_124) rfl (l' := #[sR o, sR b, sI (102 : Int32), sI (v3 + Int32.ofInt 1), sR a41, sR ti41, uU]) rfl (XS.goto X50.here hx rfl (pc0 := 127) (pc' := 41) rfl (hb hby d5_127) (by decide) (by decide) k)) ?_
      show OwnGo _ _ _ _ (T50.setTop (mkF m 41 #[sR o, sR b, sI (102 : Int32), sI (v3 + Int32.ofInt 1), sR a41, sR ti41, uU] []))
      rw [← e50] at F0w F1w Fmw Fsw EOw Ebw ARw APw Z50
      have v5i : (v3 + Int32.ofInt 1).toInt = ((i + 1 : Nat) : Int) := by have c1 : (Int32.ofInt 1).toInt = 1 := rfl; rw [Jvm.Kit.i32_add (by omega) (by omega)]; omega
      refine ih (i + 1) _ _ _ _ _ a41 ti41 (Rl.set i 9221120237041090560) (Pl.set i 9221120237041090560) (by omega) (by omega) v5i X50 N50 (by show cells + 1 + 0 + 1 + 0 + 0 + 0 ≤ _; omega) (by show slots + 3 + 0 + 4 + 0 + 0 + 0 ≤ _; omega) Z50 EOw F0w F1w Fmw Fsw Ebw ARw APw (by rw [List.length_set]; exact lR) (by rw [List.length_set]; exact lP) (by rw [own_setL (by omega)]; exact R0) ?_ (by rw [own_setL (by omega)]; exact P0) ?_ APw.lt
      · intro j h1 h2
        by_cases q : j = i
        · subst q; exact own_setS (by omega)
        · rw [own_setL q]; exact RN j h1 (by omega)
      · intro j h1 h2
        by_cases q : j = i
        · subst q; exact own_setS (by omega)
        · rw [own_setL q]; exact PN j h1 (by omega)
  have hneg : ¬ (1 : Int32) < 0 := by decide
  have hcl : (1 : Int32).toNatClampNeg = 1 := by decide
  have EO := E6
  have F0 := F06
  have F1 := F16
  have Fm := Fm6
  have Fs := Fs6
  have Eb := Eb6
  have ARf := R6
  have APf := P6
  show OwnGo _ _ _ _ (T33.setTop (mkF m 41 #[sR o, sR b, sI (102 : Int32), sI (1 : Int32), uU, uU, uU] []))
  have lR : (List.set (List.replicate 102 (0 : UInt64)) 0 0).length = 102 := by decide
  have lP : (List.set (List.replicate 102 (0 : UInt64)) 0 4607182418800017408).length = 102 := by decide
  refine OwnGo.pre (fun t k => XS.iloadN X33.here hx rfl (hb hby d5_41) rfl (XS.iloadN X33.here hx rfl (hb hby d5_42) rfl (XS.icmpNo X33.here hx rfl (hb hby d5_43) rfl (by decide) k))) ?_
  show OwnGo _ _ _ _ (T33.setTop (mkF m 46 #[sR o, sR b, sI (102 : Int32), sI (1 : Int32), uU, uU, uU] []))
  obtain ⟨T51, h51, X51, e51, E51, A51, D51, -, st51⟩ := newO X33 hx hZ hown (hw _ (List.mem_of_getElem? (i := 40) rfl)) (hw _ (List.mem_of_getElem? (i := 41) rfl)) (hw _ (List.mem_of_getElem? (i := 42) rfl)) rfl (g := (mkF m 46 #[sR o, sR b, sI (102 : Int32), sI (1 : Int32), uU, uU, uU] [])) rfl (hb hby d5_46) (by show 2 + 1 ≤ 204; omega) (by show 204 + 3 ≤ 911; omega)
  obtain ⟨a51, g51⟩ : ∃ z, z = T33.heap.size := ⟨_, rfl⟩
  rw [← g51] at A51 D51 st51
  have G51 : n0 ≤ a51 := Nat.le_trans Z33 (Nat.le_of_eq g51.symm)
  have Z51 : n0 ≤ h51.size := Nat.le_trans Z33 E51.1
  refine OwnGo.pre (fun t k => st51 t k) ?_
  show OwnGo _ _ _ _ (T51.setTop (mkF m 49 #[sR o, sR b, sI (102 : Int32), sI (1 : Int32), uU, uU, uU] [(.ref a51)]))
  have F0x := F0.ext E51
  have F1x := F1.ext E51
  have Fmx := Fm.ext E51
  have Fsx := Fs.ext E51
  have EOx := EO.ext E51
  have Ebx := Eb.ext E51
  have ARx := ARf.ex E51
  have APx := APf.ex E51
  have tf0 := D51 (Or.inl (hw _ (List.mem_of_getElem? (i := 91) rfl))) (ty := .int) (by decide)
  have tf1 := D51 (Or.inl (hw _ (List.mem_of_getElem? (i := 101) rfl))) (ty := .int) (by decide)
  have tf2 := D51 (Or.inl (hw _ (List.mem_of_getElem? (i := 93) rfl))) (ty := .int) (by decide)
  refine OwnGo.pre (fun t k => XS.dup X51.here hx rfl (hb hby d5_49) rfl rfl k) ?_
  show OwnGo _ _ _ _ (T51.setTop (mkF m 50 #[sR o, sR b, sI (102 : Int32), sI (1 : Int32), uU, uU, uU] [(.ref a51), (.ref a51)]))
  obtain ⟨_, _, ⟨T52, L52, k52, n52⟩, -, X52, ⟨Lc52, hQ52, l52, y52, z52⟩, st52⟩ := X51.specialBack hx (y := (⟨"com/example/clausewright/clausewright/scoring/Tally", "<init>", "()V"⟩ : MethodName)) rfl hown (mvT hZ (hw _ (List.mem_of_getElem? (i := 43) rfl))) (mvT hZ (hw _ (List.mem_of_getElem? (i := 44) rfl))) (mvT hZ (hw _ (List.mem_of_getElem? (i := 45) rfl))) (by decide) (backOf (W := 1) (rmTI l Z a0 hw [] a51 h51 n0 Z51 ) hZ (hw _ (List.mem_of_getElem? (i := 45) rfl)) (hw _ (List.mem_of_getElem? (i := 42) rfl)) (by decide) (by decide)) (g := (mkF m 50 #[sR o, sR b, sI (102 : Int32), sI (1 : Int32), uU, uU, uU] [(.ref a51), (.ref a51)])) rfl (by rw [hml]; rfl) (Steps.refl _) (a := a51) (argsL := []) (rest := [(.ref a51)]) (lenOf pd_rmTI rfl) rfl (by show 2 * 0 + _ ≤ _; exact Nat.le_of_eq rfl) (hb hby d5_50) (fun _ _ => ⟨rfl, e51, (by show 2 + 1 + 0 ≤ 204; omega), (by show 204 + 3 + 0 ≤ 911; omega)⟩)
  dsimp only [Pt.U, Pt.locs, Pt.cells, Pt.slots] at X52 l52 y52 z52 st52 hQ52
  subst l52 y52 z52
  obtain ⟨rfl, N52, e52⟩ := hQ52
  refine OwnGo.pre (fun t k => st52.trans k) ?_
  show OwnGo _ _ _ _ (T52.setTop (mkF m 53 #[sR o, sR b, sI (102 : Int32), sI (1 : Int32), uU, uU, uU] [(.ref a51)]))
  have M52 := Fr.app N33 N52
  refine OwnGo.pre (fun t k => XS.astore X52.here hx rfl (hb hby d5_53) rfl rfl (l' := #[sR o, sR b, sI (102 : Int32), sI (1 : Int32), sR a51, uU, uU]) rfl (XS.aloadN X52.here hx rfl (hb hby d5_55) rfl rfl k)) ?_
  show OwnGo _ _ _ _ (T52.setTop (mkF m 56 #[sR o, sR b, sI (102 : Int32), sI (1 : Int32), sR a51, uU, uU] [(.ref b)]))
  obtain ⟨cq53, kq53, qa53, qb53, qc53⟩ := isOf hZ e52 Ebx
  obtain ⟨_, _, ⟨T53, L53, k53, n53⟩, -, X53, ⟨Lc53, hQ53, l53, y53, z53⟩, st53⟩ := X52.interfaceBack hx (xi := (⟨"java/util/List", "iterator", "()Ljava/util/Iterator;"⟩ : MethodName)) (y := (⟨"java/util/ArrayList", "iterator", "()Ljava/util/Iterator;"⟩ : MethodName)) hown (mvT hZ (hw _ (List.mem_of_getElem? (i := 47) rfl))) (mvT hZ (hw _ (List.mem_of_getElem? (i := 48) rfl))) (mvT hZ (hw _ (List.mem_of_getElem? (i := 49) rfl))) (mvT hZ (hw _ (List.mem_of_getElem? (i := 50) rfl))) (mvT hZ (hw _ (List.mem_of_getElem? (i := 51) rfl))) (mvT hZ (hw _ (List.mem_of_getElem? (i := 52) rfl))) (mvT hZ (hw _ (List.mem_of_getElem? (i := 53) rfl))) (mvT hZ (hw _ (List.mem_of_getElem? (i := 54) rfl))) (by decide) (backOf (W := 0) (rmIt l Z a0 hw [] b h51 n0 Z51 Fmx) hZ (hw _ (List.mem_of_getElem? (i := 55) rfl)) (hw _ (List.mem_of_getElem? (i := 5) rfl)) (by decide) (by decide)) qa53 qb53 qc53 (g := (mkF m 56 #[sR o, sR b, sI (102 : Int32), sI (1 : Int32), sR a51, uU, uU] [(.ref b)])) rfl (by rw [hml]; rfl) (Steps.refl _) (argsL := []) (rest := []) (lenOf pd_rmIt rfl) rfl (by show 2 * 0 + _ ≤ _; exact Nat.le_of_eq rfl) (hb hby d5_56) (fun _ _ => ⟨rfl, e52, (by show 2 + 1 + 0 + 1 ≤ 204; omega), (by show 204 + 3 + 0 + 4 ≤ 911; omega)⟩)
  dsimp only [Pt.U, Pt.locs, Pt.cells, Pt.slots] at X53 l53 y53 z53 st53 hQ53
  subst l53 y53 z53
  obtain ⟨ti51, rfl, N53, K53, Ei, Fci, Fti⟩ := hQ53
  refine OwnGo.pre (fun t k => st53.trans k) ?_
  show OwnGo _ _ _ _ (T53.setTop (mkF m 61 #[sR o, sR b, sI (102 : Int32), sI (1 : Int32), sR a51, uU, uU] [(.ref ti51)]))
  have M53 := Fr.app M52 N53
  have Z53 : n0 ≤ T53.heap.size := Nat.le_trans Z51 K53.1
  have F0y := F0x.keep K53 nin0
  have F1y := F1x.keep K53 nin0
  have Fmy := Fmx.keep K53 nin0
  have Fsy := Fsx.keep K53 nin0
  have tg0 := tf0.keep K53 nin0
  have tg1 := tf1.keep K53 nin0
  have tg2 := tf2.keep K53 nin0
  have EOy := EOx.keep K53
  have Eby := Ebx.keep K53
  have ARy := ARx.kp K53 nin0
  have APy := APx.kp K53 nin0
  have Ety := A51.keep K53
  refine OwnGo.pre (fun t k => XS.astore X53.here hx rfl (hb hby d5_61) rfl rfl (l' := #[sR o, sR b, sI (102 : Int32), sI (1 : Int32), sR a51, sR ti51, uU]) rfl (XS.aload X53.here hx rfl (hb hby d5_63) rfl rfl k)) ?_
  show OwnGo _ _ _ _ (T53.setTop (mkF m 65 #[sR o, sR b, sI (102 : Int32), sI (1 : Int32), sR a51, sR ti51, uU] [(.ref ti51)]))
  obtain ⟨cq54, kq54, qa54, qb54, qc54⟩ := isOf hZ rfl Ei
  obtain ⟨_, _, ⟨T54, L54, k54, n54⟩, -, X54, ⟨Lc54, hQ54, l54, y54, z54⟩, st54⟩ := X53.interfaceBack hx (xi := (⟨"java/util/Iterator", "hasNext", "()Z"⟩ : MethodName)) (y := (⟨"java/util/ArrayList$Itr", "hasNext", "()Z"⟩ : MethodName)) hown (mvT hZ (hw _ (List.mem_of_getElem? (i := 72) rfl))) (mvT hZ (hw _ (List.mem_of_getElem? (i := 73) rfl))) (mvT hZ (hw _ (List.mem_of_getElem? (i := 74) rfl))) (mvT hZ (hw _ (List.mem_of_getElem? (i := 75) rfl))) (mvT hZ (hw _ (List.mem_of_getElem? (i := 76) rfl))) (mvT hZ (hw _ (List.mem_of_getElem? (i := 77) rfl))) (mvT hZ (hw _ (List.mem_of_getElem? (i := 78) rfl))) (mvT hZ (hw _ (List.mem_of_getElem? (i := 79) rfl))) (by decide) (backOf (W := 0) (rmHN l Z a0 hw [] ti51 b T53.heap n0 Z53 Fci Fti Fsy) hZ (hw _ (List.mem_of_getElem? (i := 80) rfl)) (hw _ (List.mem_of_getElem? (i := 58) rfl)) (by decide) (by decide)) qa54 qb54 qc54 (g := (mkF m 65 #[sR o, sR b, sI (102 : Int32), sI (1 : Int32), sR a51, sR ti51, uU] [(.ref ti51)])) rfl (by rw [hml]; rfl) (Steps.refl _) (argsL := []) (rest := []) (lenOf pd_rmHN rfl) rfl (by show 2 * 0 + _ ≤ _; exact Nat.le_of_eq rfl) (hb hby d5_65) (fun _ _ => ⟨rfl, rfl, (by show 2 + 1 + 0 + 1 + 0 ≤ 204; omega), (by show 204 + 3 + 0 + 4 + 0 ≤ 911; omega)⟩)
  dsimp only [Pt.U, Pt.locs, Pt.cells, Pt.slots] at X54 l54 y54 z54 st54 hQ54
  subst l54 y54 z54
  obtain ⟨rfl, N54, e54⟩ := hQ54
  refine OwnGo.pre (fun t k => st54.trans k) ?_
  show OwnGo _ _ _ _ (T54.setTop (mkF m 70 #[sR o, sR b, sI (102 : Int32), sI (1 : Int32), sR a51, sR ti51, uU] [(.int (0 : Int32))]))
  have M54 := Fr.app M53 N54
  refine OwnGo.pre (fun t k => XS.ifYes X54.here hx rfl (pc0 := 70) (pc' := 102) rfl (hb hby d5_70) rfl (by decide) (by decide) (by decide) (XS.aloadN X54.here hx rfl (hb hby d5_102) rfl rfl k)) ?_
  show OwnGo _ _ _ _ (T54.setTop (mkF m 103 #[sR o, sR b, sI (102 : Int32), sI (1 : Int32), sR a51, sR ti51, uU] [(.ref o)]))
  obtain ⟨T55, X55, e55, st55⟩ := getF X54 hx hZ hown (host := "") (Or.inl (hw _ (List.mem_of_getElem? (i := 36) rfl))) Via.refl e54 F0y (g := (mkF m 103 #[sR o, sR b, sI (102 : Int32), sI (1 : Int32), sR a51, sR ti51, uU] [(.ref o)])) rfl rfl (hb hby d5_103)
  refine OwnGo.pre (fun t k => st55 t k) ?_
  show OwnGo _ _ _ _ (T55.setTop (mkF m 106 #[sR o, sR b, sI (102 : Int32), sI (1 : Int32), sR a51, sR ti51, uU] [(.ref a26)]))
  refine OwnGo.pre (fun t k => XS.iloadN X55.here hx rfl (hb hby d5_106) rfl (XS.aload X55.here hx rfl (hb hby d5_107) rfl rfl k)) ?_
  show OwnGo _ _ _ _ (T55.setTop (mkF m 109 #[sR o, sR b, sI (102 : Int32), sI (1 : Int32), sR a51, sR ti51, uU] [(.ref a51), (.int (1 : Int32)), (.ref a26)]))
  obtain ⟨cq56, kq56, qa56, qb56, qc56⟩ := isOf hZ e55 Ety
  obtain ⟨_, _, ⟨T56, L56, k56, n56⟩, -, X56, ⟨Lc56, hQ56, l56, y56, z56⟩, st56⟩ := X55.virtualBack hx (y := (⟨"com/example/clausewright/clausewright/scoring/Tally", "recall", "()D"⟩ : MethodName)) (z := (⟨"com/example/clausewright/clausewright/scoring/Tally", "recall", "()D"⟩ : MethodName)) hown (mvT hZ (hw _ (List.mem_of_getElem? (i := 85) rfl))) (mvT hZ (hw _ (List.mem_of_getElem? (i := 86) rfl))) (notFace_of_selects (args := #[]) (mvT hZ (hw _ (List.mem_of_getElem? (i := 88) rfl)))) (mvT hZ (hw _ (List.mem_of_getElem? (i := 88) rfl))) (mvT hZ (hw _ (List.mem_of_getElem? (i := 87) rfl))) (by decide) (backOf (W := 2) (rmRec l Z a0 hw [] a51 T53.heap n0 Z53 tg0 tg2) hZ (hw _ (List.mem_of_getElem? (i := 89) rfl)) (hw _ (List.mem_of_getElem? (i := 42) rfl)) (by decide) (by decide)) qa56 qc56 (g := (mkF m 109 #[sR o, sR b, sI (102 : Int32), sI (1 : Int32), sR a51, sR ti51, uU] [(.ref a51), (.int (1 : Int32)), (.ref a26)])) rfl (by rw [hml]; rfl) (Steps.refl _) (argsL := []) (rest := [(.int (1 : Int32)), (.ref a26)]) (lenOf pd_rmRec rfl) rfl (by show 2 * 0 + _ ≤ _; exact Nat.le_of_eq rfl) (hb hby d5_109) (fun _ _ => ⟨rfl, e55, (by show 2 + 1 + 0 + 1 + 0 + 0 ≤ 204; omega), (by show 204 + 3 + 0 + 4 + 0 + 0 ≤ 911; omega)⟩)
  dsimp only [Pt.U, Pt.locs, Pt.cells, Pt.slots] at X56 l56 y56 z56 st56 hQ56
  subst l56 y56 z56
  obtain ⟨rfl, N56, e56⟩ := hQ56
  refine OwnGo.pre (fun t k => st56.trans k) ?_
  show OwnGo _ _ _ _ (T56.setTop (mkF m 112 #[sR o, sR b, sI (102 : Int32), sI (1 : Int32), sR a51, sR ti51, uU] [(.double 9221120237041090560), (.int (1 : Int32)), (.ref a26)]))
  have M56 := Fr.app M54 N56
  obtain ⟨T57, h57, X57, e57, W57, A57, st57⟩ := own_daS X56 hx hZ e56 ARy hneg (i := 1) hcl (by omega) (g := (mkF m 112 #[sR o, sR b, sI (102 : Int32), sI (1 : Int32), sR a51, sR ti51, uU] [(.double 9221120237041090560), (.int (1 : Int32)), (.ref a26)])) rfl rfl (hb hby d5_112)
  have N57 := Fr.snoc X57 M56 G26
  have Z57 : n0 ≤ h57.size := by rw [W57.size]; exact Z53
  refine OwnGo.pre (fun t k => st57 t k) ?_
  show OwnGo _ _ _ _ (T57.setTop (mkF m 113 #[sR o, sR b, sI (102 : Int32), sI (1 : Int32), sR a51, sR ti51, uU] []))
  have ntr : a51 ≠ a26 := (Nat.ne_of_gt (Nat.lt_of_lt_of_le ARf.lt (Nat.le_of_eq g51.symm)))
  have ntp : a51 ≠ a28 := (Nat.ne_of_gt (Nat.lt_of_lt_of_le APf.lt (Nat.le_of_eq g51.symm)))
  have F0z := F0y.other W57 (Or.inl nr.symm)
  have F1z := F1y.other W57 (Or.inl nr.symm)
  have Fmz := Fmy.other W57 (Or.inl nbr)
  have Fsz := Fsy.other W57 (Or.inl nbr)
  have th0 := tg0.other W57 (Or.inl ntr)
  have th1 := tg1.other W57 (Or.inl ntr)
  have EOz := EOy.wr W57
  have Ebz := Eby.wr W57
  have Etz := Ety.wr W57
  have APz := APy.ot W57 nrp.symm
  refine OwnGo.pre (fun t k => XS.aloadN X57.here hx rfl (hb hby d5_113) rfl rfl k) ?_
  show OwnGo _ _ _ _ (T57.setTop (mkF m 114 #[sR o, sR b, sI (102 : Int32), sI (1 : Int32), sR a51, sR ti51, uU] [(.ref o)]))
  obtain ⟨T58, X58, e58, st58⟩ := getF X57 hx hZ hown (host := "") (Or.inl (hw _ (List.mem_of_getElem? (i := 38) rfl))) Via.refl e57 F1z (g := (mkF m 114 #[sR o, sR b, sI (102 : Int32), sI (1 : Int32), sR a51, sR ti51, uU] [(.ref o)])) rfl rfl (hb hby d5_114)
  refine OwnGo.pre (fun t k => st58 t k) ?_
  show OwnGo _ _ _ _ (T58.setTop (mkF m 117 #[sR o, sR b, sI (102 : Int32), sI (1 : Int32), sR a51, sR ti51, uU] [(.ref a28)]))
  refine OwnGo.pre (fun t k => XS.iloadN X58.here hx rfl (hb hby d5_117) rfl (XS.aload X58.here hx rfl (hb hby d5_118) rfl rfl k)) ?_
  show OwnGo _ _ _ _ (T58.setTop (mkF m 120 #[sR o, sR b, sI (102 : Int32), sI (1 : Int32), sR a51, sR ti51, uU] [(.ref a51), (.int (1 : Int32)), (.ref a28)]))
  obtain ⟨cq59, kq59, qa59, qb59, qc59⟩ := isOf hZ e58 Etz
  obtain ⟨_, _, ⟨T59, L59, k59, n59⟩, -, X59, ⟨Lc59, hQ59, l59, y59, z59⟩, st59⟩ := X58.virtualBack hx (y := (⟨"com/example/clausewright/clausewright/scoring/Tally", "precision", "()D"⟩ : MethodName)) (z := (⟨"com/example/clausewright/clausewright/scoring/Tally", "precision", "()D"⟩ : MethodName)) hown (mvT hZ (hw _ (List.mem_of_getElem? (i := 95) rfl))) (mvT hZ (hw _ (List.mem_of_getElem? (i := 96) rfl))) (notFace_of_selects (args := #[]) (mvT hZ (hw _ (List.mem_of_getElem? (i := 98) rfl)))) (mvT hZ (hw _ (List.mem_of_getElem? (i := 98) rfl))) (mvT hZ (hw _ (List.mem_of_getElem? (i := 97) rfl))) (by decide) (backOf (W := 2) (rmPre l Z a0 hw [] a51 h57 n0 Z57 th0 th1) hZ (hw _ (List.mem_of_getElem? (i := 99) rfl)) (hw _ (List.mem_of_getElem? (i := 42) rfl)) (by decide) (by decide)) qa59 qc59 (g := (mkF m 120 #[sR o, sR b, sI (102 : Int32), sI (1 : Int32), sR a51, sR ti51, uU] [(.ref a51), (.int (1 : Int32)), (.ref a28)])) rfl (by rw [hml]; rfl) (Steps.refl _) (argsL := []) (rest := [(.int (1 : Int32)), (.ref a28)]) (lenOf pd_rmPre rfl) rfl (by show 2 * 0 + _ ≤ _; exact Nat.le_of_eq rfl) (hb hby d5_120) (fun _ _ => ⟨rfl, e58, (by show 2 + 1 + 0 + 1 + 0 + 0 + 0 ≤ 204; omega), (by show 204 + 3 + 0 + 4 + 0 + 0 + 0 ≤ 911; omega)⟩)
  dsimp only [Pt.U, Pt.locs, Pt.cells, Pt.slots] at X59 l59 y59 z59 st59 hQ59
  subst l59 y59 z59
  obtain ⟨rfl, N59, e59⟩ := hQ59
  refine OwnGo.pre (fun t k => st59.trans k) ?_
  show OwnGo _ _ _ _ (T59.setTop (mkF m 123 #[sR o, sR b, sI (102 : Int32), sI (1 : Int32), sR a51, sR ti51, uU] [(.double 9221120237041090560), (.int (1 : Int32)), (.ref a28)]))
  have M59 := Fr.app N57 N59
  obtain ⟨T60, h60, X60, e60, W60, A60, st60⟩ := own_daS X59 hx hZ e59 APz hneg (i := 1) hcl (by omega) (g := (mkF m 123 #[sR o, sR b, sI (102 : Int32), sI (1 : Int32), sR a51, sR ti51, uU] [(.double 9221120237041090560), (.int (1 : Int32)), (.ref a28)])) rfl rfl (hb hby d5_123)
  have N60 := Fr.snoc X60 M59 G28
  have Z60 : n0 ≤ h60.size := by rw [W60.size]; exact Z57
  refine OwnGo.pre (fun t k => st60 t k) ?_
  show OwnGo _ _ _ _ (T60.setTop (mkF m 124 #[sR o, sR b, sI (102 : Int32), sI (1 : Int32), sR a51, sR ti51, uU] []))
  have F0w := F0z.other W60 (Or.inl np.symm)
  have F1w := F1z.other W60 (Or.inl np.symm)
  have Fmw := Fmz.other W60 (Or.inl nbp)
  have Fsw := Fsz.other W60 (Or.inl nbp)
  have EOw := EOz.wr W60
  have Ebw := Ebz.wr W60
  have ARw := A57.ot W60 nrp
  have APw := A60
  refine OwnGo.pre (fun t k => XS.iinc X60.here hx rfl (hb hby d5_124) rfl (l' := #[sR o, sR b, sI (102 : Int32), sI ((1 : Int32) + Int32.ofInt 1), sR a51, sR ti51, uU]) rfl (XS.goto X60.here hx rfl (pc0 := 127) (pc' := 41) rfl (hb hby d5_127) (by decide) (by decide) k)) ?_
  show OwnGo _ _ _ _ (T60.setTop (mkF m 41 #[sR o, sR b, sI (102 : Int32), sI ((1 : Int32) + Int32.ofInt 1), sR a51, sR ti51, uU] []))
  rw [← e60] at F0w F1w Fmw Fsw EOw Ebw ARw APw Z60
  refine K41 100 2 _ _ _ _ _ a51 ti51 _ _ (by omega) (by omega) (by decide) X60 N60 (by show 2 + 1 + 0 + 1 + 0 + 0 + 0 ≤ _; decide) (by show 204 + 3 + 0 + 4 + 0 + 0 + 0 ≤ _; decide) Z60 EOw F0w F1w Fmw Fsw Ebw ARw APw (by rw [List.length_set]; exact lR) (by rw [List.length_set]; exact lP) (by decide +kernel) ?_ (by decide +kernel) ?_ APw.lt
  · intro j h1 h2; obtain rfl : j = 1 := by omega
    exact own_setS (by decide)
  · intro j h1 h2; obtain rfl : j = 1 := by omega
    exact own_setS (by decide)
theorem d15_0 : decode prog_47_method_3_code 0 = .ok (.iconst 0, 1) := by decide +kernel
theorem d15_1 : decode prog_47_method_3_code 1 = .ok (.istore_n 3, 1) := by decide +kernel
theorem d15_2 : decode prog_47_method_3_code 2 = .ok (.iload_n 3, 1) := by decide +kernel
theorem d15_3 : decode prog_47_method_3_code 3 = .ok (.aload_n 0, 1) := by decide +kernel
theorem d15_4 : decode prog_47_method_3_code 4 = .ok (.getfield 13, 3) := by decide +kernel
theorem d15_7 : decode prog_47_method_3_code 7 = .ok (.arraylength, 1) := by decide +kernel
theorem d15_8 : decode prog_47_method_3_code 8 = .ok (.iconst 1, 1) := by decide +kernel
theorem d15_9 : decode prog_47_method_3_code 9 = .ok (.isub, 1) := by decide +kernel
theorem d15_10 : decode prog_47_method_3_code 10 = .ok (.if_icmp .ge 27, 3) := by decide +kernel
theorem d15_13 : decode prog_47_method_3_code 13 = .ok (.aload_n 0, 1) := by decide +kernel
theorem d15_14 : decode prog_47_method_3_code 14 = .ok (.getfield 13, 3) := by decide +kernel
theorem d15_17 : decode prog_47_method_3_code 17 = .ok (.iload_n 3, 1) := by decide +kernel
theorem d15_18 : decode prog_47_method_3_code 18 = .ok (.daload, 1) := by decide +kernel
theorem d15_19 : decode prog_47_method_3_code 19 = .ok (.dload_n 1, 1) := by decide +kernel
theorem d15_20 : decode prog_47_method_3_code 20 = .ok (.dcmp .l, 1) := by decide +kernel
theorem d15_21 : decode prog_47_method_3_code 21 = .ok (.ifCond .lt 10, 3) := by decide +kernel
theorem d15_24 : decode prog_47_method_3_code 24 = .ok (.aload_n 0, 1) := by decide +kernel
theorem d15_25 : decode prog_47_method_3_code 25 = .ok (.getfield 16, 3) := by decide +kernel
theorem d15_28 : decode prog_47_method_3_code 28 = .ok (.iload_n 3, 1) := by decide +kernel
theorem d15_29 : decode prog_47_method_3_code 29 = .ok (.daload, 1) := by decide +kernel
theorem d15_30 : decode prog_47_method_3_code 30 = .ok (.dreturn, 1) := by decide +kernel
theorem d15_31 : decode prog_47_method_3_code 31 = .ok (.iinc 3 1, 3) := by decide +kernel
theorem d15_34 : decode prog_47_method_3_code 34 = .ok (.goto (-32), 3) := by decide +kernel
theorem d15_37 : decode prog_47_method_3_code 37 = .ok (.dconst 0, 1) := by decide +kernel
theorem d15_38 : decode prog_47_method_3_code 38 = .ok (.dreturn, 1) := by decide +kernel
theorem pn_rmPR : plainName "com/example/clausewright/clausewright/scoring/Curve" = true := by first | (simp [plainName, overriddenIn]; done) | decide +kernel
theorem pd_rmPR : parseMethodDescriptor "(D)D" = some ⟨[.double], (some .double)⟩ := by decide +kernel
theorem ef_rmPR (m : MethodId) (o : Addr) (rc : UInt64) (ar ap : Addr) (Rl Pl : List UInt64) : entryFrame m #[(.ref o), (.double rc)] 4 = (mkF m 0 #[sR o, sD rc, uS, uU] []) := by first | (simp [entryFrame, mkF, argsToLocals, Value.category, maxLocals]; done) | rfl
def Q_rmPR (Z : State) (o : Addr) (rc : UInt64) (ar ap : Addr) (Rl Pl : List UInt64) (h0 : Heap) (n0 : Nat) (v : Option Value) (h : Heap) (L : List Loc) : Prop := ∃ r : UInt64, v = some (.double r) ∧ r = (if ifCond.holds .lt (cmpValue (FP.dcmp 0 rc) .l) = true then 0 else 4607182418800017408) ∧ Fr n0 L ∧ h = h0
set_option maxRecDepth 65536 in
set_option maxHeartbeats 40000000 in
theorem rmPR (l : Launch) (Z : State) (a0 : Array Value) (hw : ∀ d ∈ tables_1, d.before a0 Z = true) (ws : List Jvm.Cond) (o : Addr) (rc : UInt64) (ar ap : Addr) (Rl Pl : List UInt64) (h0 : Heap) (n0 : Nat) (Z0 : n0 ≤ h0.size) (F0 : Fld Z h0 o "com/example/clausewright/clausewright/scoring/Curve" "recalls" "[D" (.ref ar)) (F1 : Fld Z h0 o "com/example/clausewright/clausewright/scoring/Curve" "precisions" "[D" (.ref ap)) (AR : OwnDA Z h0 ar Rl) (AP : OwnDA Z h0 ap Pl) (lR : Rl.length = 102) (lP : Pl.length = 102) (R0 : Rl[0]? = some 0) (RN : (∀ j : Nat, 1 ≤ j → j < 102 → Rl[j]? = some 9221120237041090560)) (P0 : Pl[0]? = some 4607182418800017408) :
    MetFree l (⟨"com/example/clausewright/clausewright/scoring/Curve", "precisionAtRecall", "(D)D"⟩ : MethodName) (head1 (Jvm.Cond.code (⟨"com/example/clausewright/clausewright/scoring/Curve", "precisionAtRecall", "(D)D"⟩ : MethodName) prog_47_method_3_code 4 (some .double) :: ws) ({ frames := 0, cells := 0, slots := 0, locals := 0 } : Room)) (fun a U => a = #[(.ref o), (.double rc)] ∧ Z.Warmed39 U.vm ∧ U.heap = h0) (fun _ _ _ _ _ => True) (fun _ U oO U' => ∃ v L, oO = .returned v ∧ Q_rmPR Z o rc ar ap Rl Pl h0 n0 v U'.heap L ∧ FrameEnd U oO U' L ({ frames := 0, cells := 0, slots := 0, locals := 0 } : Room).cells ({ frames := 0, cells := 0, slots := 0, locals := 0 } : Room).slots) := by
  refine MetFree.of_bodySF (plainFor_of_name pn_rmPR) hisR ?_
  intro p e s m args below meth c s₁ Bd hml0 hP hK
  obtain ⟨rfl, hZ, hh⟩ := hP
  have hx := Bd.exec
  have hby := Bd.bytes
  have hml : c.maxLocals = 4 := hml0
  have hown : s.vm.findClass "com/example/clausewright/clausewright/scoring/Curve" = some m.cls := findClass_of_methodNamed Bd.named
  have hnm := (name_of_methodNamed Bd.named Bd.method).1
  have hk := Bd.notSynchronized
  have hrt := Bd.returns
  have X0 : Stand p l e ({ frames := 0, cells := 0, slots := 0, locals := 0 } : Room) s m #[(.ref o), (.double rc)] below meth c s₁ [] 0 0 := Stand.of_body Bd
  have e0 : s₁.heap = h0 := by rw [← hh, Bd.state]; rfl
  have N0 := Fr.nil n0
  show OwnGo p.tables e below (OwnEnd s (Q_rmPR Z o rc ar ap Rl Pl h0 n0) ({ frames := 0, cells := 0, slots := 0, locals := 0 } : Room).cells ({ frames := 0, cells := 0, slots := 0, locals := 0 } : Room).slots) _
  refine OwnGo.pre (fun t k => castTop (ef_rmPR m o rc ar ap Rl Pl) k) ?_
  show OwnGo _ _ _ _ (s₁.setTop (mkF m 0 #[sR o, sD rc, uS, uU] []))
  have K2 : ∀ (r i : Nat) (T : State) (v3 : Int32), i + r = 101 → 1 ≤ i → v3.toInt = (i : Int) → Stand p l e ({ frames := 0, cells := 0, slots := 0, locals := 0 } : Room) s m #[(.ref o), (.double rc)] below meth c T [] 0 0 → T.heap = h0 → ifCond.holds .lt (cmpValue (FP.dcmp 0 rc) .l) = true → OwnGo p.tables e below (OwnEnd s (Q_rmPR Z o rc ar ap Rl Pl h0 n0) ({ frames := 0, cells := 0, slots := 0, locals := 0 } : Room).cells ({ frames := 0, cells := 0, slots := 0, locals := 0 } : Room).slots) (T.setTop (mkF m 2 #[sR o, sD rc, uS, sI v3] [])) := by
    intro r
    induction r with
    | zero =>
      intro i T v3 hir hi1 hv3 X eT hlt
      have c101 : (101 : Int32).toInt = 101 := rfl
      show OwnGo _ _ _ _ (T.setTop (mkF m 2 #[sR o, sD rc, uS, sI v3] []))
      refine OwnGo.pre (fun t k => XS.iloadN X.here hx rfl (hb hby d15_2) rfl (XS.aloadN X.here hx rfl (hb hby d15_3) rfl rfl k)) ?_
      show OwnGo _ _ _ _ (T.setTop (mkF m 4 #[sR o, sD rc, uS, sI v3] [(.ref o), (.int v3)]))
      obtain ⟨T61, X61, e61, st61⟩ := getF X hx hZ hown (host := "") (Or.inl (hw _ (List.mem_of_getElem? (i := 36) rfl))) Via.refl eT F0 (g := (mkF m 4 #[sR o, sD rc, uS, sI v3] [(.ref o), (.int v3)])) rfl rfl (hb hby d15_4)
      refine OwnGo.pre (fun t k => st61 t k) ?_
      show OwnGo _ _ _ _ (T61.setTop (mkF m 7 #[sR o, sD rc, uS, sI v3] [(.ref ar), (.int v3)]))
      refine OwnGo.pre (fun t k => own_lenD X61 hx hZ e61 AR (z := 102) (by rw [lR]; decide) (g := (mkF m 7 #[sR o, sD rc, uS, sI v3] [(.ref ar), (.int v3)])) rfl (rest := [(.int v3)]) rfl (hb hby d15_7) (XS.iconst X61.here hx rfl (hb hby d15_8) (own_isub X61.here hx rfl (hb hby d15_9) rfl (v := (101 : Int32)) (by decide) (XS.icmpYes X61.here hx rfl (pc0 := 10) (pc' := 37) rfl (hb hby d15_10) rfl ((own_br2 .ge _ _).trans (decide_eq_true (by omega))) (by decide) (by decide) (XS.dconst0 X61.here hx rfl (hb hby d15_37) rfl k))))) ?_
      show OwnGo _ _ _ _ (T61.setTop (mkF m 38 #[sR o, sD rc, uS, sI v3] [(.double (0 : UInt64))]))
      exact own_retD X61 hx hk hrt (hb hby d15_38) ⟨_, rfl, (if_pos hlt).symm, N0, e61⟩ (by decide) (by decide)
    | succ r ih =>
      intro i T v3 hir hi1 hv3 X eT hlt
      have c101 : (101 : Int32).toInt = 101 := rfl
      show OwnGo _ _ _ _ (T.setTop (mkF m 2 #[sR o, sD rc, uS, sI v3] []))
      refine OwnGo.pre (fun t k => XS.iloadN X.here hx rfl (hb hby d15_2) rfl (XS.aloadN X.here hx rfl (hb hby d15_3) rfl rfl k)) ?_
      show OwnGo _ _ _ _ (T.setTop (mkF m 4 #[sR o, sD rc, uS, sI v3] [(.ref o), (.int v3)]))
      obtain ⟨T62, X62, e62, st62⟩ := getF X hx hZ hown (host := "") (Or.inl (hw _ (List.mem_of_getElem? (i := 36) rfl))) Via.refl eT F0 (g := (mkF m 4 #[sR o, sD rc, uS, sI v3] [(.ref o), (.int v3)])) rfl rfl (hb hby d15_4)
      refine OwnGo.pre (fun t k => st62 t k) ?_
      show OwnGo _ _ _ _ (T62.setTop (mkF m 7 #[sR o, sD rc, uS, sI v3] [(.ref ar), (.int v3)]))
      obtain ⟨hneg, hcl⟩ := own_nat32 hv3
      refine OwnGo.pre (fun t k => own_lenD X62 hx hZ e62 AR (z := 102) (by rw [lR]; decide) (g := (mkF m 7 #[sR o, sD rc, uS, sI v3] [(.ref ar), (.int v3)])) rfl (rest := [(.int v3)]) rfl (hb hby d15_7) (XS.iconst X62.here hx rfl (hb hby d15_8) (own_isub X62.here hx rfl (hb hby d15_9) rfl (v := (101 : Int32)) (by decide) (XS.icmpNo X62.here hx rfl (hb hby d15_10) rfl ((own_br2 .ge _ _).trans (decide_eq_false (by omega))) (XS.aloadN X62.here hx rfl (hb hby d15_13) rfl rfl k))))) ?_
      show OwnGo _ _ _ _ (T62.setTop (mkF m 14 #[sR o, sD rc, uS, sI v3] [(.ref o)]))
      obtain ⟨T63, X63, e63, st63⟩ := getF X62 hx hZ hown (host := "") (Or.inl (hw _ (List.mem_of_getElem? (i := 36) rfl))) Via.refl e62 F0 (g := (mkF m 14 #[sR o, sD rc, uS, sI v3] [(.ref o)])) rfl rfl (hb hby d15_14)
      refine OwnGo.pre (fun t k => st63 t k) ?_
      show OwnGo _ _ _ _ (T63.setTop (mkF m 17 #[sR o, sD rc, uS, sI v3] [(.ref ar)]))
      refine OwnGo.pre (fun t k => XS.iloadN X63.here hx rfl (hb hby d15_17) rfl (own_daL X63 hx hZ e63 AR (j := v3) hneg hcl (x := 9221120237041090560) (RN i (by omega) (by omega)) (g := (mkF m 18 #[sR o, sD rc, uS, sI v3] [(.int v3), (.ref ar)])) rfl (rest := []) rfl (hb hby d15_18) (XS.dloadN X63.here hx rfl (hb hby d15_19) rfl (XS.dcmpS X63.here hx rfl (hb hby d15_20) rfl rfl (XS.ifYes X63.here hx rfl (pc0 := 21) (pc' := 31) rfl (hb hby d15_21) rfl (by rw [own_nanL]; rfl) (by decide) (by decide) (XS.iinc X63.here hx rfl (hb hby d15_31) rfl (l' := #[sR o, sD rc, uS, sI (v3 + Int32.ofInt 1)]) rfl (XS.goto X63.here hx rfl (pc0 := 34) (pc' := 2) rfl (hb hby d15_34) (by decide) (by decide) k))))))) ?_
      show OwnGo _ _ _ _ (T63.setTop (mkF m 2 #[sR o, sD rc, uS, sI (v3 + Int32.ofInt 1)] []))
      have v5i : (v3 + Int32.ofInt 1).toInt = ((i + 1 : Nat) : Int) := by have c1 : (Int32.ofInt 1).toInt = 1 := rfl; rw [Jvm.Kit.i32_add (by omega) (by omega)]; omega
      exact ih (i + 1) _ _ (by omega) (by omega) v5i X63 e63 hlt
  show OwnGo _ _ _ _ (s₁.setTop (mkF m 0 #[sR o, sD rc, uS, uU] []))
  refine OwnGo.pre (fun t k => XS.iconst X0.here hx rfl (hb hby d15_0) (XS.istoreN X0.here hx rfl (hb hby d15_1) rfl (l' := #[sR o, sD rc, uS, sI (0 : Int32)]) rfl (XS.iloadN X0.here hx rfl (hb hby d15_2) rfl (XS.aloadN X0.here hx rfl (hb hby d15_3) rfl rfl k)))) ?_
  show OwnGo _ _ _ _ (s₁.setTop (mkF m 4 #[sR o, sD rc, uS, sI (0 : Int32)] [(.ref o), (.int (0 : Int32))]))
  obtain ⟨T64, X64, e64, st64⟩ := getF X0 hx hZ hown (host := "") (Or.inl (hw _ (List.mem_of_getElem? (i := 36) rfl))) Via.refl e0 F0 (g := (mkF m 4 #[sR o, sD rc, uS, sI (0 : Int32)] [(.ref o), (.int (0 : Int32))])) rfl rfl (hb hby d15_4)
  refine OwnGo.pre (fun t k => st64 t k) ?_
  show OwnGo _ _ _ _ (T64.setTop (mkF m 7 #[sR o, sD rc, uS, sI (0 : Int32)] [(.ref ar), (.int (0 : Int32))]))
  refine OwnGo.pre (fun t k => own_lenD X64 hx hZ e64 AR (z := 102) (by rw [lR]; decide) (g := (mkF m 7 #[sR o, sD rc, uS, sI (0 : Int32)] [(.ref ar), (.int (0 : Int32))])) rfl (rest := [(.int (0 : Int32))]) rfl (hb hby d15_7) (XS.iconst X64.here hx rfl (hb hby d15_8) (own_isub X64.here hx rfl (hb hby d15_9) rfl (v := (101 : Int32)) (by decide) (XS.icmpNo X64.here hx rfl (hb hby d15_10) rfl (by decide) (XS.aloadN X64.here hx rfl (hb hby d15_13) rfl rfl k))))) ?_
  show OwnGo _ _ _ _ (T64.setTop (mkF m 14 #[sR o, sD rc, uS, sI (0 : Int32)] [(.ref o)]))
  obtain ⟨T65, X65, e65, st65⟩ := getF X64 hx hZ hown (host := "") (Or.inl (hw _ (List.mem_of_getElem? (i := 36) rfl))) Via.refl e64 F0 (g := (mkF m 14 #[sR o, sD rc, uS, sI (0 : Int32)] [(.ref o)])) rfl rfl (hb hby d15_14)
  refine OwnGo.pre (fun t k => st65 t k) ?_
  show OwnGo _ _ _ _ (T65.setTop (mkF m 17 #[sR o, sD rc, uS, sI (0 : Int32)] [(.ref ar)]))
  refine OwnGo.pre (fun t k => XS.iloadN X65.here hx rfl (hb hby d15_17) rfl (own_daL X65 hx hZ e65 AR (j := (0 : Int32)) (by decide) (i := 0) (by decide) (x := 0) R0 (g := (mkF m 18 #[sR o, sD rc, uS, sI (0 : Int32)] [(.int (0 : Int32)), (.ref ar)])) rfl (rest := []) rfl (hb hby d15_18) (XS.dloadN X65.here hx rfl (hb hby d15_19) rfl (XS.dcmpS X65.here hx rfl (hb hby d15_20) rfl rfl k)))) ?_
  show OwnGo _ _ _ _ (T65.setTop (mkF m 21 #[sR o, sD rc, uS, sI (0 : Int32)] [(.int (cmpValue (FP.dcmp 0 rc) .l))]))
  by_cases hlt : ifCond.holds .lt (cmpValue (FP.dcmp 0 rc) .l) = true
  · skip
    refine OwnGo.pre (fun t k => XS.ifYes X65.here hx rfl (pc0 := 21) (pc' := 31) rfl (hb hby d15_21) rfl hlt (by decide) (by decide) (XS.iinc X65.here hx rfl (hb hby d15_31) rfl (l' := #[sR o, sD rc, uS, sI (1 : Int32)]) rfl (XS.goto X65.here hx rfl (pc0 := 34) (pc' := 2) rfl (hb hby d15_34) (by decide) (by decide) k))) ?_
    show OwnGo _ _ _ _ (T65.setTop (mkF m 2 #[sR o, sD rc, uS, sI (1 : Int32)] []))
    exact K2 100 1 _ _ (by omega) (by omega) (by decide) X65 e65 hlt
  · skip
    refine OwnGo.pre (fun t k => XS.ifNo X65.here hx rfl (hb hby d15_21) rfl (eq_false_of_ne_true hlt) (XS.aloadN X65.here hx rfl (hb hby d15_24) rfl rfl k)) ?_
    show OwnGo _ _ _ _ (T65.setTop (mkF m 25 #[sR o, sD rc, uS, sI (0 : Int32)] [(.ref o)]))
    obtain ⟨T66, X66, e66, st66⟩ := getF X65 hx hZ hown (host := "") (Or.inl (hw _ (List.mem_of_getElem? (i := 38) rfl))) Via.refl e65 F1 (g := (mkF m 25 #[sR o, sD rc, uS, sI (0 : Int32)] [(.ref o)])) rfl rfl (hb hby d15_25)
    refine OwnGo.pre (fun t k => st66 t k) ?_
    show OwnGo _ _ _ _ (T66.setTop (mkF m 28 #[sR o, sD rc, uS, sI (0 : Int32)] [(.ref ap)]))
    refine OwnGo.pre (fun t k => XS.iloadN X66.here hx rfl (hb hby d15_28) rfl (own_daL X66 hx hZ e66 AP (j := (0 : Int32)) (by decide) (i := 0) (by decide) (x := 4607182418800017408) P0 (g := (mkF m 29 #[sR o, sD rc, uS, sI (0 : Int32)] [(.int (0 : Int32)), (.ref ap)])) rfl (rest := []) rfl (hb hby d15_29) k)) ?_
    show OwnGo _ _ _ _ (T66.setTop (mkF m 30 #[sR o, sD rc, uS, sI (0 : Int32)] [(.double 4607182418800017408)]))
    exact own_retD X66 hx hk hrt (hb hby d15_30) ⟨_, rfl, (if_neg hlt).symm, N0, e66⟩ (by decide) (by decide)
theorem pn_rmL : plainName "com/example/clausewright/clausewright/scoring/CurvePrecisionAtRecallPinLaw" = true := by first | (simp [plainName, overriddenIn]; done) | decide +kernel
theorem ef_rmL (m : MethodId) (p0 p1 : Int32) (ed : Value) (th : Addr) (tc : Cell) : entryFrame m #[(.int p0), (.int p1)] maxLocals = (mkF m 0 #[sI p0, sI p1, uU, uU, uU, uU, uU, uU, uU] []) := by first | (simp [entryFrame, mkF, argsToLocals, Value.category, maxLocals]; done) | rfl
def Q_rmL (Z : State) (p0 p1 : Int32) (ed : Value) (th : Addr) (tc : Cell) (h0 : Heap) (n0 : Nat) (v : Option Value) (h : Heap) (L : List Loc) : Prop := v = some (.int 1) ∧ Fr n0 L
set_option maxRecDepth 65536 in
set_option maxHeartbeats 40000000 in
theorem rmL (l : Launch) (Z : State) (a0 : Array Value) (hw : ∀ d ∈ tables_1, d.before a0 Z = true) (ws : List Jvm.Cond) (p0 p1 : Int32) (ed : Value) (th : Addr) (tc : Cell) (h0 : Heap) (n0 : Nat) (Z0 : n0 ≤ h0.size) (Sd : Sta Z Z.heap "java/util/ArrayList" "DEFAULTCAPACITY_EMPTY_ELEMENTDATA" "[Ljava/lang/Object;" ed) (red : ed.isRef = true) (S : Sta Z Z.heap "com/example/clausewright/clausewright/scoring/Curve" "THRESHOLDS" "[D" (.ref th)) (At : Jvm.RoadKit.Arr Z Z.heap th tc .double) (tl : tc.slots.size.toInt32 = 101) (O : Old Z n0 h0) :
    MetFree l x (head1 (Jvm.Cond.code x code maxLocals ret :: ws) room_1) (fun a U => a = #[(.int p0), (.int p1)] ∧ Z.Warmed39 U.vm ∧ U.heap = h0) (fun _ _ _ _ _ => True) (fun _ U oO U' => ∃ v L, oO = .returned v ∧ Q_rmL Z p0 p1 ed th tc h0 n0 v U'.heap L ∧ FrameEnd U oO U' L room_1.cells room_1.slots) := by
  refine MetFree.of_bodySF (plainFor_of_name pn_rmL) hisR ?_
  intro p e s m args below meth c s₁ Bd hml0 hP hK
  obtain ⟨rfl, hZ, hh⟩ := hP
  have hx := Bd.exec
  have hby := Bd.bytes
  have hml : c.maxLocals = 9 := hml0
  have hown : s.vm.findClass "com/example/clausewright/clausewright/scoring/CurvePrecisionAtRecallPinLaw" = some m.cls := findClass_of_methodNamed Bd.named
  have hnm := (name_of_methodNamed Bd.named Bd.method).1
  have hk := Bd.notSynchronized
  have hrt := Bd.returns
  have X0 : Stand p l e room_1 s m #[(.int p0), (.int p1)] below meth c s₁ [] 0 0 := Stand.of_body Bd
  have e0 : s₁.heap = h0 := by rw [← hh, Bd.state]; rfl
  have N0 := Fr.nil n0
  show OwnGo p.tables e below (OwnEnd s (Q_rmL Z p0 p1 ed th tc h0 n0) room_1.cells room_1.slots) _
  refine OwnGo.pre (fun t k => castTop (ef_rmL m p0 p1 ed th tc) k) ?_
  show OwnGo _ _ _ _ (s₁.setTop (mkF m 0 #[sI p0, sI p1, uU, uU, uU, uU, uU, uU, uU] []))
  obtain ⟨T67, h67, X67, e67, E67, A67, D67, -, st67⟩ := newO X0 hx hZ hown (hw _ (List.mem_of_getElem? (i := 0) rfl)) (hw _ (List.mem_of_getElem? (i := 1) rfl)) (hw _ (List.mem_of_getElem? (i := 2) rfl)) e0 (g := (mkF m 0 #[sI p0, sI p1, uU, uU, uU, uU, uU, uU, uU] [])) rfl (hb hby at_0) (by decide) (by decide)
  obtain ⟨a67, g67⟩ : ∃ z, z = h0.size := ⟨_, rfl⟩
  rw [← g67] at A67 D67 st67
  have G67 : n0 ≤ a67 := Nat.le_trans Z0 (Nat.le_of_eq g67.symm)
  have Z67 : n0 ≤ h67.size := Nat.le_trans Z0 E67.1
  refine OwnGo.pre (fun t k => st67 t k) ?_
  show OwnGo _ _ _ _ (T67.setTop (mkF m 3 #[sI p0, sI p1, uU, uU, uU, uU, uU, uU, uU] [(.ref a67)]))
  have O1 := O.ext E67
  refine OwnGo.pre (fun t k => XS.dup X67.here hx rfl (hb hby at_3) rfl rfl k) ?_
  show OwnGo _ _ _ _ (T67.setTop (mkF m 4 #[sI p0, sI p1, uU, uU, uU, uU, uU, uU, uU] [(.ref a67), (.ref a67)]))
  obtain ⟨T68, h68, X68, e68, E68, A68, D68, -, st68⟩ := newO X67 hx hZ hown (hw _ (List.mem_of_getElem? (i := 3) rfl)) (hw _ (List.mem_of_getElem? (i := 4) rfl)) (hw _ (List.mem_of_getElem? (i := 5) rfl)) e67 (g := (mkF m 4 #[sI p0, sI p1, uU, uU, uU, uU, uU, uU, uU] [(.ref a67), (.ref a67)])) rfl (hb hby at_4) (by decide) (by decide)
  obtain ⟨a68, g68⟩ : ∃ z, z = h67.size := ⟨_, rfl⟩
  rw [← g68] at A68 D68 st68
  have G68 : n0 ≤ a68 := Nat.le_trans Z67 (Nat.le_of_eq g68.symm)
  have Z68 : n0 ≤ h68.size := Nat.le_trans Z67 E68.1
  refine OwnGo.pre (fun t k => st68 t k) ?_
  show OwnGo _ _ _ _ (T68.setTop (mkF m 7 #[sI p0, sI p1, uU, uU, uU, uU, uU, uU, uU] [(.ref a68), (.ref a67), (.ref a67)]))
  have O2 := O1.ext E68
  have Ec := A67.ext E68
  have Fr0 := (D67 (Or.inr (hw _ (List.mem_of_getElem? (i := 37) rfl))) (ty := (.array .double)) (by decide)).ext E68
  have Fp0 := (D67 (Or.inr (hw _ (List.mem_of_getElem? (i := 39) rfl))) (ty := (.array .double)) (by decide)).ext E68
  have nmn : a68 ≠ a67 := (Nat.ne_of_gt (Nat.lt_of_lt_of_le A67.lt (Nat.le_of_eq g68.symm)))
  refine OwnGo.pre (fun t k => XS.dup X68.here hx rfl (hb hby at_7) rfl rfl k) ?_
  show OwnGo _ _ _ _ (T68.setTop (mkF m 8 #[sI p0, sI p1, uU, uU, uU, uU, uU, uU, uU] [(.ref a68), (.ref a68), (.ref a67), (.ref a67)]))
  obtain ⟨_, _, ⟨T69, L69, k69, n69⟩, -, X69, ⟨Lc69, hQ69, l69, y69, z69⟩, st69⟩ := X68.specialBack hx (y := (⟨"java/util/ArrayList", "<init>", "()V"⟩ : MethodName)) rfl hown (mvT hZ (hw _ (List.mem_of_getElem? (i := 6) rfl))) (mvT hZ (hw _ (List.mem_of_getElem? (i := 7) rfl))) (mvT hZ (hw _ (List.mem_of_getElem? (i := 8) rfl))) (by decide) (backOf (W := 3) (rmAL l Z a0 hw [] a68 ed h68 n0 Z68 A68 (D68 (Or.inl (hw _ (List.mem_of_getElem? (i := 25) rfl))) (ty := .int) (by decide)) (D68 (Or.inl (hw _ (List.mem_of_getElem? (i := 28) rfl))) (ty := (.array (.object "java/lang/Object"))) (by decide)) (D68 (Or.inl (hw _ (List.mem_of_getElem? (i := 84) rfl))) (ty := .int) (by decide)) G68 Sd O2 red) hZ (hw _ (List.mem_of_getElem? (i := 8) rfl)) (hw _ (List.mem_of_getElem? (i := 5) rfl)) (by decide) (by decide)) (g := (mkF m 8 #[sI p0, sI p1, uU, uU, uU, uU, uU, uU, uU] [(.ref a68), (.ref a68), (.ref a67), (.ref a67)])) rfl (by rw [hml]; rfl) (Steps.refl _) (a := a68) (argsL := []) (rest := [(.ref a68), (.ref a67), (.ref a67)]) (lenOf pd_rmAL rfl) rfl (by show 2 * 0 + _ ≤ _; exact Nat.le_of_eq rfl) (hb hby at_8) (fun _ _ => ⟨rfl, e68, (by decide : 2 + 0 ≤ _), (by decide : 5 + 0 ≤ _)⟩)
  dsimp only [Pt.U, Pt.locs, Pt.cells, Pt.slots] at X69 l69 y69 z69 st69 hQ69
  subst l69 y69 z69
  obtain ⟨rfl, N69, K69, E69, Fm69, Fs69⟩ := hQ69
  refine OwnGo.pre (fun t k => st69.trans k) ?_
  show OwnGo _ _ _ _ (T69.setTop (mkF m 11 #[sI p0, sI p1, uU, uU, uU, uU, uU, uU, uU] [(.ref a68), (.ref a67), (.ref a67)]))
  have M69 := Fr.app N0 N69
  have Zk69 : n0 ≤ T69.heap.size := Nat.le_trans Z68 K69.1
  have O3 := O2.keep K69 (allS G68 all0)
  obtain ⟨_, _, ⟨T70, L70, k70, n70⟩, -, X70, ⟨Lc70, hQ70, l70, y70, z70⟩, st70⟩ := X69.specialBack hx (y := (⟨"com/example/clausewright/clausewright/scoring/Curve", "<init>", "(Ljava/util/List;)V"⟩ : MethodName)) rfl hown (mvT hZ (hw _ (List.mem_of_getElem? (i := 29) rfl))) (mvT hZ (hw _ (List.mem_of_getElem? (i := 30) rfl))) (mvT hZ (hw _ (List.mem_of_getElem? (i := 31) rfl))) (by decide) (backOf (W := 1) (rmCu l Z a0 hw [] a67 a68 th tc T69.heap n0 Zk69 (Ec.keep K69) (Fr0.keep K69 (ninS nmn.symm nin0)) (Fp0.keep K69 (ninS nmn.symm nin0)) G67 S At tl O3 E69 Fm69 Fs69 nmn) hZ (hw _ (List.mem_of_getElem? (i := 31) rfl)) (hw _ (List.mem_of_getElem? (i := 2) rfl)) (by decide) (by decide)) (g := (mkF m 11 #[sI p0, sI p1, uU, uU, uU, uU, uU, uU, uU] [(.ref a68), (.ref a67), (.ref a67)])) rfl (by rw [hml]; rfl) (Steps.refl _) (a := a67) (argsL := [(.ref a68)]) (rest := [(.ref a67)]) (lenOf pd_rmCu rfl) rfl (by show 2 * 0 + _ ≤ _; exact Nat.le_of_eq rfl) (hb hby at_11) (fun _ _ => ⟨rfl, rfl, (by decide : 2 + 204 ≤ _), (by decide : 5 + 911 ≤ _)⟩)
  dsimp only [Pt.U, Pt.locs, Pt.cells, Pt.slots] at X70 l70 y70 z70 st70 hQ70
  subst l70 y70 z70
  obtain ⟨ar, ap, Rl, Pl, rfl, N70, Zc70, Eo, F0, F1, AR, AP, lR, lP, R0, RN, P0⟩ := hQ70
  refine OwnGo.pre (fun t k => st70.trans k) ?_
  show OwnGo _ _ _ _ (T70.setTop (mkF m 14 #[sI p0, sI p1, uU, uU, uU, uU, uU, uU, uU] [(.ref a67)]))
  have M70 := Fr.app M69 N70
  refine OwnGo.pre (fun t k => XS.astoreN X70.here hx rfl (hb hby at_14) rfl rfl (l' := #[sI p0, sI p1, sR a67, uU, uU, uU, uU, uU, uU]) rfl (XS.iloadN X70.here hx rfl (hb hby at_15) rfl (XS.iconst X70.here hx rfl (hb hby at_16) (own_iand X70.here hx rfl (hb hby at_17) rfl rfl k)))) ?_
  show OwnGo _ _ _ _ (T70.setTop (mkF m 18 #[sI p0, sI p1, sR a67, uU, uU, uU, uU, uU, uU] [(.int (p1 &&& (1 : Int32)))]))
  by_cases hbb : ifCond.holds .ne (p1 &&& (1 : Int32)) = true
  · skip
    obtain ⟨rm, hrm⟩ : ∃ v, p0 - p0 / (1000 : Int32) * (1000 : Int32) = v := ⟨_, rfl⟩
    refine OwnGo.pre (fun t k => XS.ifYes X70.here hx rfl (pc0 := 18) (pc' := 27) rfl (hb hby at_18) rfl hbb (by decide) (by decide) (XS.iloadN X70.here hx rfl (hb hby at_27) rfl (XS.sipush X70.here hx rfl (hb hby at_28) (own_irem X70.here hx rfl (hb hby at_31) rfl (by decide) hrm (XS.i2dS X70.here hx rfl (hb hby at_32) rfl rfl (XS.iloadN X70.here hx rfl (hb hby at_33) rfl (XS.iconst X70.here hx rfl (hb hby at_34) (own_ishr X70.here hx rfl (hb hby at_35) rfl rfl k)))))))) ?_
    show OwnGo _ _ _ _ (T70.setTop (mkF m 36 #[sI p0, sI p1, sR a67, uU, uU, uU, uU, uU, uU] [(.int (p1 >>> ((1 : Int32) &&& 31))), (.double (FP.i2d rm))]))
    obtain ⟨mb, hmb⟩ : ∃ v, ((p1 >>> ((1 : Int32) &&& 31)) &&& (7 : Int32)) + (1 : Int32) = v := ⟨_, rfl⟩
    have Hb : mb ≠ 0 := fun q => by have q1 := Jvm.Kit.i32_mask (p1 >>> ((1 : Int32) &&& 31)) 7 (k := 3) (by decide) (by decide); have q2 : (1 : Int32).toInt = 1 := rfl; have q3 : (((p1 >>> ((1 : Int32) &&& 31)) &&& (7 : Int32)) + 1).toInt = ((p1 >>> ((1 : Int32) &&& 31)) &&& (7 : Int32)).toInt + (1 : Int32).toInt := Jvm.Kit.i32_add (by omega) (by omega); rw [hmb, q] at q3; have q4 : (0 : Int32).toInt = 0 := rfl; omega
    have nw0 : Jvm.Free.Fl.NoNaN64 (FP.ddiv (FP.i2d rm) (FP.i2d mb)) := Jvm.Free.Fl.ddiv_out (Jvm.Free.Fl.i2d_fin rm).noNaN (Jvm.Free.Fl.i2d_fin mb) (Jvm.Free.Fl.i2d_nz Hb)
    obtain ⟨dr, hdr⟩ : ∃ v, FP.ddiv (FP.i2d rm) (FP.i2d mb) = v := ⟨_, rfl⟩
    refine OwnGo.pre (fun t k => XS.bipush X70.here hx rfl (hb hby at_36) (own_iand X70.here hx rfl (hb hby at_38) rfl rfl (XS.iconst X70.here hx rfl (hb hby at_39) (own_iadd X70.here hx rfl (hb hby at_40) rfl hmb (XS.i2dS X70.here hx rfl (hb hby at_41) rfl rfl (XS.ddivS X70.here hx rfl (hb hby at_42) rfl nw0 hdr (XS.dstoreN X70.here hx rfl (hb hby at_43) rfl (l' := #[sI p0, sI p1, sR a67, sD dr, uS, uU, uU, uU, uU]) rfl (XS.aloadN X70.here hx rfl (hb hby at_44) rfl rfl k)))))))) ?_
    show OwnGo _ _ _ _ (T70.setTop (mkF m 45 #[sI p0, sI p1, sR a67, sD dr, uS, uU, uU, uU, uU] [(.ref a67)]))
    refine OwnGo.pre (fun t k => XS.dloadN X70.here hx rfl (hb hby at_45) rfl k) ?_
    show OwnGo _ _ _ _ (T70.setTop (mkF m 46 #[sI p0, sI p1, sR a67, sD dr, uS, uU, uU, uU, uU] [(.double dr), (.ref a67)]))
    obtain ⟨cq71, kq71, qa71, qb71, qc71⟩ := isOf hZ rfl Eo
    obtain ⟨_, _, ⟨T71, L71, k71, n71⟩, -, X71, ⟨Lc71, hQ71, l71, y71, z71⟩, st71⟩ := X70.virtualBack hx (y := (⟨"com/example/clausewright/clausewright/scoring/Curve", "precisionAtRecall", "(D)D"⟩ : MethodName)) (z := (⟨"com/example/clausewright/clausewright/scoring/Curve", "precisionAtRecall", "(D)D"⟩ : MethodName)) hown (mvT hZ (hw _ (List.mem_of_getElem? (i := 113) rfl))) (mvT hZ (hw _ (List.mem_of_getElem? (i := 114) rfl))) (notFace_of_selects (args := #[]) (mvT hZ (hw _ (List.mem_of_getElem? (i := 116) rfl)))) (mvT hZ (hw _ (List.mem_of_getElem? (i := 116) rfl))) (mvT hZ (hw _ (List.mem_of_getElem? (i := 115) rfl))) (by decide) (backOf (W := 0) (rmPR l Z a0 hw [] a67 dr ar ap Rl Pl T70.heap n0 Zc70 F0 F1 AR AP lR lP R0 RN P0) hZ (hw _ (List.mem_of_getElem? (i := 117) rfl)) (hw _ (List.mem_of_getElem? (i := 2) rfl)) (by decide) (by decide)) qa71 qc71 (g := (mkF m 46 #[sI p0, sI p1, sR a67, sD dr, uS, uU, uU, uU, uU] [(.double dr), (.ref a67)])) rfl (by rw [hml]; rfl) (Steps.refl _) (argsL := [(.double dr)]) (rest := []) (lenOf pd_rmPR rfl) rfl (by show 2 * 0 + _ ≤ _; exact Nat.le_of_eq rfl) (hb hby at_46) (fun _ _ => ⟨rfl, rfl, (by decide : 206 + 0 ≤ _), (by decide : 916 + 0 ≤ _)⟩)
    dsimp only [Pt.U, Pt.locs, Pt.cells, Pt.slots] at X71 l71 y71 z71 st71 hQ71
    subst l71 y71 z71
    obtain ⟨pp, rfl, hp, N71, e71⟩ := hQ71
    refine OwnGo.pre (fun t k => st71.trans k) ?_
    show OwnGo _ _ _ _ (T71.setTop (mkF m 49 #[sI p0, sI p1, sR a67, sD dr, uS, uU, uU, uU, uU] [(.double pp)]))
    have M71 := Fr.app M70 N71
    refine OwnGo.pre (fun t k => XS.dstore X71.here hx rfl (hb hby at_49) rfl (l' := #[sI p0, sI p1, sR a67, sD dr, uS, sD pp, uS, uU, uU]) rfl (XS.dloadN X71.here hx rfl (hb hby at_51) rfl (XS.dconst0 X71.here hx rfl (hb hby at_52) rfl (XS.dcmpS X71.here hx rfl (hb hby at_53) rfl rfl k)))) ?_
    show OwnGo _ _ _ _ (T71.setTop (mkF m 54 #[sI p0, sI p1, sR a67, sD dr, uS, sD pp, uS, uU, uU] [(.int (cmpValue (FP.dcmp dr (0 : UInt64)) .g))]))
    by_cases hlt : ifCond.holds .lt (cmpValue (FP.dcmp 0 dr) .l) = true
    · skip
      rw [if_pos hlt] at hp
      refine OwnGo.pre (fun t k => XS.ifYes X71.here hx rfl (pc0 := 54) (pc' := 61) rfl (hb hby at_54) rfl ((own_sw _ _).trans hlt) (by decide) (by decide) (XS.dconst0 X71.here hx rfl (hb hby at_61) rfl (XS.dstore X71.here hx rfl (hb hby at_62) rfl (l' := #[sI p0, sI p1, sR a67, sD dr, uS, sD pp, uS, sD (0 : UInt64), uS]) rfl (XS.dload X71.here hx rfl (hb hby at_64) rfl (XS.dload X71.here hx rfl (hb hby at_66) rfl (XS.dcmpS X71.here hx rfl (hb hby at_68) rfl rfl (XS.ifNo X71.here hx rfl (hb hby at_69) rfl (by rw [hp]; decide +kernel) (XS.iconst X71.here hx rfl (hb hby at_72) k)))))))) ?_
      show OwnGo _ _ _ _ (T71.setTop (mkF m 73 #[sI p0, sI p1, sR a67, sD dr, uS, sD pp, uS, sD (0 : UInt64), uS] [(.int (1 : Int32))]))
      refine OwnGo.pre (fun t k => XS.goto X71.here hx rfl (pc0 := 73) (pc' := 77) rfl (hb hby at_73) (by decide) (by decide) k) ?_
      show OwnGo _ _ _ _ (T71.setTop (mkF m 77 #[sI p0, sI p1, sR a67, sD dr, uS, sD pp, uS, sD (0 : UInt64), uS] [(.int (1 : Int32))]))
      exact own_retZ X71 hx hk hrt (hb hby at_77) ⟨rfl, M71⟩ (by decide) (by decide)
    · skip
      rw [if_neg hlt] at hp
      refine OwnGo.pre (fun t k => XS.ifNo X71.here hx rfl (hb hby at_54) rfl ((own_sw _ _).trans (eq_false_of_ne_true hlt)) (XS.dconst1 X71.here hx rfl (hb hby at_57) rfl (XS.goto X71.here hx rfl (pc0 := 58) (pc' := 62) rfl (hb hby at_58) (by decide) (by decide) (XS.dstore X71.here hx rfl (hb hby at_62) rfl (l' := #[sI p0, sI p1, sR a67, sD dr, uS, sD pp, uS, sD (4607182418800017408 : UInt64), uS]) rfl (XS.dload X71.here hx rfl (hb hby at_64) rfl (XS.dload X71.here hx rfl (hb hby at_66) rfl (XS.dcmpS X71.here hx rfl (hb hby at_68) rfl rfl (XS.ifNo X71.here hx rfl (hb hby at_69) rfl (by rw [hp]; decide +kernel) k)))))))) ?_
      show OwnGo _ _ _ _ (T71.setTop (mkF m 72 #[sI p0, sI p1, sR a67, sD dr, uS, sD pp, uS, sD (4607182418800017408 : UInt64), uS] []))
      refine OwnGo.pre (fun t k => XS.iconst X71.here hx rfl (hb hby at_72) (XS.goto X71.here hx rfl (pc0 := 73) (pc' := 77) rfl (hb hby at_73) (by decide) (by decide) k)) ?_
      show OwnGo _ _ _ _ (T71.setTop (mkF m 77 #[sI p0, sI p1, sR a67, sD dr, uS, sD pp, uS, sD (4607182418800017408 : UInt64), uS] [(.int (1 : Int32))]))
      exact own_retZ X71 hx hk hrt (hb hby at_77) ⟨rfl, M71⟩ (by decide) (by decide)
  · skip
    obtain ⟨dr, hdr⟩ : ∃ v, FP.i2d p0 = v := ⟨_, rfl⟩
    refine OwnGo.pre (fun t k => XS.ifNo X70.here hx rfl (hb hby at_18) rfl (eq_false_of_ne_true hbb) (XS.iloadN X70.here hx rfl (hb hby at_21) rfl (XS.i2dS X70.here hx rfl (hb hby at_22) rfl hdr (XS.dstoreN X70.here hx rfl (hb hby at_23) rfl (l' := #[sI p0, sI p1, sR a67, sD dr, uS, uU, uU, uU, uU]) rfl (XS.goto X70.here hx rfl (pc0 := 24) (pc' := 44) rfl (hb hby at_24) (by decide) (by decide) (XS.aloadN X70.here hx rfl (hb hby at_44) rfl rfl (XS.dloadN X70.here hx rfl (hb hby at_45) rfl k))))))) ?_
    show OwnGo _ _ _ _ (T70.setTop (mkF m 46 #[sI p0, sI p1, sR a67, sD dr, uS, uU, uU, uU, uU] [(.double dr), (.ref a67)]))
    obtain ⟨cq72, kq72, qa72, qb72, qc72⟩ := isOf hZ rfl Eo
    obtain ⟨_, _, ⟨T72, L72, k72, n72⟩, -, X72, ⟨Lc72, hQ72, l72, y72, z72⟩, st72⟩ := X70.virtualBack hx (y := (⟨"com/example/clausewright/clausewright/scoring/Curve", "precisionAtRecall", "(D)D"⟩ : MethodName)) (z := (⟨"com/example/clausewright/clausewright/scoring/Curve", "precisionAtRecall", "(D)D"⟩ : MethodName)) hown (mvT hZ (hw _ (List.mem_of_getElem? (i := 113) rfl))) (mvT hZ (hw _ (List.mem_of_getElem? (i := 114) rfl))) (notFace_of_selects (args := #[]) (mvT hZ (hw _ (List.mem_of_getElem? (i := 116) rfl)))) (mvT hZ (hw _ (List.mem_of_getElem? (i := 116) rfl))) (mvT hZ (hw _ (List.mem_of_getElem? (i := 115) rfl))) (by decide) (backOf (W := 0) (rmPR l Z a0 hw [] a67 dr ar ap Rl Pl T70.heap n0 Zc70 F0 F1 AR AP lR lP R0 RN P0) hZ (hw _ (List.mem_of_getElem? (i := 117) rfl)) (hw _ (List.mem_of_getElem? (i := 2) rfl)) (by decide) (by decide)) qa72 qc72 (g := (mkF m 46 #[sI p0, sI p1, sR a67, sD dr, uS, uU, uU, uU, uU] [(.double dr), (.ref a67)])) rfl (by rw [hml]; rfl) (Steps.refl _) (argsL := [(.double dr)]) (rest := []) (lenOf pd_rmPR rfl) rfl (by show 2 * 0 + _ ≤ _; exact Nat.le_of_eq rfl) (hb hby at_46) (fun _ _ => ⟨rfl, rfl, (by decide : 206 + 0 ≤ _), (by decide : 916 + 0 ≤ _)⟩)
    dsimp only [Pt.U, Pt.locs, Pt.cells, Pt.slots] at X72 l72 y72 z72 st72 hQ72
    subst l72 y72 z72
    obtain ⟨pp, rfl, hp, N72, e72⟩ := hQ72
    refine OwnGo.pre (fun t k => st72.trans k) ?_
    show OwnGo _ _ _ _ (T72.setTop (mkF m 49 #[sI p0, sI p1, sR a67, sD dr, uS, uU, uU, uU, uU] [(.double pp)]))
    have M72 := Fr.app M70 N72
    refine OwnGo.pre (fun t k => XS.dstore X72.here hx rfl (hb hby at_49) rfl (l' := #[sI p0, sI p1, sR a67, sD dr, uS, sD pp, uS, uU, uU]) rfl (XS.dloadN X72.here hx rfl (hb hby at_51) rfl (XS.dconst0 X72.here hx rfl (hb hby at_52) rfl (XS.dcmpS X72.here hx rfl (hb hby at_53) rfl rfl k)))) ?_
    show OwnGo _ _ _ _ (T72.setTop (mkF m 54 #[sI p0, sI p1, sR a67, sD dr, uS, sD pp, uS, uU, uU] [(.int (cmpValue (FP.dcmp dr (0 : UInt64)) .g))]))
    by_cases hlt : ifCond.holds .lt (cmpValue (FP.dcmp 0 dr) .l) = true
    · skip
      rw [if_pos hlt] at hp
      refine OwnGo.pre (fun t k => XS.ifYes X72.here hx rfl (pc0 := 54) (pc' := 61) rfl (hb hby at_54) rfl ((own_sw _ _).trans hlt) (by decide) (by decide) (XS.dconst0 X72.here hx rfl (hb hby at_61) rfl (XS.dstore X72.here hx rfl (hb hby at_62) rfl (l' := #[sI p0, sI p1, sR a67, sD dr, uS, sD pp, uS, sD (0 : UInt64), uS]) rfl (XS.dload X72.here hx rfl (hb hby at_64) rfl (XS.dload X72.here hx rfl (hb hby at_66) rfl (XS.dcmpS X72.here hx rfl (hb hby at_68) rfl rfl (XS.ifNo X72.here hx rfl (hb hby at_69) rfl (by rw [hp]; decide +kernel) (XS.iconst X72.here hx rfl (hb hby at_72) k)))))))) ?_
      show OwnGo _ _ _ _ (T72.setTop (mkF m 73 #[sI p0, sI p1, sR a67, sD dr, uS, sD pp, uS, sD (0 : UInt64), uS] [(.int (1 : Int32))]))
      refine OwnGo.pre (fun t k => XS.goto X72.here hx rfl (pc0 := 73) (pc' := 77) rfl (hb hby at_73) (by decide) (by decide) k) ?_
      show OwnGo _ _ _ _ (T72.setTop (mkF m 77 #[sI p0, sI p1, sR a67, sD dr, uS, sD pp, uS, sD (0 : UInt64), uS] [(.int (1 : Int32))]))
      exact own_retZ X72 hx hk hrt (hb hby at_77) ⟨rfl, M72⟩ (by decide) (by decide)
    · skip
      rw [if_neg hlt] at hp
      refine OwnGo.pre (fun t k => XS.ifNo X72.here hx rfl (hb hby at_54) rfl ((own_sw _ _).trans (eq_false_of_ne_true hlt)) (XS.dconst1 X72.here hx rfl (hb hby at_57) rfl (XS.goto X72.here hx rfl (pc0 := 58) (pc' := 62) rfl (hb hby at_58) (by decide) (by decide) (XS.dstore X72.here hx rfl (hb hby at_62) rfl (l' := #[sI p0, sI p1, sR a67, sD dr, uS, sD pp, uS, sD (4607182418800017408 : UInt64), uS]) rfl (XS.dload X72.here hx rfl (hb hby at_64) rfl (XS.dload X72.here hx rfl (hb hby at_66) rfl (XS.dcmpS X72.here hx rfl (hb hby at_68) rfl rfl (XS.ifNo X72.here hx rfl (hb hby at_69) rfl (by rw [hp]; decide +kernel) k)))))))) ?_
      show OwnGo _ _ _ _ (T72.setTop (mkF m 72 #[sI p0, sI p1, sR a67, sD dr, uS, sD pp, uS, sD (4607182418800017408 : UInt64), uS] []))
      refine OwnGo.pre (fun t k => XS.iconst X72.here hx rfl (hb hby at_72) (XS.goto X72.here hx rfl (pc0 := 73) (pc' := 77) rfl (hb hby at_73) (by decide) (by decide) k)) ?_
      show OwnGo _ _ _ _ (T72.setTop (mkF m 77 #[sI p0, sI p1, sR a67, sD dr, uS, sD pp, uS, sD (4607182418800017408 : UInt64), uS] [(.int (1 : Int32))]))
      exact own_retZ X72 hx hk hrt (hb hby at_77) ⟨rfl, M72⟩ (by decide) (by decide)
theorem own_len {s : State} {args : Array Value} {t : Term} {a : Addr} {c : Cell} (A : Jvm.RoadKit.Arr s s.heap a c .double) (ev : t.eval args s none [] s = some (.ref a)) (h : (Jvm.Cond.eq (Jvm.Term.length t) (Jvm.Term.int (101 : Int32))).value args s none s [] = some true) : c.slots.size.toInt32 = 101 := by
  cases hq : (Jvm.Term.length t).eval args s none [] s with
  | none => simp [Cond.value, hq] at h
  | some v =>
    obtain ⟨x, cl, q1, q2, rfl⟩ := Term.length_spec hq
    cases Option.some.inj (q1.symm.trans ev)
    have q3 := A.fin (Vm.Alike.refl _)
    obtain rfl : cl = c := Option.some.inj (q2.symm.trans q3)
    exact gotT (Cond.eq_ints hq (Term.int_eval (101))) h
set_option maxRecDepth 65536 in
set_option maxHeartbeats 40000000 in
theorem comes_1 {Post : Tables → Env → Array Value → State → Outcome → State → Prop} (hpost : ∀ tb e args s v u, (limb_1_1.after args s (.returned v) u = true ∧ limb_1_2.after args s (.returned v) u = true ∧ True) → FrameEnd s (.returned v) u (Jvm.fieldLocs frame_1_writes args s ++ Jvm.arrayLocs frame_1_arrays args s ++ Jvm.staticLocs frame_1_statics s) 424 1920 → Post tb e args s (.returned v) u) :
    ArmFor flags0 classFile x code maxLocals ret World_1 tables_1 room_1 Calls_1 rest_1 Pre_1 Post := by
  intro l hfl _ _ p e ha hc hk s m args below hf hA hF happ hP
  obtain ⟨hcalls, hrest, hpre⟩ := hP
  obtain ⟨-, -, -, hnamed, -, -, -, hat⟩ := (Spec.applies_iff hf).mp happ
  obtain ⟨hg, hn⟩ := and_e (Cond.before_iff.mp (show (Jvm.Cond.and given_1 narrow_1).before args s = true from hpre))
  obtain ⟨hcnt, q0⟩ := and_e hg
  obtain ⟨b0, q1⟩ := and_e q0
  have b1 := q1
  obtain ⟨w0, w1, rfl⟩ : ∃ w0 w1 : Value, args = #[w0, w1] := by
    have hs : args.size = 2 := by simpa [Cond.value, given_1] using hcnt
    obtain ⟨L⟩ := args
    match L, hs with
    | [w0, w1], _ => exact ⟨w0, w1, rfl⟩
  have hw := fun d (hd : d ∈ tables_1) => atoms_spec (ws := Jvm.Cond.code x code maxLocals ret :: tables_1) hat d (List.mem_cons_of_mem _ hd)
  have hfit : Fit s := fun {y c} hc i hi => by
    obtain ⟨ha, rfl⟩ := Array.getElem?_eq_some_iff.mp hc
    have q := List.all_eq_true.mp ((Array.all_eq_true_iff_forall_mem.mp hF) _ (Array.getElem_mem ha)) i (List.mem_range.mpr hi)
    simpa [Array.getElem?_eq_getElem hi] using q
  obtain ⟨i0, ei0⟩ := is_v b0
  obtain rfl : w0 = (.int i0) := Option.some.inj ei0
  obtain ⟨i1, ei1⟩ := is_v b1
  obtain rfl : w1 = (.int i1) := Option.some.inj ei1
  obtain ⟨hsets, hown0⟩ := atoms_of _ (rest_1_c_eq ▸ (show rest_1_c.before _ s = true from hrest))
  obtain ⟨n1, n2⟩ := and_e (show (Jvm.Cond.and _ _).value _ s none s [] = some true from hn)
  obtain ⟨th, eth⟩ := arr_v n1
  obtain ⟨tc, At⟩ := Arr.start eth n1
  have S := Sta.start eth (Or.inr ⟨hw _ (List.mem_of_getElem? (i := 2) rfl), hw _ (List.mem_of_getElem? (i := 34) rfl)⟩)
  have tl : tc.slots.size.toInt32 = 101 := own_len At eth n2
  obtain ⟨ea, eea⟩ := arr_v (Cond.before_iff.mp (hsets _ (List.mem_of_getElem? (i := 6) rfl)))
  have Sd := Sta.start eea (Or.inr ⟨hw _ (List.mem_of_getElem? (i := 5) rfl), hsets _ (List.mem_of_getElem? (i := 2) rfl)⟩)
  obtain ⟨n, o, h1, h2, h3, _, L, rfl, ⟨rfl, N⟩, hq⟩ := rmL l s _ hw tables_1 i0 i1 (.ref ea) th tc s.heap s.heap.size (Nat.le_refl _) Sd rfl S At tl (Old.start s) p e ha hc hk s m _ below hf ((Spec.applies_iff_loose hf).mp happ).1 ⟨rfl, State.Warmed39.refl s, rfl⟩ trivial
  refine ⟨n, _, h1, h2, h3, hpost _ _ _ _ _ _ ⟨Cond.after_iff.mpr rfl, Cond.after_iff.mpr (eq_i res_at (Term.int_eval (1)) rfl), trivial⟩ ⟨hq.1, hq.2.1, (hq.2.2.sift fun y hy => Or.inr (N y hy)).mono (by decide) (by decide)⟩⟩
theorem main_1_1 : Claimed_1_1 := comes_1 fun _ _ _ _ _ _ h hF => ⟨h.1, hF⟩
theorem main_1_2 : Claimed_1_2 := comes_1 fun _ _ _ _ _ _ h hF => ⟨h.2.1, hF⟩
end Jvm.Pilot.@@N@@
namespace Jvm.Pilot.@@N@@
open Jvm Jvm.ClassFile Sem Op Lib Jvm.Free Jvm.Stand Jvm.Pilot.@@N@@.Jvm.D
/-! MADE BY PROGRAM (witnessworld.py) out of the Statement's table words and the real class files: 29 classes; the members and pool entries that the words name. The judged class is class 1, her method 1. -/
namespace start1
open Jvm.ClassFile
def u (s : String) : CpInfo := .utf8 (stringToUtf16 s)
/-- a pool by its gaps: so many unusable entries, then the entry; so many at the end -/
def gap : Nat → List CpInfo → List CpInfo
  | 0, r => r
  | n + 1, r => .unusable :: gap n r
def poolList (es : List (Nat × CpInfo)) (last : Nat) : List CpInfo := es.foldr (fun e r => gap e.1 (e.2 :: r)) (gap last [])
def pool (es : List (Nat × CpInfo)) (last : Nat) : Array CpInfo := ⟨poolList es last⟩
def fileOf (pool : Array CpInfo) (this : Nat) (attrs : Array Attribute := #[]) (ms : Array MethodInfo := #[]) (fl : Nat := 33) (sup : Nat := 0) (ifs : Array Nat := #[]) (fds : Array FieldInfo := #[]) : ClassFile where
  minorVersion := 0
  majorVersion := 65
  constantPool := pool
  accessFlags := fl
  thisClass := this
  superClass := sup
  interfaces := ifs
  fields := fds
  methods := ms
  attributes := attrs
def plain (name : String) (sup : Option ClassId) : Class where
  name := name
  kind := .ordinary
  loader := none
  accessFlags := 33
  super := sup
  interfaces := #[]
  cf := none
  fields := #[]
  methods := #[]
  instanceTypes := #[]
  staticTypes := #[]
  resolved := #[]
  callSites := []
  init := .initialized
  statics := none
  mirror := none

def pool0 : Array CpInfo := pool [(5, u "<init>"), (0, u "()V"), (1, .class_ 10), (1, u "java/lang/Object")] 113

def k0c0 : Code := { maxStack := 0, maxLocals := 1, code := object_method_1_code, exceptionTable := #[], attributes := #[] }
def k0m0 : Method := { name := "<init>", desc := "()V", sig := { parameters := [], returnType := none }, accessFlags := 1, code := some k0c0 }
/-- java/lang/Object -/
def k0 : Class := { plain "java/lang/Object" none with
  accessFlags := 33
  interfaces := #[]
  cf := some (fileOf pool0 8 #[] #[{ accessFlags := 1, nameIndex := 5, descriptorIndex := 6, attributes := #[] }] 33 0 #[] #[])
  fields := #[]
  methods := #[k0m0]
  instanceTypes := #[]
  staticTypes := #[]
  resolved := Array.replicate 124 none
  statics := none }

def pool1 : Array CpInfo := pool [(2, .class_ 4), (0, .nameAndType 5 6), (0, u "java/lang/Object"), (0, u "<init>"), (0, u "()V"), (0, .class_ 8), (0, u "com/example/clausewright/clausewright/scoring/Curve"), (0, .class_ 10), (0, u "java/util/ArrayList"), (0, .methodref 9 3), (0, .methodref 7 13), (0, .nameAndType 5 14), (0, u "(Ljava/util/List;)V"), (0, .methodref 7 16), (0, .nameAndType 17 18), (0, u "precisionAtRecall"), (0, u "(D)D"), (0, .class_ 20), (0, u "com/example/clausewright/clausewright/scoring/CurvePrecisionAtRecallPinLaw"), (2, u "law"), (0, u "(II)Z")] 3

def k1m0 : Method := { name := "<init>", desc := "()V", sig := { parameters := [], returnType := none }, accessFlags := 1, code := none }
def k1c1 : Code := { maxStack := 4, maxLocals := 9, code := code, exceptionTable := #[], attributes := #[] }
def k1m1 : Method := { name := "law", desc := "(II)Z", sig := { parameters := [.int, .int], returnType := some .boolean }, accessFlags := 9, code := some k1c1 }
/-- com/example/clausewright/clausewright/scoring/CurvePrecisionAtRecallPinLaw -/
def k1 : Class := { plain "com/example/clausewright/clausewright/scoring/CurvePrecisionAtRecallPinLaw" (some 0) with
  accessFlags := 49
  interfaces := #[]
  cf := some (fileOf pool1 19 #[] #[{ accessFlags := 1, nameIndex := 5, descriptorIndex := 6, attributes := #[] }, { accessFlags := 9, nameIndex := 23, descriptorIndex := 24, attributes := #[] }] 49 2 #[] #[])
  fields := #[]
  methods := #[k1m0, k1m1]
  instanceTypes := #[]
  staticTypes := #[]
  resolved := Array.replicate 28 none
  statics := none }

def pool2 : Array CpInfo := pool [(1, .methodref 2 3), (0, .class_ 4), (0, .nameAndType 5 6), (0, u "java/lang/Object"), (0, u "<init>"), (0, u "()V"), (0, .fieldref 8 9), (0, .class_ 10), (0, .nameAndType 11 12), (0, u "com/example/clausewright/clausewright/scoring/Curve"), (0, u "THRESHOLDS"), (0, u "[D"), (0, .fieldref 8 14), (0, .nameAndType 15 12), (0, u "recalls"), (0, .fieldref 8 17), (0, .nameAndType 18 12), (0, u "precisions"), (0, .class_ 20), (0, u "com/example/clausewright/clausewright/scoring/Tally"), (0, .methodref 19 3), (0, .interfaceMethodref 23 24), (0, .class_ 25), (0, .nameAndType 26 27), (0, u "java/util/List"), (0, u "iterator"), (0, u "()Ljava/util/Iterator;"), (0, .interfaceMethodref 29 30), (0, .class_ 31), (0, .nameAndType 32 33), (0, u "java/util/Iterator"), (0, u "hasNext"), (0, u "()Z"), (10, .methodref 19 45), (0, .nameAndType 46 47), (0, u "recall"), (0, u "()D"), (0, .methodref 19 49), (0, .nameAndType 50 47), (0, u "precision"), (0, .methodref 8 52), (0, .nameAndType 53 54), (0, u "zeroForNaN"), (0, u "(D)D"), (0, .methodref 56 57), (0, .class_ 58), (0, .nameAndType 59 60), (0, u "java/lang/Math"), (0, u "max"), (0, u "(DD)D"), (2, .methodref 64 65), (0, .class_ 66), (0, .nameAndType 67 68), (0, u "java/lang/Double"), (0, u "isNaN"), (0, u "(D)Z"), (10, u "(Ljava/util/List;)V"), (6, u "precisionAtRecall")] 4

def k2c0 : Code := { maxStack := 7, maxLocals := 7, code := prog_47_method_1_code, exceptionTable := #[], attributes := #[] }
def k2m0 : Method := { name := "<init>", desc := "(Ljava/util/List;)V", sig := { parameters := [(.object "java/util/List")], returnType := none }, accessFlags := 0, code := some k2c0 }
def k2c1 : Code := { maxStack := 4, maxLocals := 4, code := prog_47_method_3_code, exceptionTable := #[], attributes := #[] }
def k2m1 : Method := { name := "precisionAtRecall", desc := "(D)D", sig := { parameters := [.double], returnType := some .double }, accessFlags := 0, code := some k2c1 }
def k2c2 : Code := { maxStack := 2, maxLocals := 2, code := prog_47_method_4_code, exceptionTable := #[], attributes := #[] }
def k2m2 : Method := { name := "zeroForNaN", desc := "(D)D", sig := { parameters := [.double], returnType := some .double }, accessFlags := 10, code := some k2c2 }
/-- com/example/clausewright/clausewright/scoring/Curve -/
def k2 : Class := { plain "com/example/clausewright/clausewright/scoring/Curve" (some 0) with
  accessFlags := 32
  interfaces := #[]
  cf := some (fileOf pool2 8 #[] #[{ accessFlags := 0, nameIndex := 5, descriptorIndex := 79, attributes := #[] }, { accessFlags := 0, nameIndex := 86, descriptorIndex := 54, attributes := #[] }, { accessFlags := 10, nameIndex := 53, descriptorIndex := 54, attributes := #[] }] 32 2 #[] #[{ accessFlags := 24, nameIndex := 11, descriptorIndex := 12, attributes := #[] }, { accessFlags := 18, nameIndex := 15, descriptorIndex := 12, attributes := #[] }, { accessFlags := 18, nameIndex := 18, descriptorIndex := 12, attributes := #[] }])
  fields := #[{ name := "THRESHOLDS", type := (.array .double), accessFlags := 24, slot := 0, constantValue := 0 }, { name := "recalls", type := (.array .double), accessFlags := 18, slot := 0, constantValue := 0 }, { name := "precisions", type := (.array .double), accessFlags := 18, slot := 1, constantValue := 0 }]
  methods := #[k2m0, k2m1, k2m2]
  instanceTypes := #[(.array .double), (.array .double)]
  staticTypes := #[(.array .double)]
  resolved := Array.replicate 91 none
  statics := some 0 }

def pool3 : Array CpInfo := pool [(8, .class_ 10), (1, u "java/lang/Iterable"), (24, .class_ 36), (0, u "java/lang/Object")] 25

/-- java/lang/Iterable -/
def k3 : Class := { plain "java/lang/Iterable" (some 0) with
  accessFlags := 1537
  interfaces := #[]
  cf := some (fileOf pool3 8 #[] #[] 1537 35 #[] #[])
  fields := #[]
  methods := #[]
  instanceTypes := #[]
  staticTypes := #[]
  resolved := Array.replicate 62 none
  statics := none }

def pool4 : Array CpInfo := pool [(10, .class_ 12), (1, u "java/util/Collection"), (47, .class_ 61), (0, u "java/lang/Object"), (0, .class_ 63), (0, u "java/lang/Iterable")] 51

/-- java/util/Collection -/
def k4 : Class := { plain "java/util/Collection" (some 0) with
  accessFlags := 1537
  interfaces := #[3]
  cf := some (fileOf pool4 10 #[] #[] 1537 60 #[62] #[])
  fields := #[]
  methods := #[]
  instanceTypes := #[]
  staticTypes := #[]
  resolved := Array.replicate 115 none
  statics := none }

def pool5 : Array CpInfo := pool [(1, .methodref 2 3), (0, .class_ 4), (0, .nameAndType 5 6), (0, u "java/lang/Object"), (0, u "<init>"), (0, u "()V"), (1, .class_ 10), (1, u "java/util/AbstractCollection"), (66, .class_ 78), (0, u "java/util/Collection")] 81

def k5c0 : Code := { maxStack := 1, maxLocals := 1, code := jdk_22_method_1_code, exceptionTable := #[], attributes := #[] }
def k5m0 : Method := { name := "<init>", desc := "()V", sig := { parameters := [], returnType := none }, accessFlags := 4, code := some k5c0 }
/-- java/util/AbstractCollection -/
def k5 : Class := { plain "java/util/AbstractCollection" (some 0) with
  accessFlags := 1057
  interfaces := #[4]
  cf := some (fileOf pool5 8 #[] #[{ accessFlags := 4, nameIndex := 5, descriptorIndex := 6, attributes := #[] }] 1057 2 #[77] #[])
  fields := #[]
  methods := #[k5m0]
  instanceTypes := #[]
  staticTypes := #[]
  resolved := Array.replicate 160 none
  statics := none }

def pool6 : Array CpInfo := pool [(8, .class_ 10), (1, u "java/util/SequencedCollection"), (15, .class_ 27), (0, u "java/lang/Object"), (0, .class_ 29), (0, u "java/util/Collection")] 27

/-- java/util/SequencedCollection -/
def k6 : Class := { plain "java/util/SequencedCollection" (some 0) with
  accessFlags := 1537
  interfaces := #[4]
  cf := some (fileOf pool6 8 #[] #[] 1537 26 #[28] #[])
  fields := #[]
  methods := #[]
  instanceTypes := #[]
  staticTypes := #[]
  resolved := Array.replicate 57 none
  statics := none }

def pool7 : Array CpInfo := pool [(8, .class_ 10), (1, u "java/util/List"), (92, .class_ 104), (0, u "java/lang/Object"), (15, .class_ 121), (0, u "java/util/SequencedCollection"), (1, u "iterator"), (0, u "()Ljava/util/Iterator;")] 126

def k7m0 : Method := { name := "iterator", desc := "()Ljava/util/Iterator;", sig := { parameters := [], returnType := some (.object "java/util/Iterator") }, accessFlags := 1025, code := none }
/-- java/util/List -/
def k7 : Class := { plain "java/util/List" (some 0) with
  accessFlags := 1537
  interfaces := #[6]
  cf := some (fileOf pool7 8 #[] #[{ accessFlags := 1025, nameIndex := 123, descriptorIndex := 124, attributes := #[] }] 1537 103 #[120] #[])
  fields := #[]
  methods := #[k7m0]
  instanceTypes := #[]
  staticTypes := #[]
  resolved := Array.replicate 251 none
  statics := none }

def pool8 : Array CpInfo := pool [(1, .methodref 2 3), (0, .class_ 4), (0, .nameAndType 5 6), (0, u "java/util/AbstractCollection"), (0, u "<init>"), (0, u "()V"), (0, .fieldref 8 9), (0, .class_ 10), (0, .nameAndType 11 12), (0, u "java/util/AbstractList"), (0, u "modCount"), (0, u "I"), (64, .class_ 78), (0, u "java/util/AbstractList$Itr"), (3, .class_ 83), (0, u "java/util/AbstractList$ListItr"), (9, .class_ 94), (0, u "java/util/AbstractList$RandomAccessSubList"), (3, .class_ 99), (0, u "java/util/AbstractList$SubList"), (33, .class_ 134), (0, u "java/util/List"), (73, .class_ 209), (0, u "java/util/AbstractList$SubList$1"), (0, .class_ 211), (0, u "java/util/AbstractList$RandomAccessSpliterator")] 6

def k8c0 : Code := { maxStack := 2, maxLocals := 1, code := jdk_39_method_1_code, exceptionTable := #[], attributes := #[] }
def k8m0 : Method := { name := "<init>", desc := "()V", sig := { parameters := [], returnType := none }, accessFlags := 4, code := some k8c0 }
/-- java/util/AbstractList -/
def k8 : Class := { plain "java/util/AbstractList" (some 5) with
  accessFlags := 1057
  interfaces := #[7]
  cf := some (fileOf pool8 8 #[.nestMembers #[93, 98, 208, 210, 82, 77]] #[{ accessFlags := 4, nameIndex := 5, descriptorIndex := 6, attributes := #[] }] 1057 2 #[133] #[{ accessFlags := 132, nameIndex := 11, descriptorIndex := 12, attributes := #[] }])
  fields := #[{ name := "modCount", type := .int, accessFlags := 132, slot := 0, constantValue := 0 }]
  methods := #[k8m0]
  instanceTypes := #[.int]
  staticTypes := #[]
  resolved := Array.replicate 218 none
  statics := none }

def pool9 : Array CpInfo := pool [(1, .class_ 2), (0, u "java/util/RandomAccess"), (0, .class_ 4), (0, u "java/lang/Object")] 2

/-- java/util/RandomAccess -/
def k9 : Class := { plain "java/util/RandomAccess" (some 0) with
  accessFlags := 1537
  interfaces := #[]
  cf := some (fileOf pool9 1 #[] #[] 1537 3 #[] #[])
  fields := #[]
  methods := #[]
  instanceTypes := #[]
  staticTypes := #[]
  resolved := Array.replicate 7 none
  statics := none }

def pool10 : Array CpInfo := pool [(1, .class_ 2), (0, u "java/lang/Cloneable"), (0, .class_ 4), (0, u "java/lang/Object")] 2

/-- java/lang/Cloneable -/
def k10 : Class := { plain "java/lang/Cloneable" (some 0) with
  accessFlags := 1537
  interfaces := #[]
  cf := some (fileOf pool10 1 #[] #[] 1537 3 #[] #[])
  fields := #[]
  methods := #[]
  instanceTypes := #[]
  staticTypes := #[]
  resolved := Array.replicate 7 none
  statics := none }

def pool11 : Array CpInfo := pool [(1, .class_ 2), (0, u "java/io/Serializable"), (0, .class_ 4), (0, u "java/lang/Object")] 2

/-- java/io/Serializable -/
def k11 : Class := { plain "java/io/Serializable" (some 0) with
  accessFlags := 1537
  interfaces := #[]
  cf := some (fileOf pool11 1 #[] #[] 1537 3 #[] #[])
  fields := #[]
  methods := #[]
  instanceTypes := #[]
  staticTypes := #[]
  resolved := Array.replicate 7 none
  statics := none }

def pool12 : Array CpInfo := pool [(1, .methodref 2 3), (0, .class_ 4), (0, .nameAndType 5 6), (0, u "java/util/AbstractList"), (0, u "<init>"), (0, u "()V"), (2, .fieldref 10 11), (0, .class_ 12), (0, .nameAndType 13 14), (0, u "java/util/ArrayList"), (0, u "elementData"), (0, u "[Ljava/lang/Object;"), (2, u "EMPTY_ELEMENTDATA"), (21, .fieldref 10 40), (0, .nameAndType 41 14), (0, u "DEFAULTCAPACITY_EMPTY_ELEMENTDATA"), (8, u "size"), (0, u "I"), (96, .class_ 149), (0, u "java/util/List"), (16, u "iterator"), (0, u "()Ljava/util/Iterator;"), (94, .class_ 263), (0, u "java/util/ArrayList$ListItr"), (3, .class_ 268), (0, u "java/util/ArrayList$Itr"), (0, .methodref 267 270), (0, .nameAndType 5 271), (0, u "(Ljava/util/ArrayList;)V"), (4, .class_ 277), (0, u "java/util/ArrayList$SubList"), (12, .class_ 291), (0, u "java/util/ArrayList$ArrayListSpliterator"), (37, .class_ 330), (0, u "java/util/RandomAccess"), (0, .class_ 332), (0, u "java/lang/Cloneable"), (0, .class_ 334), (0, u "java/io/Serializable"), (0, u "serialVersionUID"), (0, u "J"), (3, u "DEFAULT_CAPACITY"), (159, .class_ 501), (0, u "java/util/ArrayList$SubList$2"), (0, .class_ 503), (0, u "java/util/ArrayList$SubList$1")] 5

def k12c0 : Code := { maxStack := 2, maxLocals := 1, code := jdk_38_method_2_code, exceptionTable := #[], attributes := #[] }
def k12m0 : Method := { name := "<init>", desc := "()V", sig := { parameters := [], returnType := none }, accessFlags := 1, code := some k12c0 }
def k12c1 : Code := { maxStack := 3, maxLocals := 1, code := jdk_38_method_55_code, exceptionTable := #[], attributes := #[] }
def k12m1 : Method := { name := "iterator", desc := "()Ljava/util/Iterator;", sig := { parameters := [], returnType := some (.object "java/util/Iterator") }, accessFlags := 1, code := some k12c1 }
/-- java/util/ArrayList -/
def k12 : Class := { plain "java/util/ArrayList" (some 8) with
  accessFlags := 33
  interfaces := #[7, 9, 10, 11]
  cf := some (fileOf pool12 10 #[.nestMembers #[290, 276, 500, 502, 262, 267]] #[{ accessFlags := 1, nameIndex := 5, descriptorIndex := 6, attributes := #[] }, { accessFlags := 1, nameIndex := 166, descriptorIndex := 167, attributes := #[] }] 33 2 #[148, 329, 331, 333] #[{ accessFlags := 26, nameIndex := 335, descriptorIndex := 336, attributes := #[] }, { accessFlags := 26, nameIndex := 340, descriptorIndex := 51, attributes := #[] }, { accessFlags := 26, nameIndex := 17, descriptorIndex := 14, attributes := #[] }, { accessFlags := 26, nameIndex := 41, descriptorIndex := 14, attributes := #[] }, { accessFlags := 128, nameIndex := 13, descriptorIndex := 14, attributes := #[] }, { accessFlags := 2, nameIndex := 50, descriptorIndex := 51, attributes := #[] }])
  fields := #[{ name := "serialVersionUID", type := .long, accessFlags := 26, slot := 0, constantValue := 0 }, { name := "DEFAULT_CAPACITY", type := .int, accessFlags := 26, slot := 1, constantValue := 0 }, { name := "EMPTY_ELEMENTDATA", type := (.array (.object "java/lang/Object")), accessFlags := 26, slot := 2, constantValue := 0 }, { name := "DEFAULTCAPACITY_EMPTY_ELEMENTDATA", type := (.array (.object "java/lang/Object")), accessFlags := 26, slot := 3, constantValue := 0 }, { name := "elementData", type := (.array (.object "java/lang/Object")), accessFlags := 128, slot := 1, constantValue := 0 }, { name := "size", type := .int, accessFlags := 2, slot := 2, constantValue := 0 }]
  methods := #[k12m0, k12m1]
  instanceTypes := #[.int, (.array (.object "java/lang/Object")), .int]
  staticTypes := #[.long, .int, (.array (.object "java/lang/Object")), (.array (.object "java/lang/Object"))]
  resolved := Array.replicate 509 none
  statics := some 1 }

def pool13 : Array CpInfo := pool [(1, .methodref 2 3), (0, .class_ 4), (0, .nameAndType 5 6), (0, u "java/lang/Object"), (0, u "<init>"), (0, u "()V"), (0, .fieldref 8 9), (0, .class_ 10), (0, .nameAndType 11 12), (0, u "com/example/clausewright/clausewright/scoring/Tally"), (0, u "truePositives"), (0, u "I"), (0, .fieldref 8 14), (0, .nameAndType 15 12), (0, u "falseNegatives"), (0, .fieldref 8 17), (0, .nameAndType 18 12), (0, u "falsePositives"), (2, .double 9221120237041090560), (7, u "precision"), (0, u "()D"), (0, u "recall")] 2

def k13c0 : Code := { maxStack := 1, maxLocals := 1, code := prog_54_method_1_code, exceptionTable := #[], attributes := #[] }
def k13m0 : Method := { name := "<init>", desc := "()V", sig := { parameters := [], returnType := none }, accessFlags := 0, code := some k13c0 }
def k13c1 : Code := { maxStack := 4, maxLocals := 2, code := prog_54_method_4_code, exceptionTable := #[], attributes := #[] }
def k13m1 : Method := { name := "precision", desc := "()D", sig := { parameters := [], returnType := some .double }, accessFlags := 0, code := some k13c1 }
def k13c2 : Code := { maxStack := 4, maxLocals := 2, code := prog_54_method_5_code, exceptionTable := #[], attributes := #[] }
def k13m2 : Method := { name := "recall", desc := "()D", sig := { parameters := [], returnType := some .double }, accessFlags := 0, code := some k13c2 }
/-- com/example/clausewright/clausewright/scoring/Tally -/
def k13 : Class := { plain "com/example/clausewright/clausewright/scoring/Tally" (some 0) with
  accessFlags := 32
  interfaces := #[]
  cf := some (fileOf pool13 8 #[] #[{ accessFlags := 0, nameIndex := 5, descriptorIndex := 6, attributes := #[] }, { accessFlags := 0, nameIndex := 29, descriptorIndex := 30, attributes := #[] }, { accessFlags := 0, nameIndex := 31, descriptorIndex := 30, attributes := #[] }] 32 2 #[] #[{ accessFlags := 2, nameIndex := 11, descriptorIndex := 12, attributes := #[] }, { accessFlags := 2, nameIndex := 18, descriptorIndex := 12, attributes := #[] }, { accessFlags := 2, nameIndex := 15, descriptorIndex := 12, attributes := #[] }])
  fields := #[{ name := "truePositives", type := .int, accessFlags := 2, slot := 0, constantValue := 0 }, { name := "falsePositives", type := .int, accessFlags := 2, slot := 1, constantValue := 0 }, { name := "falseNegatives", type := .int, accessFlags := 2, slot := 2, constantValue := 0 }]
  methods := #[k13m0, k13m1, k13m2]
  instanceTypes := #[.int, .int, .int]
  staticTypes := #[]
  resolved := Array.replicate 34 none
  statics := none }

def pool14 : Array CpInfo := pool [(16, .class_ 18), (1, u "java/util/Iterator"), (0, u "hasNext"), (0, u "()Z"), (10, .class_ 32), (0, u "java/lang/Object")] 20

def k14m0 : Method := { name := "hasNext", desc := "()Z", sig := { parameters := [], returnType := some .boolean }, accessFlags := 1025, code := none }
/-- java/util/Iterator -/
def k14 : Class := { plain "java/util/Iterator" (some 0) with
  accessFlags := 1537
  interfaces := #[]
  cf := some (fileOf pool14 16 #[] #[{ accessFlags := 1025, nameIndex := 19, descriptorIndex := 20, attributes := #[] }] 1537 31 #[] #[])
  fields := #[]
  methods := #[k14m0]
  instanceTypes := #[]
  staticTypes := #[]
  resolved := Array.replicate 53 none
  statics := none }

def pool15 : Array CpInfo := pool [(1, .fieldref 2 3), (0, .class_ 4), (0, .nameAndType 5 6), (0, u "java/util/ArrayList$Itr"), (0, u "this$0"), (0, u "Ljava/util/ArrayList;"), (0, .methodref 8 9), (0, .class_ 10), (0, .nameAndType 11 12), (0, u "java/lang/Object"), (0, u "<init>"), (0, u "()V"), (0, .fieldref 2 14), (0, .nameAndType 15 16), (0, u "lastRet"), (0, u "I"), (0, .fieldref 18 19), (0, .class_ 20), (0, .nameAndType 21 16), (0, u "java/util/ArrayList"), (0, u "modCount"), (0, .fieldref 2 23), (0, .nameAndType 24 16), (0, u "expectedModCount"), (0, .fieldref 2 26), (0, .nameAndType 27 16), (0, u "cursor"), (0, .fieldref 18 29), (0, .nameAndType 30 16), (0, u "size"), (38, .class_ 70), (0, u "java/util/Iterator"), (0, u "(Ljava/util/ArrayList;)V"), (8, u "hasNext"), (0, u "()Z")] 22

def k15c0 : Code := { maxStack := 2, maxLocals := 2, code := jdk_49_method_1_code, exceptionTable := #[], attributes := #[] }
def k15m0 : Method := { name := "<init>", desc := "(Ljava/util/ArrayList;)V", sig := { parameters := [(.object "java/util/ArrayList")], returnType := none }, accessFlags := 0, code := some k15c0 }
def k15c1 : Code := { maxStack := 2, maxLocals := 1, code := jdk_49_method_2_code, exceptionTable := #[], attributes := #[] }
def k15m1 : Method := { name := "hasNext", desc := "()Z", sig := { parameters := [], returnType := some .boolean }, accessFlags := 1, code := some k15c1 }
/-- java/util/ArrayList$Itr -/
def k15 : Class := { plain "java/util/ArrayList$Itr" (some 0) with
  accessFlags := 32
  interfaces := #[14]
  cf := some (fileOf pool15 2 #[.nestHost 18] #[{ accessFlags := 0, nameIndex := 11, descriptorIndex := 71, attributes := #[] }, { accessFlags := 1, nameIndex := 80, descriptorIndex := 81, attributes := #[] }] 32 8 #[69] #[{ accessFlags := 0, nameIndex := 27, descriptorIndex := 16, attributes := #[] }, { accessFlags := 0, nameIndex := 15, descriptorIndex := 16, attributes := #[] }, { accessFlags := 0, nameIndex := 24, descriptorIndex := 16, attributes := #[] }, { accessFlags := 4112, nameIndex := 5, descriptorIndex := 6, attributes := #[] }])
  fields := #[{ name := "cursor", type := .int, accessFlags := 0, slot := 0, constantValue := 0 }, { name := "lastRet", type := .int, accessFlags := 0, slot := 1, constantValue := 0 }, { name := "expectedModCount", type := .int, accessFlags := 0, slot := 2, constantValue := 0 }, { name := "this$0", type := (.object "java/util/ArrayList"), accessFlags := 4112, slot := 3, constantValue := 0 }]
  methods := #[k15m0, k15m1]
  instanceTypes := #[.int, .int, .int, (.object "java/util/ArrayList")]
  staticTypes := #[]
  resolved := Array.replicate 104 none
  statics := none }

def pool16 : Array CpInfo := pool [(2, .class_ 4), (1, u "java/lang/Object"), (0, u "<init>"), (0, u "()V"), (1, .class_ 10), (1, u "java/lang/Number"), (2, .class_ 14), (0, u "java/io/Serializable"), (0, u "serialVersionUID"), (0, u "J")] 20

def k16m0 : Method := { name := "<init>", desc := "()V", sig := { parameters := [], returnType := none }, accessFlags := 1, code := none }
/-- java/lang/Number -/
def k16 : Class := { plain "java/lang/Number" (some 0) with
  accessFlags := 1057
  interfaces := #[11]
  cf := some (fileOf pool16 8 #[] #[{ accessFlags := 1, nameIndex := 5, descriptorIndex := 6, attributes := #[] }] 1057 2 #[13] #[{ accessFlags := 26, nameIndex := 15, descriptorIndex := 16, attributes := #[] }])
  fields := #[{ name := "serialVersionUID", type := .long, accessFlags := 26, slot := 0, constantValue := 0 }]
  methods := #[k16m0]
  instanceTypes := #[]
  staticTypes := #[.long]
  resolved := Array.replicate 37 none
  statics := none }

def pool17 : Array CpInfo := pool [(1, .class_ 2), (0, u "java/lang/Comparable"), (0, .class_ 4), (0, u "java/lang/Object")] 7

/-- java/lang/Comparable -/
def k17 : Class := { plain "java/lang/Comparable" (some 0) with
  accessFlags := 1537
  interfaces := #[]
  cf := some (fileOf pool17 1 #[] #[] 1537 3 #[] #[])
  fields := #[]
  methods := #[]
  instanceTypes := #[]
  staticTypes := #[]
  resolved := Array.replicate 12 none
  statics := none }

def pool18 : Array CpInfo := pool [(1, .class_ 2), (0, u "java/lang/constant/Constable"), (0, .class_ 4), (0, u "java/lang/Object")] 6

/-- java/lang/constant/Constable -/
def k18 : Class := { plain "java/lang/constant/Constable" (some 0) with
  accessFlags := 1537
  interfaces := #[]
  cf := some (fileOf pool18 1 #[] #[] 1537 3 #[] #[])
  fields := #[]
  methods := #[]
  instanceTypes := #[]
  staticTypes := #[]
  resolved := Array.replicate 11 none
  statics := none }

def pool19 : Array CpInfo := pool [(1, .class_ 2), (0, u "java/lang/constant/ConstantDesc"), (0, .class_ 4), (0, u "java/lang/Object")] 32

/-- java/lang/constant/ConstantDesc -/
def k19 : Class := { plain "java/lang/constant/ConstantDesc" (some 0) with
  accessFlags := 1537
  interfaces := #[]
  cf := some (fileOf pool19 1 #[] #[] 1537 3 #[] #[])
  fields := #[]
  methods := #[]
  instanceTypes := #[]
  staticTypes := #[]
  resolved := Array.replicate 37 none
  statics := none }

def pool20 : Array CpInfo := pool [(1, .class_ 2), (0, u "java/lang/Double"), (11, u "(D)Z"), (99, .class_ 116), (1, u "java/lang/Number"), (3, u "value"), (0, u "D"), (2, u "isNaN"), (48, u "TYPE"), (0, u "Ljava/lang/Class;"), (0, .class_ 176), (0, u "java/lang/Comparable"), (0, .class_ 178), (0, u "java/lang/constant/Constable"), (0, .class_ 180), (0, u "java/lang/constant/ConstantDesc"), (0, u "POSITIVE_INFINITY"), (3, u "NEGATIVE_INFINITY"), (2, u "NaN"), (2, u "MAX_VALUE"), (0, u "MIN_NORMAL"), (0, u "MIN_VALUE"), (2, u "SIZE"), (0, u "I"), (1, u "PRECISION"), (1, u "MAX_EXPONENT"), (1, u "MIN_EXPONENT"), (1, u "BYTES"), (3, u "serialVersionUID"), (0, u "J")] 79

def k20c0 : Code := { maxStack := 4, maxLocals := 2, code := jdk_117_method_6_code, exceptionTable := #[], attributes := #[] }
def k20m0 : Method := { name := "isNaN", desc := "(D)Z", sig := { parameters := [.double], returnType := some .boolean }, accessFlags := 9, code := some k20c0 }
/-- java/lang/Double -/
def k20 : Class := { plain "java/lang/Double" (some 16) with
  accessFlags := 49
  interfaces := #[17, 18, 19]
  cf := some (fileOf pool20 1 #[] #[{ accessFlags := 9, nameIndex := 124, descriptorIndex := 14, attributes := #[] }] 49 114 #[175, 177, 179] #[{ accessFlags := 25, nameIndex := 181, descriptorIndex := 121, attributes := #[] }, { accessFlags := 25, nameIndex := 185, descriptorIndex := 121, attributes := #[] }, { accessFlags := 25, nameIndex := 188, descriptorIndex := 121, attributes := #[] }, { accessFlags := 25, nameIndex := 191, descriptorIndex := 121, attributes := #[] }, { accessFlags := 25, nameIndex := 192, descriptorIndex := 121, attributes := #[] }, { accessFlags := 25, nameIndex := 193, descriptorIndex := 121, attributes := #[] }, { accessFlags := 25, nameIndex := 196, descriptorIndex := 197, attributes := #[] }, { accessFlags := 25, nameIndex := 199, descriptorIndex := 197, attributes := #[] }, { accessFlags := 25, nameIndex := 201, descriptorIndex := 197, attributes := #[] }, { accessFlags := 25, nameIndex := 203, descriptorIndex := 197, attributes := #[] }, { accessFlags := 25, nameIndex := 205, descriptorIndex := 197, attributes := #[] }, { accessFlags := 25, nameIndex := 173, descriptorIndex := 174, attributes := #[] }, { accessFlags := 18, nameIndex := 120, descriptorIndex := 121, attributes := #[] }, { accessFlags := 26, nameIndex := 209, descriptorIndex := 210, attributes := #[] }])
  fields := #[{ name := "POSITIVE_INFINITY", type := .double, accessFlags := 25, slot := 0, constantValue := 0 }, { name := "NEGATIVE_INFINITY", type := .double, accessFlags := 25, slot := 1, constantValue := 0 }, { name := "NaN", type := .double, accessFlags := 25, slot := 2, constantValue := 0 }, { name := "MAX_VALUE", type := .double, accessFlags := 25, slot := 3, constantValue := 0 }, { name := "MIN_NORMAL", type := .double, accessFlags := 25, slot := 4, constantValue := 0 }, { name := "MIN_VALUE", type := .double, accessFlags := 25, slot := 5, constantValue := 0 }, { name := "SIZE", type := .int, accessFlags := 25, slot := 6, constantValue := 0 }, { name := "PRECISION", type := .int, accessFlags := 25, slot := 7, constantValue := 0 }, { name := "MAX_EXPONENT", type := .int, accessFlags := 25, slot := 8, constantValue := 0 }, { name := "MIN_EXPONENT", type := .int, accessFlags := 25, slot := 9, constantValue := 0 }, { name := "BYTES", type := .int, accessFlags := 25, slot := 10, constantValue := 0 }, { name := "TYPE", type := (.object "java/lang/Class"), accessFlags := 25, slot := 11, constantValue := 0 }, { name := "value", type := .double, accessFlags := 18, slot := 0, constantValue := 0 }, { name := "serialVersionUID", type := .long, accessFlags := 26, slot := 12, constantValue := 0 }]
  methods := #[k20m0]
  instanceTypes := #[.double]
  staticTypes := #[.double, .double, .double, .double, .double, .double, .int, .int, .int, .int, .int, (.object "java/lang/Class"), .long]
  resolved := Array.replicate 290 none
  statics := none }

def pool21 : Array CpInfo := pool [(1, .class_ 2), (0, u "java/lang/Math"), (1, .class_ 6), (1, u "java/lang/Object"), (0, u "<init>"), (0, u "()V"), (43, u "(DD)D"), (45, .class_ 100), (1, u "java/lang/Math$RandomNumberGeneratorHolder"), (71, u "negativeZeroFloatBits"), (0, u "J"), (2, u "negativeZeroDoubleBits"), (21, u "max"), (46, u "$assertionsDisabled"), (0, u "Z"), (91, u "twoToTheDoubleScaleDown"), (0, u "D"), (4, u "twoToTheDoubleScaleUp"), (9, u "E"), (3, u "PI"), (2, u "TAU"), (2, u "DEGREES_TO_RADIANS"), (0, u "RADIANS_TO_DEGREES")] 94

def k21m0 : Method := { name := "<init>", desc := "()V", sig := { parameters := [], returnType := none }, accessFlags := 2, code := none }
def k21c1 : Code := { maxStack := 4, maxLocals := 4, code := jdk_29_method_68_code, exceptionTable := #[], attributes := #[] }
def k21m1 : Method := { name := "max", desc := "(DD)D", sig := { parameters := [.double, .double], returnType := some .double }, accessFlags := 9, code := some k21c1 }
/-- java/lang/Math -/
def k21 : Class := { plain "java/lang/Math" (some 0) with
  accessFlags := 49
  interfaces := #[]
  cf := some (fileOf pool21 1 #[.nestMembers #[98]] #[{ accessFlags := 2, nameIndex := 7, descriptorIndex := 8, attributes := #[] }, { accessFlags := 9, nameIndex := 198, descriptorIndex := 52, attributes := #[] }] 49 4 #[] #[{ accessFlags := 25, nameIndex := 354, descriptorIndex := 339, attributes := #[] }, { accessFlags := 25, nameIndex := 358, descriptorIndex := 339, attributes := #[] }, { accessFlags := 25, nameIndex := 361, descriptorIndex := 339, attributes := #[] }, { accessFlags := 26, nameIndex := 364, descriptorIndex := 339, attributes := #[] }, { accessFlags := 26, nameIndex := 365, descriptorIndex := 339, attributes := #[] }, { accessFlags := 26, nameIndex := 172, descriptorIndex := 173, attributes := #[] }, { accessFlags := 26, nameIndex := 176, descriptorIndex := 173, attributes := #[] }, { accessFlags := 8, nameIndex := 344, descriptorIndex := 339, attributes := #[] }, { accessFlags := 8, nameIndex := 338, descriptorIndex := 339, attributes := #[] }, { accessFlags := 4120, nameIndex := 245, descriptorIndex := 246, attributes := #[] }])
  fields := #[{ name := "E", type := .double, accessFlags := 25, slot := 0, constantValue := 0 }, { name := "PI", type := .double, accessFlags := 25, slot := 1, constantValue := 0 }, { name := "TAU", type := .double, accessFlags := 25, slot := 2, constantValue := 0 }, { name := "DEGREES_TO_RADIANS", type := .double, accessFlags := 26, slot := 3, constantValue := 0 }, { name := "RADIANS_TO_DEGREES", type := .double, accessFlags := 26, slot := 4, constantValue := 0 }, { name := "negativeZeroFloatBits", type := .long, accessFlags := 26, slot := 5, constantValue := 0 }, { name := "negativeZeroDoubleBits", type := .long, accessFlags := 26, slot := 6, constantValue := 0 }, { name := "twoToTheDoubleScaleUp", type := .double, accessFlags := 8, slot := 7, constantValue := 0 }, { name := "twoToTheDoubleScaleDown", type := .double, accessFlags := 8, slot := 8, constantValue := 0 }, { name := "$assertionsDisabled", type := .boolean, accessFlags := 4120, slot := 9, constantValue := 0 }]
  methods := #[k21m0, k21m1]
  instanceTypes := #[]
  staticTypes := #[.double, .double, .double, .double, .double, .long, .long, .double, .double, .boolean]
  resolved := Array.replicate 460 none
  statics := none }

/-- the primitive byte -/
def k22 : Class := { plain "byte" none with kind := .primitive 'B', accessFlags := 0x411 }
/-- [B -/
def k23 : Class := { plain "[B" (some 0) with kind := .array 22 .byte, interfaces := #[10, 11], accessFlags := 1041 }

/-- the primitive double -/
def k24 : Class := { plain "double" none with kind := .primitive 'D', accessFlags := 0x411 }
/-- [D -/
def k25 : Class := { plain "[D" (some 0) with kind := .array 24 .double, interfaces := #[10, 11], accessFlags := 1041 }

/-- the primitive int -/
def k26 : Class := { plain "int" none with kind := .primitive 'I', accessFlags := 0x411 }
/-- [I -/
def k27 : Class := { plain "[I" (some 0) with kind := .array 26 .int, interfaces := #[10, 11], accessFlags := 1041 }

/-- [Ljava/lang/Object; -/
def k28 : Class := { plain "[Ljava/lang/Object;" (some 0) with kind := .array 0 (.object "java/lang/Object"), interfaces := #[10, 11], accessFlags := 1041 }

def heap : Heap := #[{ cls := 2, slots := #[.ref 2], vm := .statics 2 },
  { cls := 12, slots := #[.long 0, .int 0, .ref 3, .ref 4], vm := .statics 12 },
  { cls := 25, slots := #[.double 0, .double 0, .double 0, .double 0, .double 0, .double 0, .double 0, .double 0, .double 0, .double 0, .double 0, .double 0, .double 0, .double 0, .double 0, .double 0, .double 0, .double 0, .double 0, .double 0, .double 0, .double 0, .double 0, .double 0, .double 0, .double 0, .double 0, .double 0, .double 0, .double 0, .double 0, .double 0, .double 0, .double 0, .double 0, .double 0, .double 0, .double 0, .double 0, .double 0, .double 0, .double 0, .double 0, .double 0, .double 0, .double 0, .double 0, .double 0, .double 0, .double 0, .double 0, .double 0, .double 0, .double 0, .double 0, .double 0, .double 0, .double 0, .double 0, .double 0, .double 0, .double 0, .double 0, .double 0, .double 0, .double 0, .double 0, .double 0, .double 0, .double 0, .double 0, .double 0, .double 0, .double 0, .double 0, .double 0, .double 0, .double 0, .double 0, .double 0, .double 0, .double 0, .double 0, .double 0, .double 0, .double 0, .double 0, .double 0, .double 0, .double 0, .double 0, .double 0, .double 0, .double 0, .double 0, .double 0, .double 0, .double 0, .double 0, .double 0, .double 0], vm := .none },
  { cls := 28, slots := #[], vm := .none },
  { cls := 28, slots := #[], vm := .none }]
def classes : Array Class := #[k0, k1, k2, k3, k4, k5, k6, k7, k8, k9, k10, k11, k12, k13, k14, k15, k16, k17, k18, k19, k20, k21, k22, k23, k24, k25, k26, k27, k28]
def interned : List (Array UInt16 × Addr) := []
def slotsUsed : Nat := 106
def theMethod : MethodId := ⟨1, 1⟩
def args0 : Array Value := #[.int 5, .int 3]
def aboutOver (below : List Frame) : State where
  vm := { classes := classes, interned := interned.toArray }
  heap := heap
  slotsUsed := slotsUsed
  threads := #[{ frames := .invoking theMethod args0 :: below }]
def below0 : List Frame := [.native { method := ⟨0, 0⟩, args := #[] }]
def about1 : State := aboutOver below0
def p0 : Program := .bare "" "" ""
def e0 : Env := launch0.env 0 0 0
theorem w_frames : about1.frames = Frame.invoking theMethod args0 :: below0 := rfl
set_option maxRecDepth 65536 in
theorem w_args : argsFit about1.vm theMethod args0 = true := by decide +kernel
set_option maxRecDepth 65536 in
theorem w_heap : heapFits about1 = true := by decide +kernel
set_option maxRecDepth 65536 in
theorem w_runnable : about1.curStatus? = some .runnable := by decide +kernel
set_option maxRecDepth 65536 in
theorem w_alone : about1.alone = true := by decide +kernel
set_option maxRecDepth 65536 in
theorem w_named : about1.methodNamed? x = some theMethod := by decide +kernel
set_option maxRecDepth 65536 in
theorem w_hears : about1.hears theMethod below0 = true := by decide +kernel
set_option maxRecDepth 65536 in
theorem w_ripe : about1.ripe theMethod args0 below0 = true := by decide +kernel
theorem w_running : about1.status = .running := rfl
set_option maxRecDepth 65536 in
theorem w_room : about1.hasRoom e0.platform room_1 = true :=
  launch0.hasRoom_least _ room_1 (by decide +kernel) (by decide +kernel) (by decide +kernel) (by decide +kernel) (by decide +kernel) (by decide +kernel)
theorem allAtoms_all (ts : List Jvm.Cond) (a : Array Jvm.Value) (st : Jvm.State) : (allAtoms ts).before a st = ts.all (fun c => c.before a st) := by
  induction ts with
  | nil => rfl
  | cons c t ih =>
    show (Jvm.Cond.and c (allAtoms t)).before a st = _
    rw [Jvm.Cond.before_and, ih, List.all_cons]
def words1 : List Jvm.Cond := Jvm.Cond.code x code maxLocals ret :: tables_1
/-- a 'code' word, met by the world's own term for the bytes: nothing is compared byte by byte -/
theorem code_word {y : MethodName} {bytes : ByteArray} {mx : Nat} {rt : Option FieldType} {a : Array Value} {s : State} {m : MethodId} {meth : Method} {c : Code} (h1 : s.methodNamed? y = some m) (h2 : s.vm.method? m = some meth) (h3 : meth.code = some c) (h4 : c.code = bytes)
    (h5 : (c.maxLocals == mx && c.exceptionTable.isEmpty && decide (c.maxStack ≤ mostOperands) && decide (meth.sig.returnType = rt) && !meth.locks && decide (parseMethodDescriptor y.desc = some meth.sig)) = true) : (Jvm.Cond.code y bytes mx rt).before a s = true := by
  simp only [Bool.and_eq_true, beq_iff_eq, Bool.not_eq_true', decide_eq_true_eq] at h5
  obtain ⟨⟨⟨⟨⟨g1, g2⟩, g3⟩, g4⟩, g5⟩, g6⟩ := h5
  simp [Cond.before, Cond.holds, Cond.value, h1, h2, h3, h4, g1, g2, g3, g4, g5, g6]
def isCode : Jvm.Cond → Bool
  | .code _ _ _ _ => true
  | _ => false
theorem all_split {L : List Jvm.Cond} {P : Jvm.Cond → Bool} (h1 : L.all (fun c => isCode c || P c) = true) (h2 : ∀ c ∈ L.filter isCode, P c = true) : L.all P = true := by
  refine List.all_eq_true.mpr fun c hc => ?_
  have h := List.all_eq_true.mp h1 c hc
  rcases Bool.eq_false_or_eq_true (isCode c) with hi | hi
  · exact h2 c (List.mem_filter.mpr ⟨hc, hi⟩)
  · simpa [hi] using h
set_option maxRecDepth 65536 in
theorem w_c0 : (Jvm.Cond.code x code maxLocals ret).before args0 about1 = true := code_word (m := ⟨1, 1⟩) (meth := k1m1) (c := k1c1) (by decide +kernel) rfl rfl rfl (by decide +kernel)
set_option maxRecDepth 65536 in
theorem w_c1 : (Jvm.Cond.code ({ cls := "java/util/ArrayList", name := "<init>", desc := "()V" } : Jvm.MethodName) jdk_38_method_2_code (1 : Nat) (Option.none : Option Jvm.ClassFile.FieldType)).before args0 about1 = true := code_word (m := ⟨12, 0⟩) (meth := k12m0) (c := k12c0) (by decide +kernel) rfl rfl rfl (by decide +kernel)
set_option maxRecDepth 65536 in
theorem w_c2 : (Jvm.Cond.code ({ cls := "java/util/AbstractList", name := "<init>", desc := "()V" } : Jvm.MethodName) jdk_39_method_1_code (1 : Nat) (Option.none : Option Jvm.ClassFile.FieldType)).before args0 about1 = true := code_word (m := ⟨8, 0⟩) (meth := k8m0) (c := k8c0) (by decide +kernel) rfl rfl rfl (by decide +kernel)
set_option maxRecDepth 65536 in
theorem w_c3 : (Jvm.Cond.code ({ cls := "java/util/AbstractCollection", name := "<init>", desc := "()V" } : Jvm.MethodName) jdk_22_method_1_code (1 : Nat) (Option.none : Option Jvm.ClassFile.FieldType)).before args0 about1 = true := code_word (m := ⟨5, 0⟩) (meth := k5m0) (c := k5c0) (by decide +kernel) rfl rfl rfl (by decide +kernel)
set_option maxRecDepth 65536 in
theorem w_c4 : (Jvm.Cond.code ({ cls := "java/lang/Object", name := "<init>", desc := "()V" } : Jvm.MethodName) object_method_1_code (1 : Nat) (Option.none : Option Jvm.ClassFile.FieldType)).before args0 about1 = true := code_word (m := ⟨0, 0⟩) (meth := k0m0) (c := k0c0) (by decide +kernel) rfl rfl rfl (by decide +kernel)
set_option maxRecDepth 65536 in
theorem w_c5 : (Jvm.Cond.code ({ cls := "com/example/clausewright/clausewright/scoring/Curve", name := "<init>", desc := "(Ljava/util/List;)V" } : Jvm.MethodName) prog_47_method_1_code (7 : Nat) (Option.none : Option Jvm.ClassFile.FieldType)).before args0 about1 = true := code_word (m := ⟨2, 0⟩) (meth := k2m0) (c := k2c0) (by decide +kernel) rfl rfl rfl (by decide +kernel)
set_option maxRecDepth 65536 in
theorem w_c6 : (Jvm.Cond.code ({ cls := "com/example/clausewright/clausewright/scoring/Tally", name := "<init>", desc := "()V" } : Jvm.MethodName) prog_54_method_1_code (1 : Nat) (Option.none : Option Jvm.ClassFile.FieldType)).before args0 about1 = true := code_word (m := ⟨13, 0⟩) (meth := k13m0) (c := k13c0) (by decide +kernel) rfl rfl rfl (by decide +kernel)
set_option maxRecDepth 65536 in
theorem w_c7 : (Jvm.Cond.code ({ cls := "java/util/ArrayList", name := "iterator", desc := "()Ljava/util/Iterator;" } : Jvm.MethodName) jdk_38_method_55_code (1 : Nat) (Option.some (Jvm.ClassFile.FieldType.object "java/util/Iterator"))).before args0 about1 = true := code_word (m := ⟨12, 1⟩) (meth := k12m1) (c := k12c1) (by decide +kernel) rfl rfl rfl (by decide +kernel)
set_option maxRecDepth 65536 in
theorem w_c8 : (Jvm.Cond.code ({ cls := "java/util/ArrayList$Itr", name := "<init>", desc := "(Ljava/util/ArrayList;)V" } : Jvm.MethodName) jdk_49_method_1_code (2 : Nat) (Option.none : Option Jvm.ClassFile.FieldType)).before args0 about1 = true := code_word (m := ⟨15, 0⟩) (meth := k15m0) (c := k15c0) (by decide +kernel) rfl rfl rfl (by decide +kernel)
set_option maxRecDepth 65536 in
theorem w_c9 : (Jvm.Cond.code ({ cls := "java/util/ArrayList$Itr", name := "hasNext", desc := "()Z" } : Jvm.MethodName) jdk_49_method_2_code (1 : Nat) (Option.some Jvm.ClassFile.FieldType.boolean)).before args0 about1 = true := code_word (m := ⟨15, 1⟩) (meth := k15m1) (c := k15c1) (by decide +kernel) rfl rfl rfl (by decide +kernel)
set_option maxRecDepth 65536 in
theorem w_c10 : (Jvm.Cond.code ({ cls := "com/example/clausewright/clausewright/scoring/Tally", name := "recall", desc := "()D" } : Jvm.MethodName) prog_54_method_5_code (2 : Nat) (Option.some Jvm.ClassFile.FieldType.double)).before args0 about1 = true := code_word (m := ⟨13, 2⟩) (meth := k13m2) (c := k13c2) (by decide +kernel) rfl rfl rfl (by decide +kernel)
set_option maxRecDepth 65536 in
theorem w_c11 : (Jvm.Cond.code ({ cls := "com/example/clausewright/clausewright/scoring/Tally", name := "precision", desc := "()D" } : Jvm.MethodName) prog_54_method_4_code (2 : Nat) (Option.some Jvm.ClassFile.FieldType.double)).before args0 about1 = true := code_word (m := ⟨13, 1⟩) (meth := k13m1) (c := k13c1) (by decide +kernel) rfl rfl rfl (by decide +kernel)
set_option maxRecDepth 65536 in
theorem w_c12 : (Jvm.Cond.code ({ cls := "com/example/clausewright/clausewright/scoring/Curve", name := "zeroForNaN", desc := "(D)D" } : Jvm.MethodName) prog_47_method_4_code (2 : Nat) (Option.some Jvm.ClassFile.FieldType.double)).before args0 about1 = true := code_word (m := ⟨2, 2⟩) (meth := k2m2) (c := k2c2) (by decide +kernel) rfl rfl rfl (by decide +kernel)
set_option maxRecDepth 65536 in
theorem w_c13 : (Jvm.Cond.code ({ cls := "java/lang/Double", name := "isNaN", desc := "(D)Z" } : Jvm.MethodName) jdk_117_method_6_code (2 : Nat) (Option.some Jvm.ClassFile.FieldType.boolean)).before args0 about1 = true := code_word (m := ⟨20, 0⟩) (meth := k20m0) (c := k20c0) (by decide +kernel) rfl rfl rfl (by decide +kernel)
set_option maxRecDepth 65536 in
theorem w_c14 : (Jvm.Cond.code ({ cls := "java/lang/Math", name := "max", desc := "(DD)D" } : Jvm.MethodName) jdk_29_method_68_code (4 : Nat) (Option.some Jvm.ClassFile.FieldType.double)).before args0 about1 = true := code_word (m := ⟨21, 1⟩) (meth := k21m1) (c := k21c1) (by decide +kernel) rfl rfl rfl (by decide +kernel)
set_option maxRecDepth 65536 in
theorem w_c15 : (Jvm.Cond.code ({ cls := "com/example/clausewright/clausewright/scoring/Curve", name := "precisionAtRecall", desc := "(D)D" } : Jvm.MethodName) prog_47_method_3_code (4 : Nat) (Option.some Jvm.ClassFile.FieldType.double)).before args0 about1 = true := code_word (m := ⟨2, 1⟩) (meth := k2m1) (c := k2c1) (by decide +kernel) rfl rfl rfl (by decide +kernel)
def codes1 : List Jvm.Cond := [Jvm.Cond.code x code maxLocals ret, Jvm.Cond.code ({ cls := "java/util/ArrayList", name := "<init>", desc := "()V" } : Jvm.MethodName) jdk_38_method_2_code (1 : Nat) (Option.none : Option Jvm.ClassFile.FieldType), Jvm.Cond.code ({ cls := "java/util/AbstractList", name := "<init>", desc := "()V" } : Jvm.MethodName) jdk_39_method_1_code (1 : Nat) (Option.none : Option Jvm.ClassFile.FieldType), Jvm.Cond.code ({ cls := "java/util/AbstractCollection", name := "<init>", desc := "()V" } : Jvm.MethodName) jdk_22_method_1_code (1 : Nat) (Option.none : Option Jvm.ClassFile.FieldType), Jvm.Cond.code ({ cls := "java/lang/Object", name := "<init>", desc := "()V" } : Jvm.MethodName) object_method_1_code (1 : Nat) (Option.none : Option Jvm.ClassFile.FieldType), Jvm.Cond.code ({ cls := "com/example/clausewright/clausewright/scoring/Curve", name := "<init>", desc := "(Ljava/util/List;)V" } : Jvm.MethodName) prog_47_method_1_code (7 : Nat) (Option.none : Option Jvm.ClassFile.FieldType), Jvm.Cond.code ({ cls := "com/example/clausewright/clausewright/scoring/Tally", name := "<init>", desc := "()V" } : Jvm.MethodName) prog_54_method_1_code (1 : Nat) (Option.none : Option Jvm.ClassFile.FieldType), Jvm.Cond.code ({ cls := "java/util/ArrayList", name := "iterator", desc := "()Ljava/util/Iterator;" } : Jvm.MethodName) jdk_38_method_55_code (1 : Nat) (Option.some (Jvm.ClassFile.FieldType.object "java/util/Iterator")), Jvm.Cond.code ({ cls := "java/util/ArrayList$Itr", name := "<init>", desc := "(Ljava/util/ArrayList;)V" } : Jvm.MethodName) jdk_49_method_1_code (2 : Nat) (Option.none : Option Jvm.ClassFile.FieldType), Jvm.Cond.code ({ cls := "java/util/ArrayList$Itr", name := "hasNext", desc := "()Z" } : Jvm.MethodName) jdk_49_method_2_code (1 : Nat) (Option.some Jvm.ClassFile.FieldType.boolean), Jvm.Cond.code ({ cls := "com/example/clausewright/clausewright/scoring/Tally", name := "recall", desc := "()D" } : Jvm.MethodName) prog_54_method_5_code (2 : Nat) (Option.some Jvm.ClassFile.FieldType.double), Jvm.Cond.code ({ cls := "com/example/clausewright/clausewright/scoring/Tally", name := "precision", desc := "()D" } : Jvm.MethodName) prog_54_method_4_code (2 : Nat) (Option.some Jvm.ClassFile.FieldType.double), Jvm.Cond.code ({ cls := "com/example/clausewright/clausewright/scoring/Curve", name := "zeroForNaN", desc := "(D)D" } : Jvm.MethodName) prog_47_method_4_code (2 : Nat) (Option.some Jvm.ClassFile.FieldType.double), Jvm.Cond.code ({ cls := "java/lang/Double", name := "isNaN", desc := "(D)Z" } : Jvm.MethodName) jdk_117_method_6_code (2 : Nat) (Option.some Jvm.ClassFile.FieldType.boolean), Jvm.Cond.code ({ cls := "java/lang/Math", name := "max", desc := "(DD)D" } : Jvm.MethodName) jdk_29_method_68_code (4 : Nat) (Option.some Jvm.ClassFile.FieldType.double), Jvm.Cond.code ({ cls := "com/example/clausewright/clausewright/scoring/Curve", name := "precisionAtRecall", desc := "(D)D" } : Jvm.MethodName) prog_47_method_3_code (4 : Nat) (Option.some Jvm.ClassFile.FieldType.double)]
set_option maxRecDepth 65536 in
theorem codes_eq : words1.filter isCode = codes1 := rfl
theorem w_codes : ∀ c ∈ words1.filter isCode, c.before args0 about1 = true := by
  rw [codes_eq]
  intro c hc
  simp only [codes1, List.mem_cons, List.not_mem_nil, or_false] at hc
  rcases hc with rfl | rfl | rfl | rfl | rfl | rfl | rfl | rfl | rfl | rfl | rfl | rfl | rfl | rfl | rfl | rfl
  · exact w_c0
  · exact w_c1
  · exact w_c2
  · exact w_c3
  · exact w_c4
  · exact w_c5
  · exact w_c6
  · exact w_c7
  · exact w_c8
  · exact w_c9
  · exact w_c10
  · exact w_c11
  · exact w_c12
  · exact w_c13
  · exact w_c14
  · exact w_c15
set_option maxRecDepth 65536 in
theorem w_t1 : (words1.take 24).all (fun c => isCode c || c.before args0 about1) = true := by decide +kernel
set_option maxRecDepth 65536 in
theorem w_t2 : ((words1.drop 24).take 24).all (fun c => isCode c || c.before args0 about1) = true := by decide +kernel
set_option maxRecDepth 65536 in
theorem w_t3 : (((words1.drop 24).drop 24).take 24).all (fun c => isCode c || c.before args0 about1) = true := by decide +kernel
set_option maxRecDepth 65536 in
theorem w_t4 : ((((words1.drop 24).drop 24).drop 24).take 24).all (fun c => isCode c || c.before args0 about1) = true := by decide +kernel
set_option maxRecDepth 65536 in
theorem w_t5 : ((((words1.drop 24).drop 24).drop 24).drop 24).all (fun c => isCode c || c.before args0 about1) = true := by decide +kernel
theorem w_tables : (allAtoms (Jvm.Cond.code x code maxLocals ret :: tables_1)).before args0 about1 = true := by
  rw [allAtoms_all]
  show words1.all (fun c => c.before args0 about1) = true
  refine all_split ?_ w_codes
  rw [← List.take_append_drop 24 words1, List.all_append, w_t1, ← List.take_append_drop 24 (words1.drop 24), List.all_append, w_t2, ← List.take_append_drop 24 ((words1.drop 24).drop 24), List.all_append, w_t3, ← List.take_append_drop 24 (((words1.drop 24).drop 24).drop 24), List.all_append, w_t4, w_t5]
  rfl
set_option maxRecDepth 65536 in
theorem w_rest : rest_1_c.before args0 about1 = true := by decide +kernel
set_option maxRecDepth 65536 in
theorem w_case : (Jvm.Cond.and given_1 narrow_1).before args0 about1 = true := by decide +kernel
theorem w_applies : (headSpec (Jvm.Cond.code x code maxLocals ret :: tables_1) room_1).applies x e0.platform about1 = true :=
  (Spec.applies_iff w_frames).mpr ⟨w_running, w_runnable, w_alone, w_named, w_hears, w_ripe, w_room, w_tables⟩
theorem atStart : AtStart classFile x code maxLocals ret World_1 tables_1 room_1 Calls_1 rest_1 Pre_1 launch0 p0 e0 about1 theMethod args0 below0 :=
  ⟨lists_1, trivial, launch0.admits_env _ _ _, launch0.least_env, fairChoices_fair.cas, fairChoices_fair.clock, w_frames, w_args, w_heap, w_applies, trivial, w_rest, w_case⟩
end start1
theorem witness_1 : WitnessClaimed_1 := ⟨start1.p0, start1.e0, start1.about1, start1.theMethod, start1.args0, start1.below0, start1.atStart⟩
end Jvm.Pilot.@@N@@
