import JvmDerived
import JvmDerived.Pilot.@@N@@Statement
import JvmDerived.Pilot.@@N@@Code
set_option linter.unusedVariables false
set_option linter.unusedSimpArgs false
@@BLOCK:NumsL.lean.txt@@
namespace Jvm.Pilot.@@N@@
open Jvm Jvm.ClassFile Sem Op Lib Jvm.Free Jvm.Stand Jvm.LawKit Jvm.RoadKit Bundle Jvm.Pilot.@@N@@.Jvm.D
section OwnFP
open Jvm.FP.Core
/-- the datum is i * 2^k -/
def OwnSc (k i : Int) : Datum → Prop
  | .fin s c q => Whole i (.fin s c (q - k))
  | _ => False
/-- the double is i * 2^k -/
def OwnDS (k i : Int) (a : UInt64) : Prop := OwnSc k i (val64 a)

theorem own_sc_fin {k i : Int} {d : Datum} (h : OwnSc k i d) : ∃ s c q, d = .fin s c q ∧ Whole i (.fin s c (q - k)) := by
  cases d with
  | nan => exact h.elim
  | inf => exact h.elim
  | fin s c q => exact ⟨s, c, q, rfl, h⟩

theorem own_ds_int {i : Int} {a : UInt64} (h : DInt i a) : OwnDS 0 i a := by
  have h' : Whole i (val64 a) := h
  show OwnSc 0 i (val64 a)
  cases hv : val64 a with
  | nan => rw [hv] at h'; exact h'.elim
  | inf => rw [hv] at h'; exact h'.elim
  | fin s c q => rw [hv] at h'; show Whole i (.fin s c (q - 0)); rw [Int.sub_zero]; exact h'

theorem own_int_ds {i : Int} {a : UInt64} (h : OwnDS 0 i a) : DInt i a := by
  obtain ⟨s, c, q, hv, h'⟩ := own_sc_fin h
  show Whole i (val64 a)
  rw [hv]; rw [Int.sub_zero] at h'; exact h'

theorem own_ds_ne_nan {k i : Int} {a : UInt64} (h : OwnDS k i a) : val64 a ≠ .nan := by
  obtain ⟨s, c, q, hv, -⟩ := own_sc_fin h
  rw [hv]; exact Datum.noConfusion

/-- the numbers i * 2^k with |i| < 2^n are doubles where n ≤ 53, n + k ≤ 1024, -1022 ≤ k -/
theorem own_fitAt (s : Bool) {n m : Nat} {k : Int} (hm : m < 2 ^ n) (hn : n ≤ 53) (h1 : (n : Int) + k ≤ 1024) (h2 : -1022 ≤ k) :
    ∃ c q, Jvm.FP.Core.fits b64 (.fin s c q) ∧ m * 2 ^ (k - q).toNat = c * 1 * 2 ^ (q - k).toNat := by
  have hq1 : b64.qmin = -1074 := by decide
  have hq2 : b64.qmax = 971 := by decide
  by_cases h0 : m = 0
  · subst h0
    exact ⟨0, b64.qmin, zero_fits good_b64 s, by simp⟩
  · have l1 : 2 ^ m.log2 ≤ m := Nat.log2_self_le h0
    have l2 : m < 2 ^ (m.log2 + 1) := Nat.lt_log2_self
    have l3 : m.log2 < n := (Nat.pow_lt_pow_iff_right (by decide : 1 < 2)).mp (Nat.lt_of_le_of_lt l1 hm)
    generalize m.log2 = L at l1 l2 l3
    refine ⟨m * 2 ^ (52 - L), (L : Int) - 52 + k, ⟨?_, by omega, by omega, .inr ?_⟩, ?_⟩
    · calc m * 2 ^ (52 - L) < 2 ^ (L + 1) * 2 ^ (52 - L) := Nat.mul_lt_mul_of_pos_right l2 (Nat.two_pow_pos _)
        _ = 2 ^ b64.p := by rw [← Nat.pow_add]; congr 1; show L + 1 + (52 - L) = 53; omega
    · calc b64.tails = 2 ^ L * 2 ^ (52 - L) := by rw [← Nat.pow_add]; show 2 ^ 52 = _; congr 1; omega
        _ ≤ m * 2 ^ (52 - L) := Nat.mul_le_mul_right _ l1
    · rw [show (k - ((L : Int) - 52 + k)).toNat = 52 - L by omega, show ((L : Int) - 52 + k - k).toNat = 0 by omega]
      simp

theorem own_signed_of {i : Int} {s : Bool} {c : Nat} {q : Int} (h : Whole i (.fin s c q)) : signed s i.natAbs = i := by
  by_cases hi : i = 0
  · rw [hi]; exact signed_zero s
  · rw [whole_sign h hi]
    by_cases h : i < 0
    · rw [decide_eq_true h]; show -(i.natAbs : Int) = i; omega
    · rw [decide_eq_false h]; show (i.natAbs : Int) = i; omega

/-- what roundRatio makes of a ratio that is m * 2^k, m < 2^n -/
theorem own_rr {s : Bool} {A B m n : Nat} {e k i : Int} (hB : 0 < B) (hv : A * 2 ^ (e - k).toNat = m * B * 2 ^ (k - e).toNat)
    (hm : m < 2 ^ n) (hn : n ≤ 53) (h1 : (n : Int) + k ≤ 1024) (h2 : -1022 ≤ k) (hi : signed s m = i) : OwnSc k i (roundRatio b64 s A B e) := by
  obtain ⟨c', q', hfit, hv'⟩ := own_fitAt s hm hn h1 h2
  rw [roundRatio_congr (A' := m) (B' := 1) (e' := k) hB (by decide) (by simpa using hv), roundRatio_exact good_b64 (by decide) hfit hv']
  show signed s (c' * 2 ^ (q' - k).toNat) = i * ((2 ^ (-(q' - k)).toNat : Nat) : Int)
  rw [show (-(q' - k)).toNat = (k - q').toNat by omega, ← hi, ← signed_mul, hv', Nat.mul_one]

theorem own_sc_round {n : Nat} {k i : Int} {d : Datum} (h : OwnSc k i d) (hi : i.natAbs < 2 ^ n) (hn : n ≤ 53) (h1 : (n : Int) + k ≤ 1024) (h2 : -1022 ≤ k) : OwnSc k i (round b64 d) := by
  obtain ⟨s, c, q, rfl, hw⟩ := own_sc_fin h
  refine own_rr (m := i.natAbs) (n := n) (by decide) ?_ hi hn h1 h2 (own_signed_of hw)
  have q1 := whole_natAbs hw
  rw [show (-(q - k)).toNat = (k - q).toNat by omega] at q1
  simpa using q1

theorem own_shift_sum (s : Bool) (c : Nat) (q : Int) (t : Bool) (d : Nat) (r k : Int) :
    ∃ u f w, exactSum (.fin s c q) (.fin t d r) = .fin u f w ∧ exactSum (.fin s c (q - k)) (.fin t d (r - k)) = .fin u f (w - k) := by
  refine ⟨_, _, _, rfl, ?_⟩
  have hmin : min (q - k) (r - k) = min q r - k := by omega
  have hu : sumUnits s c (q - k) t d (r - k) (min (q - k) (r - k)) = sumUnits s c q t d r (min q r) := by
    show signed s (c * 2 ^ (q - k - min (q - k) (r - k)).toNat) + signed t (d * 2 ^ (r - k - min (q - k) (r - k)).toNat) = signed s (c * 2 ^ (q - min q r).toNat) + signed t (d * 2 ^ (r - min q r).toNat)
    rw [hmin, show q - k - (min q r - k) = q - min q r by omega, show r - k - (min q r - k) = r - min q r by omega]
  show Datum.fin (sumSign s t (sumUnits s c (q - k) t d (r - k) (min (q - k) (r - k)))) (sumUnits s c (q - k) t d (r - k) (min (q - k) (r - k))).natAbs (min (q - k) (r - k)) = _
  rw [hu, hmin]

theorem own_sc_sum {k i j : Int} {x y : Datum} (hx : OwnSc k i x) (hy : OwnSc k j y) : OwnSc k (i + j) (exactSum x y) := by
  obtain ⟨s, c, q, rfl, h1⟩ := own_sc_fin hx
  obtain ⟨t, d, r, rfl, h2⟩ := own_sc_fin hy
  obtain ⟨u, f, w, e1, e2⟩ := own_shift_sum s c q t d r k
  have h3 := whole_sum h1 h2
  rw [e2] at h3
  rw [e1]; exact h3

theorem own_sc_neg {k i : Int} {x : Datum} (hx : OwnSc k i x) : OwnSc k (-i) (negate x) := by
  obtain ⟨s, c, q, rfl, h1⟩ := own_sc_fin hx
  exact whole_negate h1

theorem own_sc_mul {k l i j : Int} {x y : Datum} (hx : OwnSc k i x) (hy : OwnSc l j y) : OwnSc (k + l) (i * j) (exactProduct x y) := by
  obtain ⟨s, c, q, rfl, h1⟩ := own_sc_fin hx
  obtain ⟨t, d, r, rfl, h2⟩ := own_sc_fin hy
  have h3 : Whole (i * j) (.fin (s != t) (c * d) (q - k + (r - l))) := whole_product h1 h2
  show Whole (i * j) (.fin (s != t) (c * d) (q + r - (k + l)))
  rw [show q + r - (k + l) = q - k + (r - l) by omega]; exact h3

theorem own_ds_add {n : Nat} {k i j : Int} {a b : UInt64} (ha : OwnDS k i a) (hb : OwnDS k j b) (h : (i + j).natAbs < 2 ^ n) (hn : n ≤ 53 := by decide) (h1 : (n : Int) + k ≤ 1024 := by decide) (h2 : -1022 ≤ k := by decide) : OwnDS k (i + j) (dadd a b) := by
  show OwnSc _ _ _
  rw [val64_dadd]; exact own_sc_round (own_sc_sum ha hb) h hn h1 h2
theorem own_ds_sub {n : Nat} {k i j : Int} {a b : UInt64} (ha : OwnDS k i a) (hb : OwnDS k j b) (h : (i - j).natAbs < 2 ^ n) (hn : n ≤ 53 := by decide) (h1 : (n : Int) + k ≤ 1024 := by decide) (h2 : -1022 ≤ k := by decide) : OwnDS k (i - j) (dsub a b) := by
  show OwnSc _ _ _
  rw [val64_dsub]; exact own_sc_round (own_sc_sum ha (own_sc_neg hb)) h hn h1 h2
theorem own_ds_mul {n : Nat} {k l i j : Int} {a b : UInt64} (ha : OwnDS k i a) (hb : OwnDS l j b) (h : (i * j).natAbs < 2 ^ n) (hn : n ≤ 53 := by decide) (h1 : (n : Int) + (k + l) ≤ 1024 := by decide) (h2 : -1022 ≤ k + l := by decide) : OwnDS (k + l) (i * j) (dmul a b) := by
  show OwnSc _ _ _
  rw [val64_dmul]; exact own_sc_round (own_sc_mul ha hb) h hn h1 h2
theorem own_ds_negC {k i : Int} {a : UInt64} (ha : OwnDS k i a) : OwnDS k (-i) (dneg a) := by
  show OwnSc _ _ _
  rw [val64_dneg]; exact own_sc_neg ha

theorem own_order_shift (s : Bool) (c : Nat) (q : Int) (t : Bool) (d : Nat) (r k : Int) :
    order (.fin s c (q - k)) (.fin t d (r - k)) = order (.fin s c q) (.fin t d r) := by
  have hmin : min (q - k) (r - k) = min q r - k := by omega
  show some (compare (signed s (c * 2 ^ (q - k - min (q - k) (r - k)).toNat)) (signed t (d * 2 ^ (r - k - min (q - k) (r - k)).toNat))) = some (compare (signed s (c * 2 ^ (q - min q r).toNat)) (signed t (d * 2 ^ (r - min q r).toNat)))
  rw [hmin, show q - k - (min q r - k) = q - min q r by omega, show r - k - (min q r - k) = r - min q r by omega]

theorem own_ds_cmp {k i j : Int} {a b : UInt64} (ha : OwnDS k i a) (hb : OwnDS k j b) : dcmp a b = some (compare i j) := by
  obtain ⟨s, c, q, e1, h1⟩ := own_sc_fin ha
  obtain ⟨t, d, r, e2, h2⟩ := own_sc_fin hb
  show order (val64 a) (val64 b) = _
  rw [e1, e2, ← own_order_shift _ _ _ _ _ _ k]
  exact order_whole h1 h2

/-- the number kept, its scale moved down -/
theorem own_ds_down {k i : Int} {a : UInt64} (n : Nat) (h : OwnDS (k + n) i a) : OwnDS k (i * ((2 ^ n : Nat) : Int)) a := by
  obtain ⟨s, c, q, e1, h1⟩ := own_sc_fin h
  show OwnSc _ _ _
  rw [e1]
  have h2 : signed s (c * 2 ^ (q - (k + n)).toNat) = i * ((2 ^ (-(q - (k + n))).toNat : Nat) : Int) := h1
  show signed s (c * 2 ^ (q - k).toNat) = i * ((2 ^ n : Nat) : Int) * ((2 ^ (-(q - k)).toNat : Nat) : Int)
  have p2 : ((2 ^ (-(q - (k + n))).toNat : Nat) : Int) ≠ 0 := by
    have := Nat.two_pow_pos (-(q - (k + n))).toNat; omega
  refine Int.eq_of_mul_eq_mul_right p2 ?_
  have hx : (q - k).toNat + (-(q - (k + n))).toNat = (q - (k + n)).toNat + (n + (-(q - k)).toNat) := by omega
  rw [← signed_mul, Nat.mul_assoc, ← Nat.pow_add, hx, Nat.pow_add, ← Nat.mul_assoc, signed_mul, h2, Nat.pow_add]
  rw [Int.natCast_mul]; ac_rfl
theorem own_ds_up {k i : Int} {a : UInt64} (n : Nat) (h : OwnDS k (i * ((2 ^ n : Nat) : Int)) a) : OwnDS (k + n) i a := by
  obtain ⟨s, c, q, e1, h1⟩ := own_sc_fin h
  show OwnSc _ _ _
  rw [e1]
  have h2 : signed s (c * 2 ^ (q - k).toNat) = i * ((2 ^ n : Nat) : Int) * ((2 ^ (-(q - k)).toNat : Nat) : Int) := h1
  show signed s (c * 2 ^ (q - (k + n)).toNat) = i * ((2 ^ (-(q - (k + n))).toNat : Nat) : Int)
  have p2 : ((2 ^ (n + (-(q - k)).toNat) : Nat) : Int) ≠ 0 := by
    have := Nat.two_pow_pos (n + (-(q - k)).toNat); omega
  refine Int.eq_of_mul_eq_mul_right p2 ?_
  have hx : (q - (k + n)).toNat + (n + (-(q - k)).toNat) = (q - k).toNat + (-(q - (k + n))).toNat := by omega
  rw [← signed_mul, Nat.mul_assoc, ← Nat.pow_add, hx, Nat.pow_add, ← Nat.mul_assoc, signed_mul, h2, Nat.pow_add]
  rw [Int.natCast_mul]; ac_rfl

/-- a quotient that is whole (in its scale) is exact -/
theorem own_ds_div {n : Nat} {k l i j m : Int} {a b : UInt64} (ha : OwnDS k i a) (hb : OwnDS l j b) (hj : j ≠ 0) (hm : i = m * j) (h : m.natAbs < 2 ^ n) (hn : n ≤ 53 := by decide) (h1 : (n : Int) + (k - l) ≤ 1024 := by decide) (h2 : -1022 ≤ k - l := by decide) : OwnDS (k - l) m (ddiv a b) := by
  obtain ⟨s, c, q, e1, w1⟩ := own_sc_fin ha
  obtain ⟨t, d, r, e2, w2⟩ := own_sc_fin hb
  show OwnSc _ _ _
  rw [val64_ddiv, e1, e2]
  have hd : d ≠ 0 := fun h0 => hj ((whole_zero w2).mp h0)
  have hq : quotient b64 (.fin s c q) (.fin t d r) = roundRatio b64 (s != t) c d (q - r) := by
    show (if d = 0 then (if c = 0 then Datum.nan else .inf (s != t)) else roundRatio b64 (s != t) c d (q - r)) = _
    rw [if_neg hd]
  rw [hq]
  have q1 := whole_natAbs w1
  have q2 := whole_natAbs w2
  have hmn : i.natAbs = m.natAbs * j.natAbs := by rw [hm, Int.natAbs_mul]
  refine own_rr (m := m.natAbs) (n := n) (Nat.pos_of_ne_zero hd) ?_ h hn h1 h2 ?_
  · -- c 2^(q-k) = |m| |j| 2^(k-q), d 2^(r-l) = |j| 2^(l-r)
    have hjp : 0 < j.natAbs := Int.natAbs_pos.mpr hj
    rw [hmn] at q1
    generalize j.natAbs = J at q1 q2 hjp
    generalize m.natAbs = M at q1
    have hE : 0 < 2 ^ (-(r - l)).toNat * J * 2 ^ (-(q - k)).toNat * 2 ^ (r - l).toNat := by
      exact Nat.mul_pos (Nat.mul_pos (Nat.mul_pos (Nat.two_pow_pos _) hjp) (Nat.two_pow_pos _)) (Nat.two_pow_pos _)
    refine Nat.eq_of_mul_eq_mul_right hE ?_
    have x1 : (q - r - (k - l)).toNat + (-(q - k)).toNat + (r - l).toNat = (q - k).toNat + (-(r - l)).toNat + (k - l - (q - r)).toNat := by omega
    calc c * 2 ^ (q - r - (k - l)).toNat * (2 ^ (-(r - l)).toNat * J * 2 ^ (-(q - k)).toNat * 2 ^ (r - l).toNat)
        = c * (J * 2 ^ (-(r - l)).toNat) * 2 ^ ((q - r - (k - l)).toNat + (-(q - k)).toNat + (r - l).toNat) := by
          simp only [Nat.pow_add]; ac_rfl
      _ = c * (d * 2 ^ (r - l).toNat) * 2 ^ ((q - k).toNat + (-(r - l)).toNat + (k - l - (q - r)).toNat) := by rw [x1, ← q2]
      _ = (c * 2 ^ (q - k).toNat) * (d * 2 ^ (r - l).toNat) * 2 ^ (-(r - l)).toNat * 2 ^ (k - l - (q - r)).toNat := by
          simp only [Nat.pow_add]; ac_rfl
      _ = (M * J * 2 ^ (-(q - k)).toNat) * (d * 2 ^ (r - l).toNat) * 2 ^ (-(r - l)).toNat * 2 ^ (k - l - (q - r)).toNat := by rw [q1]
      _ = M * d * 2 ^ (k - l - (q - r)).toNat * (2 ^ (-(r - l)).toNat * J * 2 ^ (-(q - k)).toNat * 2 ^ (r - l).toNat) := by ac_rfl
  · have s1 := own_signed_of w1
    have s2 := own_signed_of w2
    have h3 : signed (s != t) (i.natAbs * j.natAbs) = i * j := by rw [signed_xor, s1, s2]
    have h4 : i.natAbs * j.natAbs = m.natAbs * (j.natAbs * j.natAbs) := by rw [hmn, Nat.mul_assoc]
    rw [h4, signed_mul] at h3
    have hjj : ((j.natAbs * j.natAbs : Nat) : Int) = j * j := by rw [Int.natAbs_mul_self]
    rw [hjj, hm, Int.mul_assoc] at h3
    exact Int.eq_of_mul_eq_mul_right (Int.mul_ne_zero hj hj) h3
end OwnFP
/-! own tools: a walk in continuation style, named values, the ends -/
abbrev uU : Slot := .unset
abbrev uS : Slot := .second
abbrev sN : Slot := .val .null
abbrev sI (x : Int32) : Slot := .val (.int x)
abbrev sJ (x : Int64) : Slot := .val (.long x)
abbrev sD (x : UInt64) : Slot := .val (.double x)
abbrev sR (x : Addr) : Slot := .val (.ref x)
def OwnGo (tb : Tables) (e : Env) (below : List Frame) (Q : Outcome → State → Prop) (S : State) : Prop := ∃ s₂ o, Steps tb e below S s₂ ∧ s₂.status = .running ∧ Ended s₂ below o ∧ Q o s₂
theorem OwnGo.pre {tb : Tables} {e : Env} {below : List Frame} {Q : Outcome → State → Prop} {S S' : State} (h : ∀ t, Steps tb e below S' t → Steps tb e below S t) (k : OwnGo tb e below Q S') : OwnGo tb e below Q S := by
  obtain ⟨t, o, h1, h2⟩ := k
  exact ⟨t, o, h t h1, h2⟩
abbrev OwnEnd (s : State) (Q : Option Value → Heap → List Loc → Prop) (kc ks : Nat) : Outcome → State → Prop := fun o s₂ => ∃ v L, o = .returned v ∧ Q v s₂.heap L ∧ FrameEnd s o s₂ L kc ks
section OwnEnds
variable {p : Program} {l : Launch} {e : Env} {R : Room} {s : State} {m : MethodId} {args : Array Value} {below : List Frame} {meth : Method} {c : Code} {T : State} {locs : List Loc} {cells slots : Nat}
theorem own_retZ (X : Stand p l e R s m args below meth c T locs cells slots) (hx : p.tables.exec = Jvm.exec) (hk : meth.locks = false) {pc : Nat} {Ls : Array Slot} {z : Int32} {rest : List Value} (hret : meth.sig.returnType = some .boolean) (hd : decode c.code pc = .ok (.ireturn, 1))
    {Q : Option Value → Heap → List Loc → Prop} {kc ks : Nat} (hq : Q (some (.int (nar .boolean z))) T.heap locs) (hc : cells ≤ kc) (hs : slots ≤ ks) : OwnGo p.tables e below (OwnEnd s Q kc ks) (T.setTop (mkF m pc Ls (.int z :: rest))) := by
  obtain ⟨fs, hr, hrun, hended, hW, hsame⟩ := X.leave (v := some (.int (nar .boolean z))) (fun h => by rw [hret] at h; cases h) hk
  exact ⟨_, _, retN X hx (t := .boolean) hret (by simp) hd hr, hrun, hended, _, _, rfl, hq, ⟨_, rfl⟩, hW, hsame.mono hc hs⟩
theorem own_retI (X : Stand p l e R s m args below meth c T locs cells slots) (hx : p.tables.exec = Jvm.exec) (hk : meth.locks = false) {pc : Nat} {Ls : Array Slot} {z : Int32} {rest : List Value} (hret : meth.sig.returnType = some .int) (hd : decode c.code pc = .ok (.ireturn, 1))
    {Q : Option Value → Heap → List Loc → Prop} {kc ks : Nat} (hq : Q (some (.int z)) T.heap locs) (hc : cells ≤ kc) (hs : slots ≤ ks) : OwnGo p.tables e below (OwnEnd s Q kc ks) (T.setTop (mkF m pc Ls (.int z :: rest))) := by
  obtain ⟨fs, hr, hrun, hended, hW, hsame⟩ := X.leave (v := some (.int z)) (fun h => by rw [hret] at h; cases h) hk
  exact ⟨_, _, retOut X hx hret rfl (Or.inl ⟨rfl, Or.inl rfl, _, rfl⟩) hd hr, hrun, hended, _, _, rfl, hq, ⟨_, rfl⟩, hW, hsame.mono hc hs⟩
theorem own_retJ (X : Stand p l e R s m args below meth c T locs cells slots) (hx : p.tables.exec = Jvm.exec) (hk : meth.locks = false) {pc : Nat} {Ls : Array Slot} {z : Int64} {rest : List Value} (hret : meth.sig.returnType = some .long) (hd : decode c.code pc = .ok (.lreturn, 1))
    {Q : Option Value → Heap → List Loc → Prop} {kc ks : Nat} (hq : Q (some (.long z)) T.heap locs) (hc : cells ≤ kc) (hs : slots ≤ ks) : OwnGo p.tables e below (OwnEnd s Q kc ks) (T.setTop (mkF m pc Ls (.long z :: rest))) := by
  obtain ⟨fs, hr, hrun, hended, hW, hsame⟩ := X.leave (v := some (.long z)) (fun h => by rw [hret] at h; cases h) hk
  exact ⟨_, _, retOut X hx hret rfl (Or.inr (Or.inl ⟨rfl, rfl, _, rfl⟩)) hd hr, hrun, hended, _, _, rfl, hq, ⟨_, rfl⟩, hW, hsame.mono hc hs⟩
theorem own_retD (X : Stand p l e R s m args below meth c T locs cells slots) (hx : p.tables.exec = Jvm.exec) (hk : meth.locks = false) {pc : Nat} {Ls : Array Slot} {z : UInt64} {rest : List Value} (hret : meth.sig.returnType = some .double) (hd : decode c.code pc = .ok (.dreturn, 1))
    {Q : Option Value → Heap → List Loc → Prop} {kc ks : Nat} (hq : Q (some (.double z)) T.heap locs) (hc : cells ≤ kc) (hs : slots ≤ ks) : OwnGo p.tables e below (OwnEnd s Q kc ks) (T.setTop (mkF m pc Ls (.double z :: rest))) := by
  obtain ⟨fs, hr, hrun, hended, hW, hsame⟩ := X.leave (v := some (.double z)) (fun h => by rw [hret] at h; cases h) hk
  exact ⟨_, _, retOut X hx hret rfl (Or.inr (Or.inr (Or.inl ⟨rfl, rfl, _, rfl⟩))) hd hr, hrun, hended, _, _, rfl, hq, ⟨_, rfl⟩, hW, hsame.mono hc hs⟩
theorem own_retA (X : Stand p l e R s m args below meth c T locs cells slots) (hx : p.tables.exec = Jvm.exec) (hk : meth.locks = false) {pc : Nat} {Ls : Array Slot} {C : String} {w : Value} {rest : List Value} (hret : meth.sig.returnType = some (.object C)) (hd : decode c.code pc = .ok (.areturn, 1)) (hw : w.isRef = true)
    {Q : Option Value → Heap → List Loc → Prop} {kc ks : Nat} (hq : Q (some w) T.heap locs) (hc : cells ≤ kc) (hs : slots ≤ ks) : OwnGo p.tables e below (OwnEnd s Q kc ks) (T.setTop (mkF m pc Ls (w :: rest))) := by
  obtain ⟨fs, hr, hrun, hended, hW, hsame⟩ := X.leave (v := some w) (fun h => by rw [hret] at h; cases h) hk
  exact ⟨_, _, retOut X hx hret (by cases w <;> first | rfl | cases hw) (Or.inr (Or.inr (Or.inr (Or.inr ⟨rfl, rfl, hw⟩)))) hd hr, hrun, hended, _, _, rfl, hq, ⟨_, rfl⟩, hW, hsame.mono hc hs⟩
theorem own_ret0 (X : Stand p l e R s m args below meth c T locs cells slots) (hx : p.tables.exec = Jvm.exec) (hk : meth.locks = false) {pc : Nat} {Ls : Array Slot} (hret : meth.sig.returnType = none) (hd : decode c.code pc = .ok (.return_, 1))
    {Q : Option Value → Heap → List Loc → Prop} {kc ks : Nat} (hq : Q none T.heap locs) (hc : cells ≤ kc) (hs : slots ≤ ks) : OwnGo p.tables e below (OwnEnd s Q kc ks) (T.setTop (mkF m pc Ls [])) := by
  obtain ⟨fs, hr, hrun, hended, hW, hsame⟩ := X.leave (v := none) (fun _ => rfl) hk
  exact ⟨_, _, X.returnOut hx hret hd hr, hrun, hended, _, _, rfl, hq, ⟨_, rfl⟩, hW, hsame.mono hc hs⟩
theorem own_ldcD (X : Stand p l e R s m args below meth c T locs cells slots) (hx : p.tables.exec = Jvm.exec) {own : String} {index : Nat} {b : UInt64} (hown : s.vm.findClass own = some m.cls) (hconst : (Cond.constantDouble own index b).before args s = true) {g : JFrame} {target : State} (hg : g.method = m) (hd : decode c.code g.pc = .ok (.ldc2_w index, 3))
    (hr : Steps p.tables e below (T.setTop { g with pc := g.pc + 3, stack := .double b :: g.stack }) target) : Steps p.tables e below (T.setTop g) target := X.ldc2DoubleC hx hown hconst hg hd target hr
theorem own_ldcJ (X : Stand p l e R s m args below meth c T locs cells slots) (hx : p.tables.exec = Jvm.exec) {own : String} {index : Nat} {b : Int64} (hown : s.vm.findClass own = some m.cls) (hconst : (Cond.constantLong own index b).before args s = true) {g : JFrame} {target : State} (hg : g.method = m) (hd : decode c.code g.pc = .ok (.ldc2_w index, 3))
    (hr : Steps p.tables e below (T.setTop { g with pc := g.pc + 3, stack := .long b :: g.stack }) target) : Steps p.tables e below (T.setTop g) target := X.ldc2Long hx hown hconst hg hd target hr
theorem own_ldcI (X : Stand p l e R s m args below meth c T locs cells slots) (hx : p.tables.exec = Jvm.exec) {own : String} {index : Nat} {b : Int32} (hown : s.vm.findClass own = some m.cls) (hconst : (Cond.constant own index b).before args s = true) {g : JFrame} {target : State} (hg : g.method = m) (hd : decode c.code g.pc = .ok (.ldc index, 2))
    (hr : Steps p.tables e below (T.setTop { g with pc := g.pc + 2, stack := .int b :: g.stack }) target) : Steps p.tables e below (T.setTop g) target := X.ldcInt hx hown hconst hg hd target hr
end OwnEnds
theorem own_iadd {tb : Tables} [Ours tb] {e : Env} {below : List Frame} {T target : State} {m : MethodId} {c : Code} {g : JFrame} (h : At T m c below) (hx : tb.exec = Jvm.exec) (hg : g.method = m) {x : Int32} {y : Int32} {v : Int32} {rest : List Value} (hd : decode c.code g.pc = .ok (.iadd, 1)) (hs : g.stack = .int y :: .int x :: rest) (hv : x + y = v)
    (hr : Steps tb e below (T.setTop { g with pc := g.pc + 1, stack := .int v :: rest }) target) : Steps tb e below (T.setTop g) target := by subst hv; exact XS.iadd h hx hg hd hs hr
theorem own_isub {tb : Tables} [Ours tb] {e : Env} {below : List Frame} {T target : State} {m : MethodId} {c : Code} {g : JFrame} (h : At T m c below) (hx : tb.exec = Jvm.exec) (hg : g.method = m) {x : Int32} {y : Int32} {v : Int32} {rest : List Value} (hd : decode c.code g.pc = .ok (.isub, 1)) (hs : g.stack = .int y :: .int x :: rest) (hv : x - y = v)
    (hr : Steps tb e below (T.setTop { g with pc := g.pc + 1, stack := .int v :: rest }) target) : Steps tb e below (T.setTop g) target := by subst hv; exact XS.isub h hx hg hd hs hr
theorem own_iand {tb : Tables} [Ours tb] {e : Env} {below : List Frame} {T target : State} {m : MethodId} {c : Code} {g : JFrame} (h : At T m c below) (hx : tb.exec = Jvm.exec) (hg : g.method = m) {x : Int32} {y : Int32} {v : Int32} {rest : List Value} (hd : decode c.code g.pc = .ok (.iand, 1)) (hs : g.stack = .int y :: .int x :: rest) (hv : x &&& y = v)
    (hr : Steps tb e below (T.setTop { g with pc := g.pc + 1, stack := .int v :: rest }) target) : Steps tb e below (T.setTop g) target := by subst hv; exact XS.iand h hx hg hd hs hr
theorem own_ishl {tb : Tables} [Ours tb] {e : Env} {below : List Frame} {T target : State} {m : MethodId} {c : Code} {g : JFrame} (h : At T m c below) (hx : tb.exec = Jvm.exec) (hg : g.method = m) {x : Int32} {y : Int32} {v : Int32} {rest : List Value} (hd : decode c.code g.pc = .ok (.ishl, 1)) (hs : g.stack = .int y :: .int x :: rest) (hv : x <<< (y &&& 31) = v)
    (hr : Steps tb e below (T.setTop { g with pc := g.pc + 1, stack := .int v :: rest }) target) : Steps tb e below (T.setTop g) target := by subst hv; exact XT.ishl h hx hg hd hs hr
theorem own_ishr {tb : Tables} [Ours tb] {e : Env} {below : List Frame} {T target : State} {m : MethodId} {c : Code} {g : JFrame} (h : At T m c below) (hx : tb.exec = Jvm.exec) (hg : g.method = m) {x : Int32} {y : Int32} {v : Int32} {rest : List Value} (hd : decode c.code g.pc = .ok (.ishr, 1)) (hs : g.stack = .int y :: .int x :: rest) (hv : x >>> (y &&& 31) = v)
    (hr : Steps tb e below (T.setTop { g with pc := g.pc + 1, stack := .int v :: rest }) target) : Steps tb e below (T.setTop g) target := by subst hv; exact XT.ishr h hx hg hd hs hr
theorem own_iushr {tb : Tables} [Ours tb] {e : Env} {below : List Frame} {T target : State} {m : MethodId} {c : Code} {g : JFrame} (h : At T m c below) (hx : tb.exec = Jvm.exec) (hg : g.method = m) {x : Int32} {y : Int32} {v : Int32} {rest : List Value} (hd : decode c.code g.pc = .ok (.iushr, 1)) (hs : g.stack = .int y :: .int x :: rest) (hv : XT.ushr x y = v)
    (hr : Steps tb e below (T.setTop { g with pc := g.pc + 1, stack := .int v :: rest }) target) : Steps tb e below (T.setTop g) target := by subst hv; exact XT.iushr h hx hg hd hs hr
theorem own_irem {tb : Tables} [Ours tb] {e : Env} {below : List Frame} {T target : State} {m : MethodId} {c : Code} {g : JFrame} (h : At T m c below) (hx : tb.exec = Jvm.exec) (hg : g.method = m) {x : Int32} {y : Int32} {v : Int32} {rest : List Value} (hd : decode c.code g.pc = .ok (.irem, 1)) (hs : g.stack = .int y :: .int x :: rest) (hy : y ≠ 0) (hv : x - x / y * y = v)
    (hr : Steps tb e below (T.setTop { g with pc := g.pc + 1, stack := .int v :: rest }) target) : Steps tb e below (T.setTop g) target := by subst hv; exact XS.irem h hx hg hd hs hy hr
theorem own_ladd {tb : Tables} [Ours tb] {e : Env} {below : List Frame} {T target : State} {m : MethodId} {c : Code} {g : JFrame} (h : At T m c below) (hx : tb.exec = Jvm.exec) (hg : g.method = m) {x : Int64} {y : Int64} {v : Int64} {rest : List Value} (hd : decode c.code g.pc = .ok (.ladd, 1)) (hs : g.stack = .long y :: .long x :: rest) (hv : x + y = v)
    (hr : Steps tb e below (T.setTop { g with pc := g.pc + 1, stack := .long v :: rest }) target) : Steps tb e below (T.setTop g) target := by subst hv; exact XT.ladd h hx hg hd hs hr
theorem own_lsub {tb : Tables} [Ours tb] {e : Env} {below : List Frame} {T target : State} {m : MethodId} {c : Code} {g : JFrame} (h : At T m c below) (hx : tb.exec = Jvm.exec) (hg : g.method = m) {x : Int64} {y : Int64} {v : Int64} {rest : List Value} (hd : decode c.code g.pc = .ok (.lsub, 1)) (hs : g.stack = .long y :: .long x :: rest) (hv : x - y = v)
    (hr : Steps tb e below (T.setTop { g with pc := g.pc + 1, stack := .long v :: rest }) target) : Steps tb e below (T.setTop g) target := by subst hv; exact XT.lsub h hx hg hd hs hr
theorem own_lmul {tb : Tables} [Ours tb] {e : Env} {below : List Frame} {T target : State} {m : MethodId} {c : Code} {g : JFrame} (h : At T m c below) (hx : tb.exec = Jvm.exec) (hg : g.method = m) {x : Int64} {y : Int64} {v : Int64} {rest : List Value} (hd : decode c.code g.pc = .ok (.lmul, 1)) (hs : g.stack = .long y :: .long x :: rest) (hv : x * y = v)
    (hr : Steps tb e below (T.setTop { g with pc := g.pc + 1, stack := .long v :: rest }) target) : Steps tb e below (T.setTop g) target := by subst hv; exact XT.lmul h hx hg hd hs hr
theorem own_land {tb : Tables} [Ours tb] {e : Env} {below : List Frame} {T target : State} {m : MethodId} {c : Code} {g : JFrame} (h : At T m c below) (hx : tb.exec = Jvm.exec) (hg : g.method = m) {x : Int64} {y : Int64} {v : Int64} {rest : List Value} (hd : decode c.code g.pc = .ok (.land, 1)) (hs : g.stack = .long y :: .long x :: rest) (hv : x &&& y = v)
    (hr : Steps tb e below (T.setTop { g with pc := g.pc + 1, stack := .long v :: rest }) target) : Steps tb e below (T.setTop g) target := by subst hv; exact XT.land h hx hg hd hs hr
theorem own_lshl {tb : Tables} [Ours tb] {e : Env} {below : List Frame} {T target : State} {m : MethodId} {c : Code} {g : JFrame} (h : At T m c below) (hx : tb.exec = Jvm.exec) (hg : g.method = m) {x : Int64} {y : Int32} {v : Int64} {rest : List Value} (hd : decode c.code g.pc = .ok (.lshl, 1)) (hs : g.stack = .int y :: .long x :: rest) (hv : x <<< (y.toInt64 &&& 63) = v)
    (hr : Steps tb e below (T.setTop { g with pc := g.pc + 1, stack := .long v :: rest }) target) : Steps tb e below (T.setTop g) target := by subst hv; exact XT.lshl h hx hg hd hs hr
theorem own_lshr {tb : Tables} [Ours tb] {e : Env} {below : List Frame} {T target : State} {m : MethodId} {c : Code} {g : JFrame} (h : At T m c below) (hx : tb.exec = Jvm.exec) (hg : g.method = m) {x : Int64} {y : Int32} {v : Int64} {rest : List Value} (hd : decode c.code g.pc = .ok (.lshr, 1)) (hs : g.stack = .int y :: .long x :: rest) (hv : x >>> (y.toInt64 &&& 63) = v)
    (hr : Steps tb e below (T.setTop { g with pc := g.pc + 1, stack := .long v :: rest }) target) : Steps tb e below (T.setTop g) target := by subst hv; exact XT.lshr h hx hg hd hs hr
theorem own_lushr {tb : Tables} [Ours tb] {e : Env} {below : List Frame} {T target : State} {m : MethodId} {c : Code} {g : JFrame} (h : At T m c below) (hx : tb.exec = Jvm.exec) (hg : g.method = m) {x : Int64} {y : Int32} {v : Int64} {rest : List Value} (hd : decode c.code g.pc = .ok (.lushr, 1)) (hs : g.stack = .int y :: .long x :: rest) (hv : XT.ushrL x y = v)
    (hr : Steps tb e below (T.setTop { g with pc := g.pc + 1, stack := .long v :: rest }) target) : Steps tb e below (T.setTop g) target := by subst hv; exact XT.lushr h hx hg hd hs hr
theorem own_lrem {tb : Tables} [Ours tb] {e : Env} {below : List Frame} {T target : State} {m : MethodId} {c : Code} {g : JFrame} (h : At T m c below) (hx : tb.exec = Jvm.exec) (hg : g.method = m) {x : Int64} {y : Int64} {v : Int64} {rest : List Value} (hd : decode c.code g.pc = .ok (.lrem, 1)) (hs : g.stack = .long y :: .long x :: rest) (hy : y ≠ 0) (hv : x - (x / y) * y = v)
    (hr : Steps tb e below (T.setTop { g with pc := g.pc + 1, stack := .long v :: rest }) target) : Steps tb e below (T.setTop g) target := by subst hv; exact XT.lrem h hx hg hd hs hy hr
theorem own_lcmp {tb : Tables} [Ours tb] {e : Env} {below : List Frame} {T target : State} {m : MethodId} {c : Code} {g : JFrame} (h : At T m c below) (hx : tb.exec = Jvm.exec) (hg : g.method = m) {x : Int64} {y : Int64} {v : Int32} {rest : List Value} (hd : decode c.code g.pc = .ok (.lcmp, 1)) (hs : g.stack = .long y :: .long x :: rest) (hv : XT.cmpL x y = v)
    (hr : Steps tb e below (T.setTop { g with pc := g.pc + 1, stack := .int v :: rest }) target) : Steps tb e below (T.setTop g) target := by subst hv; exact XT.lcmp h hx hg hd hs hr
theorem own_lneg {tb : Tables} [Ours tb] {e : Env} {below : List Frame} {T target : State} {m : MethodId} {c : Code} {g : JFrame} (h : At T m c below) (hx : tb.exec = Jvm.exec) (hg : g.method = m) {x : Int64} {v : Int64} {rest : List Value} (hd : decode c.code g.pc = .ok (.lneg, 1)) (hs : g.stack = .long x :: rest) (hv : -x = v)
    (hr : Steps tb e below (T.setTop { g with pc := g.pc + 1, stack := .long v :: rest }) target) : Steps tb e below (T.setTop g) target := by subst hv; exact XT.lneg h hx hg hd hs hr
theorem own_i2l {tb : Tables} [Ours tb] {e : Env} {below : List Frame} {T target : State} {m : MethodId} {c : Code} {g : JFrame} (h : At T m c below) (hx : tb.exec = Jvm.exec) (hg : g.method = m) {x : Int32} {v : Int64} {rest : List Value} (hd : decode c.code g.pc = .ok (.i2l, 1)) (hs : g.stack = .int x :: rest) (hv : x.toInt64 = v)
    (hr : Steps tb e below (T.setTop { g with pc := g.pc + 1, stack := .long v :: rest }) target) : Steps tb e below (T.setTop g) target := by subst hv; exact XT.i2l h hx hg hd hs hr
theorem own_l2i {tb : Tables} [Ours tb] {e : Env} {below : List Frame} {T target : State} {m : MethodId} {c : Code} {g : JFrame} (h : At T m c below) (hx : tb.exec = Jvm.exec) (hg : g.method = m) {x : Int64} {v : Int32} {rest : List Value} (hd : decode c.code g.pc = .ok (.l2i, 1)) (hs : g.stack = .long x :: rest) (hv : x.toInt32 = v)
    (hr : Steps tb e below (T.setTop { g with pc := g.pc + 1, stack := .int v :: rest }) target) : Steps tb e below (T.setTop g) target := by subst hv; exact XT.l2i h hx hg hd hs hr
theorem own_ineg {tb : Tables} [Ours tb] {e : Env} {below : List Frame} {T target : State} {m : MethodId} {c : Code} {g : JFrame} (h : At T m c below) (hx : tb.exec = Jvm.exec) (hg : g.method = m) {x : Int32} {v : Int32} {rest : List Value} (hd : decode c.code g.pc = .ok (.ineg, 1)) (hs : g.stack = .int x :: rest) (hv : -x = v)
    (hr : Steps tb e below (T.setTop { g with pc := g.pc + 1, stack := .int v :: rest }) target) : Steps tb e below (T.setTop g) target := by subst hv; exact XS.ineg h hx hg hd hs hr
section OwnFP2
open Jvm.FP.Core
/-- what a condition asks of two whole numbers -/
def own_rel : ClassFile.Cond → Int → Int → Bool
  | .eq, i, j => decide (i = j)
  | .ne, i, j => decide (i ≠ j)
  | .lt, i, j => decide (i < j)
  | .ge, i, j => decide (j ≤ i)
  | .gt, i, j => decide (j < i)
  | .le, i, j => decide (i ≤ j)
theorem own_br2 (cd : ClassFile.Cond) (x y : Int32) : if_icmp.holds cd x y = own_rel cd x.toInt y.toInt := by
  cases cd
  · show (x == y) = decide (x.toInt = y.toInt)
    by_cases h : x = y
    · subst h; simp
    · rw [beq_eq_false_iff_ne.mpr h, decide_eq_false (fun q => h (Int32.toInt_inj.mp q))]
  · show (x != y) = decide (x.toInt ≠ y.toInt)
    by_cases h : x = y
    · subst h; simp
    · rw [bne_iff_ne.mpr h]; exact (decide_eq_true (p := x.toInt ≠ y.toInt) (fun q => h (Int32.toInt_inj.mp q))).symm
  · exact decide_eq_decide.mpr Int32.lt_iff_toInt_lt
  · exact decide_eq_decide.mpr Int32.le_iff_toInt_le
  · exact decide_eq_decide.mpr Int32.lt_iff_toInt_lt
  · exact decide_eq_decide.mpr Int32.le_iff_toInt_le
theorem own_br0 (cd : ClassFile.Cond) (x : Int32) : ifCond.holds cd x = own_rel cd x.toInt 0 := by
  have h : ifCond.holds cd x = if_icmp.holds cd x 0 := by cases cd <;> rfl
  rw [h, own_br2]; rfl
theorem own_rel_iff (cd : ClassFile.Cond) {i j i' j' : Int} (h1 : i < j ↔ i' < j') (h2 : i = j ↔ i' = j') : own_rel cd i j = own_rel cd i' j' := by
  cases cd
  · exact decide_eq_decide.mpr h2
  · exact decide_eq_decide.mpr (not_congr h2)
  · exact decide_eq_decide.mpr h1
  · exact decide_eq_decide.mpr (by omega)
  · exact decide_eq_decide.mpr (by omega)
  · exact decide_eq_decide.mpr (by omega)
theorem own_sgn3 (cd : ClassFile.Cond) {z : Int32} {i j : Int} (h : (i < j ∧ z = -1) ∨ (i = j ∧ z = 0) ∨ (j < i ∧ z = 1)) : ifCond.holds cd z = own_rel cd i j := by
  rw [own_br0]
  refine own_rel_iff cd ?_ ?_ <;> rcases h with ⟨h1, rfl⟩ | ⟨h1, rfl⟩ | ⟨h1, rfl⟩
  · have e1 : (-1 : Int32).toInt = -1 := rfl
    omega
  · have e1 : (0 : Int32).toInt = 0 := rfl
    omega
  · have e1 : (1 : Int32).toInt = 1 := rfl
    omega
  · have e1 : (-1 : Int32).toInt = -1 := rfl
    omega
  · have e1 : (0 : Int32).toInt = 0 := rfl
    omega
  · have e1 : (1 : Int32).toInt = 1 := rfl
    omega
theorem own_brL (cd : ClassFile.Cond) (x y : Int64) : ifCond.holds cd (XT.cmpL x y) = own_rel cd x.toInt y.toInt := by
  refine own_sgn3 cd ?_
  have h := @Int64.toInt_inj x y
  by_cases h1 : y < x
  · refine Or.inr (Or.inr ⟨Int64.lt_iff_toInt_lt.mp h1, ?_⟩)
    show (if y < x then (1 : Int32) else if x = y then 0 else -1) = 1
    rw [if_pos h1]
  · by_cases h2 : x = y
    · refine Or.inr (Or.inl ⟨h.mpr h2, ?_⟩)
      show (if y < x then (1 : Int32) else if x = y then 0 else -1) = 0
      rw [if_neg h1, if_pos h2]
    · refine Or.inl ⟨?_, ?_⟩
      · rw [Int64.lt_iff_toInt_lt] at h1
        have : x.toInt ≠ y.toInt := fun q => h2 (h.mp q)
        omega
      · show (if y < x then (1 : Int32) else if x = y then 0 else -1) = -1
        rw [if_neg h1, if_neg h2]
theorem own_brD (cd : ClassFile.Cond) {k i j : Int} {a b : UInt64} (ha : OwnDS k i a) (hb : OwnDS k j b) (o : CmpOp) : ifCond.holds cd (cmpValue (FP.dcmp a b) o) = own_rel cd i j := by
  have hc : FP.dcmp a b = some (compare i j) := own_ds_cmp ha hb
  rw [hc]
  refine own_sgn3 cd ?_
  rcases Int.lt_trichotomy i j with q | q | q
  · refine Or.inl ⟨q, ?_⟩
    rw [show compare i j = .lt from Int.compare_eq_lt.mpr q]; rfl
  · refine Or.inr (Or.inl ⟨q, ?_⟩)
    rw [show compare i j = .eq from Int.compare_eq_eq.mpr q]; rfl
  · refine Or.inr (Or.inr ⟨q, ?_⟩)
    rw [show compare i j = .gt from Int.compare_eq_gt.mpr q]; rfl
theorem own_nn {k i : Int} {a : UInt64} (h : OwnDS k i a) : Jvm.Free.Fl.NoNaN64 a := Jvm.Free.Fl.val64_no.mpr (own_ds_ne_nan h)
theorem own_i2d (x : Int32) : OwnDS 0 x.toInt (FP.i2d x) := own_ds_int (i2d_int x)
theorem own_l2d {x : Int64} {i : Int} (h : x.toInt = i) (hb : i.natAbs ≤ 9007199254740992) : OwnDS 0 i (FP.l2d x) := by
  subst h; exact own_ds_int (l2d_int (by omega))
theorem own_i32 (x : Int32) : -2147483648 ≤ x.toInt ∧ x.toInt ≤ 2147483648 := by
  have h1 := x.toInt_lt
  have h2 := x.le_toInt
  omega
theorem own_mul_bd {i j A B : Int} (h1 : -A ≤ i ∧ i ≤ A) (h2 : -B ≤ j ∧ j ≤ B) : -(A * B) ≤ i * j ∧ i * j ≤ A * B := by
  have ha : i.natAbs ≤ A.toNat := by omega
  have hb : j.natAbs ≤ B.toNat := by omega
  have h := Nat.mul_le_mul ha hb
  rw [← Int.natAbs_mul] at h
  have e : ((A.toNat * B.toNat : Nat) : Int) = A * B := by
    rw [Int.natCast_mul, Int.toNat_of_nonneg (by omega), Int.toNat_of_nonneg (by omega)]
  generalize A.toNat * B.toNat = n at h e
  omega
theorem own_d2l {i : Int} {a : UInt64} (h : OwnDS 0 i a) (hb : i.natAbs ≤ 9007199254740992) : (FP.d2l a).toInt = i := by
  have e : (Int64.ofInt i).toInt = i := by rw [Int64.toInt_ofInt]; exact Jvm.Kit.bmod64 (by omega) (by omega)
  have q : FP.d2l a = Int64.ofInt i := d2l_int (a := Int64.ofInt i) (b := a) (by rw [e]; exact own_int_ds h)
  rw [q, e]
theorem own_ds_neg {k i : Int} {a : UInt64} (h : OwnDS k i a) : OwnDS k (-i) (FP.dneg a) := by
  show OwnSc _ _ _
  rw [Jvm.FP.val64_dneg]; exact own_sc_neg h
theorem own_fin {k i : Int} {a : UInt64} (h : OwnDS k i a) : DFin a := by
  obtain ⟨s, c, q, hv, -⟩ := own_sc_fin h
  exact ⟨s, c, q, hv⟩
theorem own_isfin {a : UInt64} (h : DFin a) : ifCond.holds .gt (cmpValue (FP.dcmp (a &&& 0x7fffffffffffffff) 9218868437227405311) .g) = false := by
  have hn : dIsNaN a = false := (notNaN_iff a).mpr (by obtain ⟨s, c, q, hv⟩ := h; rw [hv]; exact Datum.noConfusion)
  have q : FP.dcmp (a &&& 0x7fffffffffffffff) 9218868437227405311 = some .lt ∨ FP.dcmp (a &&& 0x7fffffffffffffff) 9218868437227405311 = some .eq := (le_max hn).mpr h
  rcases q with q | q <;> rw [q] <;> rfl
theorem own_bd_add {i j A B C : Int} (h1 : -A ≤ i ∧ i ≤ A) (h2 : -B ≤ j ∧ j ≤ B) (hC : A + B = C) : -C ≤ i + j ∧ i + j ≤ C := by omega
theorem own_bd_sub {i j A B C : Int} (h1 : -A ≤ i ∧ i ≤ A) (h2 : -B ≤ j ∧ j ≤ B) (hC : A + B = C) : -C ≤ i - j ∧ i - j ≤ C := by omega
theorem own_bd_mul {i j A B C : Int} (h1 : -A ≤ i ∧ i ≤ A) (h2 : -B ≤ j ∧ j ≤ B) (hC : A * B = C) : -C ≤ i * j ∧ i * j ≤ C := hC ▸ own_mul_bd h1 h2
theorem own_bd_neg {i A : Int} (h1 : -A ≤ i ∧ i ≤ A) : -A ≤ -i ∧ -i ≤ A := by omega
theorem own_bd_nat {i C : Int} {n : Nat} (h : -C ≤ i ∧ i ≤ C) (hC : C < ((2 ^ n : Nat) : Int)) : i.natAbs < 2 ^ n := by
  generalize 2 ^ n = N at hC
  omega
theorem own_bd_le {i A C : Int} (h : -A ≤ i ∧ i ≤ A) (hC : A ≤ C) : -C ≤ i ∧ i ≤ C := by omega
theorem own_lf_add {x y v : Int64} {i j A B k : Int} (hv : x + y = v) (Fx : x.toInt = i) (Fy : y.toInt = j) (b1 : -A ≤ i ∧ i ≤ A) (b2 : -B ≤ j ∧ j ≤ B) (hC : A + B < 9223372036854775808) (hk : k = i + j) : v.toInt = k := by
  subst hv hk; rw [Jvm.Kit.i64_add (by rw [Fx, Fy]; omega) (by rw [Fx, Fy]; omega), Fx, Fy]
theorem own_lf_sub {x y v : Int64} {i j A B k : Int} (hv : x - y = v) (Fx : x.toInt = i) (Fy : y.toInt = j) (b1 : -A ≤ i ∧ i ≤ A) (b2 : -B ≤ j ∧ j ≤ B) (hC : A + B < 9223372036854775808) (hk : k = i - j) : v.toInt = k := by
  subst hv hk; rw [Jvm.Kit.i64_sub (by rw [Fx, Fy]; omega) (by rw [Fx, Fy]; omega), Fx, Fy]
theorem own_lf_mul {x y v : Int64} {i j A B k : Int} (hv : x * y = v) (Fx : x.toInt = i) (Fy : y.toInt = j) (b1 : -A ≤ i ∧ i ≤ A) (b2 : -B ≤ j ∧ j ≤ B) (hC : A * B < 9223372036854775808) (hk : k = i * j) : v.toInt = k := by
  have q := own_mul_bd b1 b2
  subst hv hk; rw [Jvm.Kit.i64_mul (by rw [Fx, Fy]; omega) (by rw [Fx, Fy]; omega), Fx, Fy]
theorem own_lf_neg {x v : Int64} {i A k : Int} (hv : -x = v) (Fx : x.toInt = i) (b1 : -A ≤ i ∧ i ≤ A) (hC : A < 9223372036854775808) (hk : k = -i) : v.toInt = k := by
  subst hv hk; rw [Jvm.Kit.i64_neg (by omega), Fx]
theorem own_l2db {x : Int64} {i A : Int} (h : x.toInt = i) (b1 : -A ≤ i ∧ i ≤ A) (hC : A ≤ 9007199254740992) : OwnDS 0 i (FP.l2d x) := own_l2d h (by omega)
theorem own_d2lb {i A : Int} {a : UInt64} (h : OwnDS 0 i a) (b1 : -A ≤ i ∧ i ≤ A) (hC : A ≤ 9007199254740992) : (FP.d2l a).toInt = i := own_d2l h (by omega)
end OwnFP2
/-- an array of doubles by its list -/
def OwnDA (Z : State) (h : Heap) (o : Addr) (vs : List UInt64) : Prop := ∃ c : Cell, Jvm.RoadKit.Arr Z h o c .double ∧ c.slots = (vs.map Value.double).toArray
section OwnDAs
variable {Z : State} {h h' : Heap} {o b : Addr} {vs : List UInt64} {sl : Nat} {w : Value} {ws : List Addr}
theorem OwnDA.lt (A : OwnDA Z h o vs) : o < h.size := by obtain ⟨c, A, -⟩ := A; exact A.lt
theorem OwnDA.ex (A : OwnDA Z h o vs) (E : Ext h h') : OwnDA Z h' o vs := by obtain ⟨c, A, q⟩ := A; exact ⟨c, A.ext E, q⟩
theorem OwnDA.ot (A : OwnDA Z h o vs) (W : Wr h h' b sl w) (q : o ≠ b) : OwnDA Z h' o vs := by obtain ⟨c, A, r⟩ := A; exact ⟨c, A.other W q, r⟩
theorem OwnDA.kp (A : OwnDA Z h o vs) (K : Keep h h' ws) (q : o ∉ ws) : OwnDA Z h' o vs := by obtain ⟨c, A, r⟩ := A; exact ⟨c, ⟨K.2.1 o c A.1 q, A.2⟩, r⟩
theorem OwnDA.nw {k : ClassId} {z : Int32} (A : Jvm.RoadKit.Arr Z h o (newA k .double z) .double) (n : Nat) (hn : z.toNatClampNeg = n) : OwnDA Z h o (List.replicate n 0) := by
  refine ⟨_, A, ?_⟩
  show Array.replicate z.toNatClampNeg (Value.double 0) = _
  rw [hn]; simp
theorem OwnDA.st {x : UInt64} {i : Nat} (A : OwnDA Z h o vs) (W : Wr h h' o i (.double x)) : OwnDA Z h' o (vs.set i x) := by
  obtain ⟨c, A, r⟩ := A
  refine ⟨_, A.same W, ?_⟩
  show c.slots.setIfInBounds i (.double x) = _
  rw [r]; simp [List.map_set]
variable {p : Program} {l : Launch} {e : Env} {R : Room} {s : State} {m : MethodId} {args : Array Value} {below : List Frame} {meth : Method} {c : Code} {T : State} {locs : List Loc} {cells slots : Nat}
theorem own_daS (X : Stand p l e R s m args below meth c T locs cells slots) (hx : p.tables.exec = Jvm.exec) (hZ : Z.Warmed39 s.vm) (eT : T.heap = h) (A : OwnDA Z h o vs) {j : Int32} {x : UInt64} {i : Nat} (hj : ¬ j < 0) (hji : j.toNatClampNeg = i) (hi : i < vs.length) {g : JFrame} (hg : g.method = m) {rest : List Value} (hs : g.stack = .double x :: .int j :: .ref o :: rest) (hd : decode c.code g.pc = .ok (.dastore, 1)) :
    ∃ T' h', Stand p l e R s m args below meth c T' (locs ++ [⟨o, i⟩]) cells slots ∧ T'.heap = h' ∧ Wr h h' o i (.double x) ∧ OwnDA Z h' o (vs.set i x) ∧ ∀ target, Steps p.tables e below (T'.setTop { g with pc := g.pc + 1, stack := rest }) target → Steps p.tables e below (T.setTop g) target := by
  subst hji
  obtain ⟨cl, A', r⟩ := A
  have hz : cl.slots.size = vs.length := by rw [r]; simp
  obtain ⟨T', h', X', e', W, st⟩ := stD X hx hZ eT A' (j := j) (x := x) (fun q => q.elim hj (fun q => by omega)) hg hs hd
  exact ⟨T', h', X', e', W, OwnDA.st ⟨cl, A', r⟩ W, st⟩
theorem own_daL (X : Stand p l e R s m args below meth c T locs cells slots) (hx : p.tables.exec = Jvm.exec) (hZ : Z.Warmed39 s.vm) (eT : T.heap = h) (A : OwnDA Z h o vs) {j : Int32} {x : UInt64} {i : Nat} (hj : ¬ j < 0) (hji : j.toNatClampNeg = i) (hv : vs[i]? = some x) {g : JFrame} (hg : g.method = m) {rest : List Value} (hs : g.stack = .int j :: .ref o :: rest) (hd : decode c.code g.pc = .ok (.daload, 1)) {target : State}
    (hr : Steps p.tables e below (T.setTop { g with pc := g.pc + 1, stack := .double x :: rest }) target) : Steps p.tables e below (T.setTop g) target := by
  subst hji
  obtain ⟨cl, A', r⟩ := A
  have hz : cl.slots.size = vs.length := by rw [r]; simp
  have hi : j.toNatClampNeg < vs.length := (List.getElem?_eq_some_iff.mp hv).1
  exact X.daload hx (j := j) (v := .double x) (by rw [eT]; exact A'.1) (State.isArrayOf_alike hZ.alike A'.2.1) A'.2.2 (fun q => q.elim hj (fun q => by omega)) (by rw [r]; simp [hv]) hg hs hd target hr
theorem own_newD (X : Stand p l e R s m args below meth c T locs cells slots) (hx : p.tables.exec = Jvm.exec) (hZ : Z.Warmed39 s.vm) {a0 : Array Value} (w : (Cond.arrayClass .double).before a0 Z = true) (eT : T.heap = h) {g : JFrame} (hg : g.method = m) (hd : decode c.code g.pc = .ok (.newarray .double, 2)) {z : Int32} {n : Nat} {rest : List Value} (hs : g.stack = .int z :: rest) (hz : ¬ z < 0) (hn : z.toNatClampNeg = n) (hb : n * 8 ≤ 536870912) (hc : cells + 1 ≤ R.cells) (hl : slots + n ≤ R.slots) :
    ∃ T' h', Stand p l e R s m args below meth c T' locs (cells + 1) (slots + n) ∧ T'.heap = h' ∧ Ext h h' ∧ OwnDA Z h' h.size (List.replicate n 0) ∧ ∀ target, Steps p.tables e below (T'.setTop { g with pc := g.pc + 2, stack := .ref h.size :: rest }) target → Steps p.tables e below (T.setTop g) target := by
  obtain ⟨T', h', cA, X', e', E, A, st⟩ := newP X hx hZ (aty := .double) w eT hg hd hs hz (cap := n) (Nat.le_of_eq hn) hb hc hl
  exact ⟨T', h', X', e', E, OwnDA.nw A n hn, st⟩
end OwnDAs
section OwnDAx
variable {Z : State} {h h' : Heap} {o b : Addr} {vs : List UInt64} {sl : Nat} {w : Value} {ws : List Addr}
variable {p : Program} {l : Launch} {e : Env} {R : Room} {s : State} {m : MethodId} {args : Array Value} {below : List Frame} {meth : Method} {c : Code} {T : State} {locs : List Loc} {cells slots : Nat}
theorem own_newDX (X : Stand p l e R s m args below meth c T locs cells slots) (hx : p.tables.exec = Jvm.exec) (hZ : Z.Warmed39 s.vm) {a0 : Array Value} (w : (Cond.arrayClass .double).before a0 Z = true) (eT : T.heap = h) {g : JFrame} (hg : g.method = m) (hd : decode c.code g.pc = .ok (.newarray .double, 2)) {z : Int32} {n : Nat} {rest : List Value} (hs : g.stack = .int z :: rest) (hz : ¬ z < 0) (hn : z.toNatClampNeg = n) (hb : n * 8 ≤ 536870912) (hc : cells + 1 ≤ R.cells) (hl : slots + n ≤ R.slots) :
    ∃ T' h', Stand p l e R s m args below meth c T' locs (cells + 1) (slots + n) ∧ T'.heap = h' ∧ Ext h h' ∧ OwnDA Z h' h.size (List.replicate n 0) ∧ Exa Z h' h.size "[D" ∧ ∀ target, Steps p.tables e below (T'.setTop { g with pc := g.pc + 2, stack := .ref h.size :: rest }) target → Steps p.tables e below (T.setTop g) target := by
  obtain ⟨T', h', cA, X', e', E, A, Q, st⟩ := newPE X hx hZ (aty := .double) w eT hg hd hs hz (cap := n) (Nat.le_of_eq hn) hb hc hl (ad := "[D") (by decide)
  exact ⟨T', h', X', e', E, OwnDA.nw A n hn, Q, st⟩
theorem own_cloneD (X : Stand p l e R s m args below meth c T locs cells slots) (hx : p.tables.exec = Jvm.exec) (hZ : Z.Warmed39 s.vm) {a0 : Array Value} {own : String} {index : Nat} (hown : s.vm.findClass own = some m.cls)
    (w1 : (Cond.methodLink own index ⟨"[D", "clone", "()Ljava/lang/Object;"⟩).before a0 Z = true) (w2 : (Cond.sameMethod "[D" "java/lang/Object" "clone" "()Ljava/lang/Object;").before a0 Z = true) (w3 : (Cond.native ⟨"java/lang/Object", "clone", "()Ljava/lang/Object;"⟩).before a0 Z = true)
    (w4 : (Cond.instanceMethod ⟨"java/lang/Object", "clone", "()Ljava/lang/Object;"⟩).before a0 Z = true) (w5 : (Cond.selects "[D" ⟨"[D", "clone", "()Ljava/lang/Object;"⟩ ⟨"java/lang/Object", "clone", "()Ljava/lang/Object;"⟩).before a0 Z = true) (w6 : (Cond.castable "[D" "java/lang/Cloneable").before a0 Z = true)
    (eT : T.heap = h) (A : OwnDA Z h o vs) (E : Exa Z h o "[D") {g : JFrame} (hg : g.method = m) (hsize : g.locals.size = c.maxLocals) {rest : List Value} (hs : g.stack = .ref o :: rest) (hd : decode c.code g.pc = .ok (.invokevirtual index, 3))
    (hf : 1 ≤ R.frames) {W cap : Nat} (hW : 2 * g.monitorRoom + (rest.map fun v => v.category).sum ≤ W) (hl : W + 14 ≤ R.locals) (hcap : vs.length ≤ cap) (hc : cells + 1 ≤ R.cells) (hsl : slots + cap ≤ R.slots) :
    ∃ T' h', Stand p l e R s m args below meth c T' locs (cells + 1) (slots + cap) ∧ T'.heap = h' ∧ Ext h h' ∧ OwnDA Z h' h.size vs ∧ Exa Z h' h.size "[D" ∧
      ∀ target, Steps p.tables e below (T'.setTop { g with pc := g.pc + 3, stack := .ref h.size :: rest }) target → Steps p.tables e below (T.setTop g) target := by
  obtain ⟨cl, A', r⟩ := A
  have hz : cl.slots.size = vs.length := by rw [r]; simp
  have FC : FitC Z cl := fitC_of A' fun i hi v hv => by
    rw [r] at hv
    simp only [List.getElem?_toArray, List.getElem?_map, Option.map_eq_some_iff] at hv
    obtain ⟨x, -, rfl⟩ := hv
    rfl
  obtain ⟨T', h', X', e', E', B, Q, st⟩ := cloneA X hx hZ hown w1 w2 w3 w4 w5 w6 eT A' E FC hg hsize hs hd hf (cap := cap) hW hl (by omega) hc hsl
  exact ⟨T', h', X', e', E', ⟨_, B, r⟩, Q, st⟩
theorem own_lenD (X : Stand p l e R s m args below meth c T locs cells slots) (hx : p.tables.exec = Jvm.exec) (hZ : Z.Warmed39 s.vm) (eT : T.heap = h) (A : OwnDA Z h o vs) {z : Int32} (hn : vs.length.toInt32 = z) {g : JFrame} (hg : g.method = m) {rest : List Value} (hs : g.stack = .ref o :: rest) (hd : decode c.code g.pc = .ok (.arraylength, 1)) {target : State}
    (hr : Steps p.tables e below (T.setTop { g with pc := g.pc + 1, stack := .int z :: rest }) target) : Steps p.tables e below (T.setTop g) target := by
  obtain ⟨cl, A', r⟩ := A
  have hz : cl.slots.size = vs.length := by rw [r]; simp
  refine X.arraylength hx (by rw [eT]; exact A'.1) (State.isArrayOf_alike hZ.alike A'.2.1) hg hs hd target ?_
  rw [hz, hn]; exact hr
end OwnDAx
/-- an array of ints by its list -/
def OwnIA (Z : State) (h : Heap) (o : Addr) (vs : List Int32) : Prop := ∃ c : Cell, Jvm.RoadKit.Arr Z h o c .int ∧ c.slots = (vs.map Value.int).toArray
section OwnIAs
variable {Z : State} {h h' : Heap} {o b : Addr} {vs : List Int32} {sl : Nat} {w : Value} {ws : List Addr}
theorem OwnIA.lt (A : OwnIA Z h o vs) : o < h.size := by obtain ⟨c, A, -⟩ := A; exact A.lt
theorem OwnIA.ex (A : OwnIA Z h o vs) (E : Ext h h') : OwnIA Z h' o vs := by obtain ⟨c, A, q⟩ := A; exact ⟨c, A.ext E, q⟩
theorem OwnIA.ot (A : OwnIA Z h o vs) (W : Wr h h' b sl w) (q : o ≠ b) : OwnIA Z h' o vs := by obtain ⟨c, A, r⟩ := A; exact ⟨c, A.other W q, r⟩
theorem OwnIA.kp (A : OwnIA Z h o vs) (K : Keep h h' ws) (q : o ∉ ws) : OwnIA Z h' o vs := by obtain ⟨c, A, r⟩ := A; exact ⟨c, ⟨K.2.1 o c A.1 q, A.2⟩, r⟩
theorem OwnIA.nw {k : ClassId} {z : Int32} (A : Jvm.RoadKit.Arr Z h o (newA k .int z) .int) (n : Nat) (hn : z.toNatClampNeg = n) : OwnIA Z h o (List.replicate n 0) := by
  refine ⟨_, A, ?_⟩
  show Array.replicate z.toNatClampNeg (Value.int 0) = _
  rw [hn]; simp
theorem OwnIA.st {x : Int32} {i : Nat} (A : OwnIA Z h o vs) (W : Wr h h' o i (.int x)) : OwnIA Z h' o (vs.set i x) := by
  obtain ⟨c, A, r⟩ := A
  refine ⟨_, A.same W, ?_⟩
  show c.slots.setIfInBounds i (.int x) = _
  rw [r]; simp [List.map_set]
variable {p : Program} {l : Launch} {e : Env} {R : Room} {s : State} {m : MethodId} {args : Array Value} {below : List Frame} {meth : Method} {c : Code} {T : State} {locs : List Loc} {cells slots : Nat}
theorem own_iaS (X : Stand p l e R s m args below meth c T locs cells slots) (hx : p.tables.exec = Jvm.exec) (hZ : Z.Warmed39 s.vm) (eT : T.heap = h) (A : OwnIA Z h o vs) {j : Int32} {x : Int32} {i : Nat} (hj : ¬ j < 0) (hji : j.toNatClampNeg = i) (hi : i < vs.length) {g : JFrame} (hg : g.method = m) {rest : List Value} (hs : g.stack = .int x :: .int j :: .ref o :: rest) (hd : decode c.code g.pc = .ok (.iastore, 1)) :
    ∃ T' h', Stand p l e R s m args below meth c T' (locs ++ [⟨o, i⟩]) cells slots ∧ T'.heap = h' ∧ Wr h h' o i (.int x) ∧ OwnIA Z h' o (vs.set i x) ∧ ∀ target, Steps p.tables e below (T'.setTop { g with pc := g.pc + 1, stack := rest }) target → Steps p.tables e below (T.setTop g) target := by
  subst hji
  obtain ⟨cl, A', r⟩ := A
  have hz : cl.slots.size = vs.length := by rw [r]; simp
  obtain ⟨T', h', X', e', W, st⟩ := stI X hx hZ eT A' (j := j) (x := x) (fun q => q.elim hj (fun q => by omega)) hg hs hd
  exact ⟨T', h', X', e', W, OwnIA.st ⟨cl, A', r⟩ W, st⟩
theorem own_iaL (X : Stand p l e R s m args below meth c T locs cells slots) (hx : p.tables.exec = Jvm.exec) (hZ : Z.Warmed39 s.vm) (eT : T.heap = h) (A : OwnIA Z h o vs) {j : Int32} {x : Int32} {i : Nat} (hj : ¬ j < 0) (hji : j.toNatClampNeg = i) (hv : vs[i]? = some x) {g : JFrame} (hg : g.method = m) {rest : List Value} (hs : g.stack = .int j :: .ref o :: rest) (hd : decode c.code g.pc = .ok (.iaload, 1)) {target : State}
    (hr : Steps p.tables e below (T.setTop { g with pc := g.pc + 1, stack := .int x :: rest }) target) : Steps p.tables e below (T.setTop g) target := by
  subst hji
  obtain ⟨cl, A', r⟩ := A
  have hz : cl.slots.size = vs.length := by rw [r]; simp
  have hi : j.toNatClampNeg < vs.length := (List.getElem?_eq_some_iff.mp hv).1
  exact X.iaload hx (j := j) (v := .int x) (by rw [eT]; exact A'.1) (State.isArrayOf_alike hZ.alike A'.2.1) A'.2.2 (fun q => q.elim hj (fun q => by omega)) (by rw [r]; simp [hv]) hg hs hd target hr
theorem own_newI (X : Stand p l e R s m args below meth c T locs cells slots) (hx : p.tables.exec = Jvm.exec) (hZ : Z.Warmed39 s.vm) {a0 : Array Value} (w : (Cond.arrayClass .int).before a0 Z = true) (eT : T.heap = h) {g : JFrame} (hg : g.method = m) (hd : decode c.code g.pc = .ok (.newarray .int, 2)) {z : Int32} {n : Nat} {rest : List Value} (hs : g.stack = .int z :: rest) (hz : ¬ z < 0) (hn : z.toNatClampNeg = n) (hb : n * 8 ≤ 536870912) (hc : cells + 1 ≤ R.cells) (hl : slots + n ≤ R.slots) :
    ∃ T' h', Stand p l e R s m args below meth c T' locs (cells + 1) (slots + n) ∧ T'.heap = h' ∧ Ext h h' ∧ OwnIA Z h' h.size (List.replicate n 0) ∧ ∀ target, Steps p.tables e below (T'.setTop { g with pc := g.pc + 2, stack := .ref h.size :: rest }) target → Steps p.tables e below (T.setTop g) target := by
  obtain ⟨T', h', cA, X', e', E, A, st⟩ := newP X hx hZ (aty := .int) w eT hg hd hs hz (cap := n) (Nat.le_of_eq hn) hb hc hl
  exact ⟨T', h', X', e', E, OwnIA.nw A n hn, st⟩
end OwnIAs
section OwnIAx
variable {Z : State} {h h' : Heap} {o b : Addr} {vs : List Int32} {sl : Nat} {w : Value} {ws : List Addr}
variable {p : Program} {l : Launch} {e : Env} {R : Room} {s : State} {m : MethodId} {args : Array Value} {below : List Frame} {meth : Method} {c : Code} {T : State} {locs : List Loc} {cells slots : Nat}
theorem own_newIX (X : Stand p l e R s m args below meth c T locs cells slots) (hx : p.tables.exec = Jvm.exec) (hZ : Z.Warmed39 s.vm) {a0 : Array Value} (w : (Cond.arrayClass .int).before a0 Z = true) (eT : T.heap = h) {g : JFrame} (hg : g.method = m) (hd : decode c.code g.pc = .ok (.newarray .int, 2)) {z : Int32} {n : Nat} {rest : List Value} (hs : g.stack = .int z :: rest) (hz : ¬ z < 0) (hn : z.toNatClampNeg = n) (hb : n * 8 ≤ 536870912) (hc : cells + 1 ≤ R.cells) (hl : slots + n ≤ R.slots) :
    ∃ T' h', Stand p l e R s m args below meth c T' locs (cells + 1) (slots + n) ∧ T'.heap = h' ∧ Ext h h' ∧ OwnIA Z h' h.size (List.replicate n 0) ∧ Exa Z h' h.size "[I" ∧ ∀ target, Steps p.tables e below (T'.setTop { g with pc := g.pc + 2, stack := .ref h.size :: rest }) target → Steps p.tables e below (T.setTop g) target := by
  obtain ⟨T', h', cA, X', e', E, A, Q, st⟩ := newPE X hx hZ (aty := .int) w eT hg hd hs hz (cap := n) (Nat.le_of_eq hn) hb hc hl (ad := "[I") (by decide)
  exact ⟨T', h', X', e', E, OwnIA.nw A n hn, Q, st⟩
theorem own_cloneI (X : Stand p l e R s m args below meth c T locs cells slots) (hx : p.tables.exec = Jvm.exec) (hZ : Z.Warmed39 s.vm) {a0 : Array Value} {own : String} {index : Nat} (hown : s.vm.findClass own = some m.cls)
    (w1 : (Cond.methodLink own index ⟨"[I", "clone", "()Ljava/lang/Object;"⟩).before a0 Z = true) (w2 : (Cond.sameMethod "[I" "java/lang/Object" "clone" "()Ljava/lang/Object;").before a0 Z = true) (w3 : (Cond.native ⟨"java/lang/Object", "clone", "()Ljava/lang/Object;"⟩).before a0 Z = true)
    (w4 : (Cond.instanceMethod ⟨"java/lang/Object", "clone", "()Ljava/lang/Object;"⟩).before a0 Z = true) (w5 : (Cond.selects "[I" ⟨"[I", "clone", "()Ljava/lang/Object;"⟩ ⟨"java/lang/Object", "clone", "()Ljava/lang/Object;"⟩).before a0 Z = true) (w6 : (Cond.castable "[I" "java/lang/Cloneable").before a0 Z = true)
    (eT : T.heap = h) (A : OwnIA Z h o vs) (E : Exa Z h o "[I") {g : JFrame} (hg : g.method = m) (hsize : g.locals.size = c.maxLocals) {rest : List Value} (hs : g.stack = .ref o :: rest) (hd : decode c.code g.pc = .ok (.invokevirtual index, 3))
    (hf : 1 ≤ R.frames) {W cap : Nat} (hW : 2 * g.monitorRoom + (rest.map fun v => v.category).sum ≤ W) (hl : W + 14 ≤ R.locals) (hcap : vs.length ≤ cap) (hc : cells + 1 ≤ R.cells) (hsl : slots + cap ≤ R.slots) :
    ∃ T' h', Stand p l e R s m args below meth c T' locs (cells + 1) (slots + cap) ∧ T'.heap = h' ∧ Ext h h' ∧ OwnIA Z h' h.size vs ∧ Exa Z h' h.size "[I" ∧
      ∀ target, Steps p.tables e below (T'.setTop { g with pc := g.pc + 3, stack := .ref h.size :: rest }) target → Steps p.tables e below (T.setTop g) target := by
  obtain ⟨cl, A', r⟩ := A
  have hz : cl.slots.size = vs.length := by rw [r]; simp
  have FC : FitC Z cl := fitC_of A' fun i hi v hv => by
    rw [r] at hv
    simp only [List.getElem?_toArray, List.getElem?_map, Option.map_eq_some_iff] at hv
    obtain ⟨x, -, rfl⟩ := hv
    rfl
  obtain ⟨T', h', X', e', E', B, Q, st⟩ := cloneA X hx hZ hown w1 w2 w3 w4 w5 w6 eT A' E FC hg hsize hs hd hf (cap := cap) hW hl (by omega) hc hsl
  exact ⟨T', h', X', e', E', ⟨_, B, r⟩, Q, st⟩
theorem own_lenI (X : Stand p l e R s m args below meth c T locs cells slots) (hx : p.tables.exec = Jvm.exec) (hZ : Z.Warmed39 s.vm) (eT : T.heap = h) (A : OwnIA Z h o vs) {z : Int32} (hn : vs.length.toInt32 = z) {g : JFrame} (hg : g.method = m) {rest : List Value} (hs : g.stack = .ref o :: rest) (hd : decode c.code g.pc = .ok (.arraylength, 1)) {target : State}
    (hr : Steps p.tables e below (T.setTop { g with pc := g.pc + 1, stack := .int z :: rest }) target) : Steps p.tables e below (T.setTop g) target := by
  obtain ⟨cl, A', r⟩ := A
  have hz : cl.slots.size = vs.length := by rw [r]; simp
  refine X.arraylength hx (by rw [eT]; exact A'.1) (State.isArrayOf_alike hZ.alike A'.2.1) hg hs hd target ?_
  rw [hz, hn]; exact hr
end OwnIAx
theorem own_and3 (x : Int32) : x &&& 3 = 0 ∨ x &&& 3 = 1 ∨ x &&& 3 = 2 ∨ x &&& 3 = 3 := by
  have q := Jvm.Kit.i32_mask x 3 (k := 2) (by decide) (by decide)
  have h0 : (0 : Int32).toInt = 0 := rfl
  have h1 : (1 : Int32).toInt = 1 := rfl
  have h2 : (2 : Int32).toInt = 2 := rfl
  have h3 : (3 : Int32).toInt = 3 := rfl
  rw [← Int32.toInt_inj, ← Int32.toInt_inj, ← Int32.toInt_inj, ← Int32.toInt_inj, h0, h1, h2, h3]
  omega
theorem own_neT {x y : Int32} (h : x ≠ y) : if_icmp.holds .ne x y = true := (own_br2 .ne _ _).trans (decide_eq_true fun q => h (Int32.toInt_inj.mp q))
theorem own_neF {x y : Int32} (h : x = y) : if_icmp.holds .ne x y = false := (own_br2 .ne _ _).trans (decide_eq_false fun q => q (by rw [h]))
theorem own_nn0 : Jvm.Free.Fl.NoNaN64 0 := by unfold Jvm.Free.Fl.NoNaN64; decide
theorem d1_0 : decode jdk_29_method_69_code 0 = .ok (.iload_n 0, 1) := by decide +kernel
theorem d1_1 : decode jdk_29_method_69_code 1 = .ok (.iload_n 1, 1) := by decide +kernel
theorem d1_2 : decode jdk_29_method_69_code 2 = .ok (.if_icmp .gt 7, 3) := by decide +kernel
theorem d1_5 : decode jdk_29_method_69_code 5 = .ok (.iload_n 0, 1) := by decide +kernel
theorem d1_6 : decode jdk_29_method_69_code 6 = .ok (.goto 4, 3) := by decide +kernel
theorem d1_9 : decode jdk_29_method_69_code 9 = .ok (.iload_n 1, 1) := by decide +kernel
theorem d1_10 : decode jdk_29_method_69_code 10 = .ok (.ireturn, 1) := by decide +kernel
theorem pn_rmMin : plainFor (⟨"java/lang/Math", "min", "(II)I"⟩ : MethodName) = true := Jvm.Free.JP.mathPlain rfl (by decide +kernel)
theorem pd_rmMin : parseMethodDescriptor "(II)I" = some ⟨[.int, .int], (some .int)⟩ := by decide +kernel
theorem ef_rmMin (m : MethodId) (xa xb : Int32) : entryFrame m #[(.int xa), (.int xb)] 2 = (mkF m 0 #[sI xa, sI xb] []) := by first | (simp [entryFrame, mkF, argsToLocals, Value.category, maxLocals]; done) | rfl
def Q_rmMin (Z : State) (xa xb : Int32) (h0 : Heap) (n0 : Nat) (v : Option Value) (h : Heap) (L : List Loc) : Prop := ∃ r, v = some (.int r) ∧ r.toInt = min xa.toInt xb.toInt ∧ Fr n0 L ∧ h = h0
set_option maxRecDepth 65536 in
set_option maxHeartbeats 40000000 in
theorem rmMin (l : Launch) (Z : State) (a0 : Array Value) (hw : ∀ d ∈ tables_1, d.before a0 Z = true) (ws : List Jvm.Cond) (xa xb : Int32) (h0 : Heap) (n0 : Nat) (Z0 : n0 ≤ h0.size)  :
    MetFree l (⟨"java/lang/Math", "min", "(II)I"⟩ : MethodName) (head1 (Jvm.Cond.code (⟨"java/lang/Math", "min", "(II)I"⟩ : MethodName) jdk_29_method_69_code 2 (some .int) :: ws) ({ frames := 0, cells := 0, slots := 0, locals := 0 } : Room)) (fun a U => a = #[(.int xa), (.int xb)] ∧ Z.Warmed39 U.vm ∧ U.heap = h0) (fun _ _ _ _ _ => True) (fun _ U oO U' => ∃ v L, oO = .returned v ∧ Q_rmMin Z xa xb h0 n0 v U'.heap L ∧ FrameEnd U oO U' L ({ frames := 0, cells := 0, slots := 0, locals := 0 } : Room).cells ({ frames := 0, cells := 0, slots := 0, locals := 0 } : Room).slots) := by
  refine MetFree.of_bodySF pn_rmMin hisR ?_
  intro p e s m args below meth c s₁ Bd hml0 hP hK
  obtain ⟨rfl, hZ, hh⟩ := hP
  have hx := Bd.exec
  have hby := Bd.bytes
  have hml : c.maxLocals = 2 := hml0
  have hown : s.vm.findClass "java/lang/Math" = some m.cls := findClass_of_methodNamed Bd.named
  have hnm := (name_of_methodNamed Bd.named Bd.method).1
  have hk := Bd.notSynchronized
  have hrt := Bd.returns
  have X0 : Stand p l e ({ frames := 0, cells := 0, slots := 0, locals := 0 } : Room) s m #[(.int xa), (.int xb)] below meth c s₁ [] 0 0 := Stand.of_body Bd
  have e0 : s₁.heap = h0 := by rw [← hh, Bd.state]; rfl
  have N0 := Fr.nil n0
  show OwnGo p.tables e below (OwnEnd s (Q_rmMin Z xa xb h0 n0) ({ frames := 0, cells := 0, slots := 0, locals := 0 } : Room).cells ({ frames := 0, cells := 0, slots := 0, locals := 0 } : Room).slots) _
  refine OwnGo.pre (fun t k => castTop (ef_rmMin m xa xb) k) ?_
  show OwnGo _ _ _ _ (s₁.setTop (mkF m 0 #[sI xa, sI xb] []))
  refine OwnGo.pre (fun t k => XS.iloadN X0.here hx rfl (hb hby d1_0) rfl (XS.iloadN X0.here hx rfl (hb hby d1_1) rfl k)) ?_
  show OwnGo _ _ _ _ (s₁.setTop (mkF m 2 #[sI xa, sI xb] [(.int xb), (.int xa)]))
  by_cases hq : xb.toInt < xa.toInt
  · skip
    refine OwnGo.pre (fun t k => XS.icmpYes X0.here hx rfl (pc0 := 2) (pc' := 9) rfl (hb hby d1_2) rfl ((own_br2 .gt _ _).trans (decide_eq_true (by omega))) (by decide) (by decide) (XS.iloadN X0.here hx rfl (hb hby d1_9) rfl k)) ?_
    show OwnGo _ _ _ _ (s₁.setTop (mkF m 10 #[sI xa, sI xb] [(.int xb)]))
    exact own_retI X0 hx hk hrt (hb hby d1_10) ⟨_, rfl, by omega, N0, e0⟩ (by decide) (by decide)
  · skip
    refine OwnGo.pre (fun t k => XS.icmpNo X0.here hx rfl (hb hby d1_2) rfl ((own_br2 .gt _ _).trans (decide_eq_false (by omega))) (XS.iloadN X0.here hx rfl (hb hby d1_5) rfl (XS.goto X0.here hx rfl (pc0 := 6) (pc' := 10) rfl (hb hby d1_6) (by decide) (by decide) k))) ?_
    show OwnGo _ _ _ _ (s₁.setTop (mkF m 10 #[sI xa, sI xb] [(.int xa)]))
    exact own_retI X0 hx hk hrt (hb hby d1_10) ⟨_, rfl, by omega, N0, e0⟩ (by decide) (by decide)
theorem d2_0 : decode jdk_29_method_65_code 0 = .ok (.iload_n 0, 1) := by decide +kernel
theorem d2_1 : decode jdk_29_method_65_code 1 = .ok (.iload_n 1, 1) := by decide +kernel
theorem d2_2 : decode jdk_29_method_65_code 2 = .ok (.if_icmp .lt 7, 3) := by decide +kernel
theorem d2_5 : decode jdk_29_method_65_code 5 = .ok (.iload_n 0, 1) := by decide +kernel
theorem d2_6 : decode jdk_29_method_65_code 6 = .ok (.goto 4, 3) := by decide +kernel
theorem d2_9 : decode jdk_29_method_65_code 9 = .ok (.iload_n 1, 1) := by decide +kernel
theorem d2_10 : decode jdk_29_method_65_code 10 = .ok (.ireturn, 1) := by decide +kernel
theorem pn_rmMax : plainFor (⟨"java/lang/Math", "max", "(II)I"⟩ : MethodName) = true := Jvm.Free.JP.mathPlain rfl (by decide +kernel)
theorem pd_rmMax : parseMethodDescriptor "(II)I" = some ⟨[.int, .int], (some .int)⟩ := by decide +kernel
theorem ef_rmMax (m : MethodId) (xa xb : Int32) : entryFrame m #[(.int xa), (.int xb)] 2 = (mkF m 0 #[sI xa, sI xb] []) := by first | (simp [entryFrame, mkF, argsToLocals, Value.category, maxLocals]; done) | rfl
def Q_rmMax (Z : State) (xa xb : Int32) (h0 : Heap) (n0 : Nat) (v : Option Value) (h : Heap) (L : List Loc) : Prop := ∃ r, v = some (.int r) ∧ r.toInt = max xa.toInt xb.toInt ∧ Fr n0 L ∧ h = h0
set_option maxRecDepth 65536 in
set_option maxHeartbeats 40000000 in
theorem rmMax (l : Launch) (Z : State) (a0 : Array Value) (hw : ∀ d ∈ tables_1, d.before a0 Z = true) (ws : List Jvm.Cond) (xa xb : Int32) (h0 : Heap) (n0 : Nat) (Z0 : n0 ≤ h0.size)  :
    MetFree l (⟨"java/lang/Math", "max", "(II)I"⟩ : MethodName) (head1 (Jvm.Cond.code (⟨"java/lang/Math", "max", "(II)I"⟩ : MethodName) jdk_29_method_65_code 2 (some .int) :: ws) ({ frames := 0, cells := 0, slots := 0, locals := 0 } : Room)) (fun a U => a = #[(.int xa), (.int xb)] ∧ Z.Warmed39 U.vm ∧ U.heap = h0) (fun _ _ _ _ _ => True) (fun _ U oO U' => ∃ v L, oO = .returned v ∧ Q_rmMax Z xa xb h0 n0 v U'.heap L ∧ FrameEnd U oO U' L ({ frames := 0, cells := 0, slots := 0, locals := 0 } : Room).cells ({ frames := 0, cells := 0, slots := 0, locals := 0 } : Room).slots) := by
  refine MetFree.of_bodySF pn_rmMax hisR ?_
  intro p e s m args below meth c s₁ Bd hml0 hP hK
  obtain ⟨rfl, hZ, hh⟩ := hP
  have hx := Bd.exec
  have hby := Bd.bytes
  have hml : c.maxLocals = 2 := hml0
  have hown : s.vm.findClass "java/lang/Math" = some m.cls := findClass_of_methodNamed Bd.named
  have hnm := (name_of_methodNamed Bd.named Bd.method).1
  have hk := Bd.notSynchronized
  have hrt := Bd.returns
  have X0 : Stand p l e ({ frames := 0, cells := 0, slots := 0, locals := 0 } : Room) s m #[(.int xa), (.int xb)] below meth c s₁ [] 0 0 := Stand.of_body Bd
  have e0 : s₁.heap = h0 := by rw [← hh, Bd.state]; rfl
  have N0 := Fr.nil n0
  show OwnGo p.tables e below (OwnEnd s (Q_rmMax Z xa xb h0 n0) ({ frames := 0, cells := 0, slots := 0, locals := 0 } : Room).cells ({ frames := 0, cells := 0, slots := 0, locals := 0 } : Room).slots) _
  refine OwnGo.pre (fun t k => castTop (ef_rmMax m xa xb) k) ?_
  show OwnGo _ _ _ _ (s₁.setTop (mkF m 0 #[sI xa, sI xb] []))
  refine OwnGo.pre (fun t k => XS.iloadN X0.here hx rfl (hb hby d2_0) rfl (XS.iloadN X0.here hx rfl (hb hby d2_1) rfl k)) ?_
  show OwnGo _ _ _ _ (s₁.setTop (mkF m 2 #[sI xa, sI xb] [(.int xb), (.int xa)]))
  by_cases hq : xa.toInt < xb.toInt
  · skip
    refine OwnGo.pre (fun t k => XS.icmpYes X0.here hx rfl (pc0 := 2) (pc' := 9) rfl (hb hby d2_2) rfl ((own_br2 .lt _ _).trans (decide_eq_true (by omega))) (by decide) (by decide) (XS.iloadN X0.here hx rfl (hb hby d2_9) rfl k)) ?_
    show OwnGo _ _ _ _ (s₁.setTop (mkF m 10 #[sI xa, sI xb] [(.int xb)]))
    exact own_retI X0 hx hk hrt (hb hby d2_10) ⟨_, rfl, by omega, N0, e0⟩ (by decide) (by decide)
  · skip
    refine OwnGo.pre (fun t k => XS.icmpNo X0.here hx rfl (hb hby d2_2) rfl ((own_br2 .lt _ _).trans (decide_eq_false (by omega))) (XS.iloadN X0.here hx rfl (hb hby d2_5) rfl (XS.goto X0.here hx rfl (pc0 := 6) (pc' := 10) rfl (hb hby d2_6) (by decide) (by decide) k))) ?_
    show OwnGo _ _ _ _ (s₁.setTop (mkF m 10 #[sI xa, sI xb] [(.int xa)]))
    exact own_retI X0 hx hk hrt (hb hby d2_10) ⟨_, rfl, by omega, N0, e0⟩ (by decide) (by decide)
theorem d3_0 : decode prog_36_method_1_code 0 = .ok (.aload_n 0, 1) := by decide +kernel
theorem d3_1 : decode prog_36_method_1_code 1 = .ok (.invokespecial 1, 3) := by decide +kernel
theorem d3_4 : decode prog_36_method_1_code 4 = .ok (.aload_n 0, 1) := by decide +kernel
theorem d3_5 : decode prog_36_method_1_code 5 = .ok (.aload_n 1, 1) := by decide +kernel
theorem d3_6 : decode prog_36_method_1_code 6 = .ok (.invokevirtual 7, 3) := by decide +kernel
theorem d3_9 : decode prog_36_method_1_code 9 = .ok (.checkcast 8, 3) := by decide +kernel
theorem d3_12 : decode prog_36_method_1_code 12 = .ok (.putfield 13, 3) := by decide +kernel
theorem d3_15 : decode prog_36_method_1_code 15 = .ok (.aload_n 0, 1) := by decide +kernel
theorem d3_16 : decode prog_36_method_1_code 16 = .ok (.aload_n 2, 1) := by decide +kernel
theorem d3_17 : decode prog_36_method_1_code 17 = .ok (.invokevirtual 18, 3) := by decide +kernel
theorem d3_20 : decode prog_36_method_1_code 20 = .ok (.checkcast 19, 3) := by decide +kernel
theorem d3_23 : decode prog_36_method_1_code 23 = .ok (.putfield 21, 3) := by decide +kernel
theorem d3_26 : decode prog_36_method_1_code 26 = .ok (.return_, 1) := by decide +kernel
theorem pn_rmI0 : plainName "com/example/clausewright/clausewright/learning/ClauseModel$Weights" = true := by first | (simp [plainName, overriddenIn]; done) | decide +kernel
theorem pd_rmI0 : parseMethodDescriptor "([I[D)V" = some ⟨[(.array .int), (.array .double)], none⟩ := by decide +kernel
theorem ef_rmI0 (m : MethodId) (o oc ov : Addr) : entryFrame m #[(.ref o), (.ref oc), (.ref ov)] 3 = (mkF m 0 #[sR o, sR oc, sR ov] []) := by first | (simp [entryFrame, mkF, argsToLocals, Value.category, maxLocals]; done) | rfl
def Q_rmI0 (Z : State) (o oc ov : Addr) (h0 : Heap) (n0 : Nat) (v : Option Value) (h : Heap) (L : List Loc) : Prop := ∃ ac av, v = none ∧ Fr n0 L ∧ Keep h0 h [o] ∧ n0 ≤ h.size ∧ Exa Z h o "com/example/clausewright/clausewright/learning/ClauseModel$Weights" ∧ Fld Z h o "com/example/clausewright/clausewright/learning/ClauseModel$Weights" "columns" "[I" (.ref ac) ∧ Fld Z h o "com/example/clausewright/clausewright/learning/ClauseModel$Weights" "values" "[D" (.ref av) ∧ OwnIA Z h ac [] ∧ OwnDA Z h av []
set_option maxRecDepth 65536 in
set_option maxHeartbeats 40000000 in
theorem rmI0 (l : Launch) (Z : State) (a0 : Array Value) (hw : ∀ d ∈ tables_1, d.before a0 Z = true) (ws : List Jvm.Cond) (o oc ov : Addr) (h0 : Heap) (n0 : Nat) (Z0 : n0 ≤ h0.size) (E : Exa Z h0 o "com/example/clausewright/clausewright/learning/ClauseModel$Weights") (F0 : Fld Z h0 o "com/example/clausewright/clausewright/learning/ClauseModel$Weights" "columns" "[I" .null) (F1 : Fld Z h0 o "com/example/clausewright/clausewright/learning/ClauseModel$Weights" "values" "[D" .null) (g : n0 ≤ o) (Ac : OwnIA Z h0 oc []) (Ec : Exa Z h0 oc "[I") (Av : OwnDA Z h0 ov []) (Ev : Exa Z h0 ov "[D") (nv : ov ≠ o) :
    MetFree l (⟨"com/example/clausewright/clausewright/learning/ClauseModel$Weights", "<init>", "([I[D)V"⟩ : MethodName) (head1 (Jvm.Cond.code (⟨"com/example/clausewright/clausewright/learning/ClauseModel$Weights", "<init>", "([I[D)V"⟩ : MethodName) prog_36_method_1_code 3 none :: ws) ({ frames := 1, cells := 2, slots := 0, locals := 15 } : Room)) (fun a U => a = #[(.ref o), (.ref oc), (.ref ov)] ∧ Z.Warmed39 U.vm ∧ U.heap = h0) (fun _ _ _ _ _ => True) (fun _ U oO U' => ∃ v L, oO = .returned v ∧ Q_rmI0 Z o oc ov  h0 n0 v U'.heap L ∧ FrameEnd U oO U' L ({ frames := 1, cells := 2, slots := 0, locals := 15 } : Room).cells ({ frames := 1, cells := 2, slots := 0, locals := 15 } : Room).slots) := by
  refine MetFree.of_bodySF (plainFor_of_name pn_rmI0) hisR ?_
  intro p e s m args below meth c s₁ Bd hml0 hP hK
  obtain ⟨rfl, hZ, hh⟩ := hP
  have hx := Bd.exec
  have hby := Bd.bytes
  have hml : c.maxLocals = 3 := hml0
  have hown : s.vm.findClass "com/example/clausewright/clausewright/learning/ClauseModel$Weights" = some m.cls := findClass_of_methodNamed Bd.named
  have hnm := (name_of_methodNamed Bd.named Bd.method).1
  have hk := Bd.notSynchronized
  have hrt := Bd.returns
  have X0 : Stand p l e ({ frames := 1, cells := 2, slots := 0, locals := 15 } : Room) s m #[(.ref o), (.ref oc), (.ref ov)] below meth c s₁ [] 0 0 := Stand.of_body Bd
  have e0 : s₁.heap = h0 := by rw [← hh, Bd.state]; rfl
  have N0 := Fr.nil n0
  show OwnGo p.tables e below (OwnEnd s (Q_rmI0 Z o oc ov  h0 n0) ({ frames := 1, cells := 2, slots := 0, locals := 15 } : Room).cells ({ frames := 1, cells := 2, slots := 0, locals := 15 } : Room).slots) _
  refine OwnGo.pre (fun t k => castTop (ef_rmI0 m o oc ov ) k) ?_
  show OwnGo _ _ _ _ (s₁.setTop (mkF m 0 #[sR o, sR oc, sR ov] []))
  refine OwnGo.pre (fun t k => XS.aloadN X0.here hx rfl (hb hby d3_0) rfl rfl k) ?_
  show OwnGo _ _ _ _ (s₁.setTop (mkF m 1 #[sR o, sR oc, sR ov] [(.ref o)]))
  obtain ⟨T1, X1, e1, st1⟩ := initO X0 hx hZ hown (hw _ (List.mem_of_getElem? (i := 15) rfl)) (hw _ (List.mem_of_getElem? (i := 16) rfl)) (hw _ (List.mem_of_getElem? (i := 17) rfl)) e0 (g := (mkF m 1 #[sR o, sR oc, sR ov] [(.ref o)])) rfl (by rw [hml]; rfl) rfl (hb hby d3_1) (by decide) (W := 0) (by show 2 * 0 + _ ≤ _; exact Nat.le_of_eq rfl) (by decide)
  refine OwnGo.pre (fun t k => st1 t k) ?_
  show OwnGo _ _ _ _ (T1.setTop (mkF m 4 #[sR o, sR oc, sR ov] []))
  refine OwnGo.pre (fun t k => XS.aloadN X1.here hx rfl (hb hby d3_4) rfl rfl (XS.aloadN X1.here hx rfl (hb hby d3_5) rfl rfl k)) ?_
  show OwnGo _ _ _ _ (T1.setTop (mkF m 6 #[sR o, sR oc, sR ov] [(.ref oc), (.ref o)]))
  obtain ⟨T2, h2, X2, e2, E2, A2, Q2, st2⟩ := own_cloneI X1 hx hZ hown (hw _ (List.mem_of_getElem? (i := 18) rfl)) (hw _ (List.mem_of_getElem? (i := 19) rfl)) (hw _ (List.mem_of_getElem? (i := 23) rfl)) (hw _ (List.mem_of_getElem? (i := 21) rfl)) (hw _ (List.mem_of_getElem? (i := 22) rfl)) (hw _ (List.mem_of_getElem? (i := 24) rfl)) e1 Ac Ec (g := (mkF m 6 #[sR o, sR oc, sR ov] [(.ref oc), (.ref o)])) rfl (by rw [hml]; rfl) rfl (hb hby d3_6) (by decide) (W := 1) (cap := 0) (by show 2 * 0 + _ ≤ _; exact Nat.le_of_eq rfl) (by decide) (by show 0 ≤ 0; decide) (by decide) (by decide)
  obtain ⟨a2, g2⟩ : ∃ z, z = h0.size := ⟨_, rfl⟩
  rw [← g2] at A2 Q2 st2
  have Z2 : n0 ≤ h2.size := Nat.le_trans Z0 E2.1
  refine OwnGo.pre (fun t k => st2 t k) ?_
  show OwnGo _ _ _ _ (T2.setTop (mkF m 9 #[sR o, sR oc, sR ov] [(.ref a2), (.ref o)]))
  obtain ⟨T3, X3, e3, st3⟩ := castY X2 hx hZ hown (hw _ (List.mem_of_getElem? (i := 25) rfl)) e2 (Ins.of_exa Q2 (hw _ (List.mem_of_getElem? (i := 26) rfl))) (g := (mkF m 9 #[sR o, sR oc, sR ov] [(.ref a2), (.ref o)])) rfl rfl (hb hby d3_9)
  refine OwnGo.pre (fun t k => st3 t k) ?_
  show OwnGo _ _ _ _ (T3.setTop (mkF m 12 #[sR o, sR oc, sR ov] [(.ref a2), (.ref o)]))
  have E1 := E.ext E2
  have F10 := F0.ext E2
  have F11 := F1.ext E2
  have Av1 := Av.ex E2
  have Ev1 := Ev.ext E2
  have n1 : a2 ≠ o := (Nat.ne_of_gt (Nat.lt_of_lt_of_le E.lt (Nat.le_of_eq g2.symm)))
  have K1 := (Keep.refl h0 [o]).ext E2
  obtain ⟨T4, h4, X4, e4, W4, st4⟩ := putF X3 hx hZ hown (host := "") (Or.inl (hw _ (List.mem_of_getElem? (i := 27) rfl))) Via.refl e3 F10 E1 (Or.inr ⟨(hw _ (List.mem_of_getElem? (i := 28) rfl)), rfl, hnm⟩) (hw _ (List.mem_of_getElem? (i := 10) rfl)) (ty := (.array .int)) (by decide) rfl rfl (g := (mkF m 12 #[sR o, sR oc, sR ov] [(.ref a2), (.ref o)])) rfl rfl (hb hby d3_12)
  have N4 := Fr.snoc X4 N0 g
  refine OwnGo.pre (fun t k => st4 t k) ?_
  show OwnGo _ _ _ _ (T4.setTop (mkF m 15 #[sR o, sR oc, sR ov] []))
  have F20 := F10.same W4
  have F21 := F11.other W4 (Or.inr (slot_ne (Or.inr (hw _ (List.mem_of_getElem? (i := 36) rfl))) (Or.inr (hw _ (List.mem_of_getElem? (i := 28) rfl))) (by decide) (t := (.array .double)) (by decide) (t' := (.array .int)) (by decide)))
  have E2 := E1.wr W4
  have A2 := A2.ot W4 n1
  have Av2 := Av1.ot W4 nv
  have Ev2 := Ev1.wr W4
  have K2 := K1.wr W4 (Or.inl (List.mem_of_getElem? (i := 0) rfl))
  have Z4b : n0 ≤ h4.size := by rw [W4.size]; exact Z2
  refine OwnGo.pre (fun t k => XS.aloadN X4.here hx rfl (hb hby d3_15) rfl rfl (XS.aloadN X4.here hx rfl (hb hby d3_16) rfl rfl k)) ?_
  show OwnGo _ _ _ _ (T4.setTop (mkF m 17 #[sR o, sR oc, sR ov] [(.ref ov), (.ref o)]))
  obtain ⟨T5, h5, X5, e5, E5, A5, Q5, st5⟩ := own_cloneD X4 hx hZ hown (hw _ (List.mem_of_getElem? (i := 29) rfl)) (hw _ (List.mem_of_getElem? (i := 30) rfl)) (hw _ (List.mem_of_getElem? (i := 23) rfl)) (hw _ (List.mem_of_getElem? (i := 21) rfl)) (hw _ (List.mem_of_getElem? (i := 31) rfl)) (hw _ (List.mem_of_getElem? (i := 32) rfl)) e4 Av2 Ev2 (g := (mkF m 17 #[sR o, sR oc, sR ov] [(.ref ov), (.ref o)])) rfl (by rw [hml]; rfl) rfl (hb hby d3_17) (by decide) (W := 1) (cap := 0) (by show 2 * 0 + _ ≤ _; exact Nat.le_of_eq rfl) (by decide) (by show 0 ≤ 0; decide) (by decide) (by decide)
  obtain ⟨a5, g5⟩ : ∃ z, z = h4.size := ⟨_, rfl⟩
  rw [← g5] at A5 Q5 st5
  have Z5 : n0 ≤ h5.size := Nat.le_trans Z4b E5.1
  refine OwnGo.pre (fun t k => st5 t k) ?_
  show OwnGo _ _ _ _ (T5.setTop (mkF m 20 #[sR o, sR oc, sR ov] [(.ref a5), (.ref o)]))
  obtain ⟨T6, X6, e6, st6⟩ := castY X5 hx hZ hown (hw _ (List.mem_of_getElem? (i := 33) rfl)) e5 (Ins.of_exa Q5 (hw _ (List.mem_of_getElem? (i := 34) rfl))) (g := (mkF m 20 #[sR o, sR oc, sR ov] [(.ref a5), (.ref o)])) rfl rfl (hb hby d3_20)
  refine OwnGo.pre (fun t k => st6 t k) ?_
  show OwnGo _ _ _ _ (T6.setTop (mkF m 23 #[sR o, sR oc, sR ov] [(.ref a5), (.ref o)]))
  have E3 := E2.ext E5
  have F30 := F20.ext E5
  have F31 := F21.ext E5
  have A3 := A2.ex E5
  have n2 : a5 ≠ o := (Nat.ne_of_gt (Nat.lt_of_lt_of_le E2.lt (Nat.le_of_eq g5.symm)))
  have K3 := K2.ext E5
  obtain ⟨T7, h7, X7, e7, W7, st7⟩ := putF X6 hx hZ hown (host := "") (Or.inl (hw _ (List.mem_of_getElem? (i := 35) rfl))) Via.refl e6 F31 E3 (Or.inr ⟨(hw _ (List.mem_of_getElem? (i := 36) rfl)), rfl, hnm⟩) (hw _ (List.mem_of_getElem? (i := 10) rfl)) (ty := (.array .double)) (by decide) rfl rfl (g := (mkF m 23 #[sR o, sR oc, sR ov] [(.ref a5), (.ref o)])) rfl rfl (hb hby d3_23)
  have N7 := Fr.snoc X7 N4 g
  refine OwnGo.pre (fun t k => st7 t k) ?_
  show OwnGo _ _ _ _ (T7.setTop (mkF m 26 #[sR o, sR oc, sR ov] []))
  have F41 := F31.same W7
  have F40 := F30.other W7 (Or.inr (slot_ne (Or.inr (hw _ (List.mem_of_getElem? (i := 28) rfl))) (Or.inr (hw _ (List.mem_of_getElem? (i := 36) rfl))) (by decide) (t := (.array .int)) (by decide) (t' := (.array .double)) (by decide)))
  have E4 := E3.wr W7
  have A4 := A3.ot W7 n1
  have B4 := A5.ot W7 n2
  have K4 := K3.wr W7 (Or.inl (List.mem_of_getElem? (i := 0) rfl))
  have Z4 : n0 ≤ h7.size := by rw [W7.size]; exact Z5
  rw [← e7] at F40 F41 E4 A4 B4 K4 Z4
  exact own_ret0 X7 hx hk hrt (hb hby d3_26) ⟨_, _, rfl, N7, K4, Z4, E4, F40, F41, A4, B4⟩ (by decide) (by decide)
theorem d5_0 : decode prog_36_method_5_code 0 = .ok (.iconst 0, 1) := by decide +kernel
theorem d5_1 : decode prog_36_method_5_code 1 = .ok (.istore_n 2, 1) := by decide +kernel
theorem d5_2 : decode prog_36_method_5_code 2 = .ok (.iload_n 2, 1) := by decide +kernel
theorem d5_3 : decode prog_36_method_5_code 3 = .ok (.aload_n 0, 1) := by decide +kernel
theorem d5_4 : decode prog_36_method_5_code 4 = .ok (.getfield 13, 3) := by decide +kernel
theorem d5_7 : decode prog_36_method_5_code 7 = .ok (.arraylength, 1) := by decide +kernel
theorem d5_8 : decode prog_36_method_5_code 8 = .ok (.if_icmp .ge 26, 3) := by decide +kernel
theorem d5_11 : decode prog_36_method_5_code 11 = .ok (.aload_n 0, 1) := by decide +kernel
theorem d5_12 : decode prog_36_method_5_code 12 = .ok (.getfield 13, 3) := by decide +kernel
theorem d5_15 : decode prog_36_method_5_code 15 = .ok (.iload_n 2, 1) := by decide +kernel
theorem d5_16 : decode prog_36_method_5_code 16 = .ok (.iaload, 1) := by decide +kernel
theorem d5_17 : decode prog_36_method_5_code 17 = .ok (.iload_n 1, 1) := by decide +kernel
theorem d5_18 : decode prog_36_method_5_code 18 = .ok (.if_icmp .ne 10, 3) := by decide +kernel
theorem d5_21 : decode prog_36_method_5_code 21 = .ok (.aload_n 0, 1) := by decide +kernel
theorem d5_22 : decode prog_36_method_5_code 22 = .ok (.getfield 21, 3) := by decide +kernel
theorem d5_25 : decode prog_36_method_5_code 25 = .ok (.iload_n 2, 1) := by decide +kernel
theorem d5_26 : decode prog_36_method_5_code 26 = .ok (.daload, 1) := by decide +kernel
theorem d5_27 : decode prog_36_method_5_code 27 = .ok (.dreturn, 1) := by decide +kernel
theorem d5_28 : decode prog_36_method_5_code 28 = .ok (.iinc 2 1, 3) := by decide +kernel
theorem d5_31 : decode prog_36_method_5_code 31 = .ok (.goto (-29), 3) := by decide +kernel
theorem d5_34 : decode prog_36_method_5_code 34 = .ok (.dconst 0, 1) := by decide +kernel
theorem d5_35 : decode prog_36_method_5_code 35 = .ok (.dreturn, 1) := by decide +kernel
theorem pn_rmV0 : plainName "com/example/clausewright/clausewright/learning/ClauseModel$Weights" = true := by first | (simp [plainName, overriddenIn]; done) | decide +kernel
theorem pd_rmV0 : parseMethodDescriptor "(I)D" = some ⟨[.int], (some .double)⟩ := by decide +kernel
theorem ef_rmV0 (m : MethodId) (o ac av : Addr) (q : Int32) : entryFrame m #[(.ref o), (.int q)] 3 = (mkF m 0 #[sR o, sI q, uU] []) := by first | (simp [entryFrame, mkF, argsToLocals, Value.category, maxLocals]; done) | rfl
def Q_rmV0 (Z : State) (o ac av : Addr) (q : Int32) (h0 : Heap) (n0 : Nat) (v : Option Value) (h : Heap) (L : List Loc) : Prop := ∃ r : UInt64, v = some (.double r) ∧ r = 0 ∧ Fr n0 L ∧ h = h0
set_option maxRecDepth 65536 in
set_option maxHeartbeats 40000000 in
theorem rmV0 (l : Launch) (Z : State) (a0 : Array Value) (hw : ∀ d ∈ tables_1, d.before a0 Z = true) (ws : List Jvm.Cond) (o ac av : Addr) (q : Int32) (h0 : Heap) (n0 : Nat) (Z0 : n0 ≤ h0.size) (F0 : Fld Z h0 o "com/example/clausewright/clausewright/learning/ClauseModel$Weights" "columns" "[I" (.ref ac)) (F1 : Fld Z h0 o "com/example/clausewright/clausewright/learning/ClauseModel$Weights" "values" "[D" (.ref av)) (Ac : OwnIA Z h0 ac []) (Av : OwnDA Z h0 av []) :
    MetFree l (⟨"com/example/clausewright/clausewright/learning/ClauseModel$Weights", "valueIn", "(I)D"⟩ : MethodName) (head1 (Jvm.Cond.code (⟨"com/example/clausewright/clausewright/learning/ClauseModel$Weights", "valueIn", "(I)D"⟩ : MethodName) prog_36_method_5_code 3 (some .double) :: ws) ({ frames := 0, cells := 0, slots := 0, locals := 0 } : Room)) (fun a U => a = #[(.ref o), (.int q)] ∧ Z.Warmed39 U.vm ∧ U.heap = h0) (fun _ _ _ _ _ => True) (fun _ U oO U' => ∃ v L, oO = .returned v ∧ Q_rmV0 Z o ac av  q h0 n0 v U'.heap L ∧ FrameEnd U oO U' L ({ frames := 0, cells := 0, slots := 0, locals := 0 } : Room).cells ({ frames := 0, cells := 0, slots := 0, locals := 0 } : Room).slots) := by
  refine MetFree.of_bodySF (plainFor_of_name pn_rmV0) hisR ?_
  intro p e s m args below meth c s₁ Bd hml0 hP hK
  obtain ⟨rfl, hZ, hh⟩ := hP
  have hx := Bd.exec
  have hby := Bd.bytes
  have hml : c.maxLocals = 3 := hml0
  have hown : s.vm.findClass "com/example/clausewright/clausewright/learning/ClauseModel$Weights" = some m.cls := findClass_of_methodNamed Bd.named
  have hnm := (name_of_methodNamed Bd.named Bd.method).1
  have hk := Bd.notSynchronized
  have hrt := Bd.returns
  have X0 : Stand p l e ({ frames := 0, cells := 0, slots := 0, locals := 0 } : Room) s m #[(.ref o), (.int q)] below meth c s₁ [] 0 0 := Stand.of_body Bd
  have e0 : s₁.heap = h0 := by rw [← hh, Bd.state]; rfl
  have N0 := Fr.nil n0
  show OwnGo p.tables e below (OwnEnd s (Q_rmV0 Z o ac av  q h0 n0) ({ frames := 0, cells := 0, slots := 0, locals := 0 } : Room).cells ({ frames := 0, cells := 0, slots := 0, locals := 0 } : Room).slots) _
  refine OwnGo.pre (fun t k => castTop (ef_rmV0 m o ac av  q) k) ?_
  show OwnGo _ _ _ _ (s₁.setTop (mkF m 0 #[sR o, sI q, uU] []))
  refine OwnGo.pre (fun t k => XS.iconst X0.here hx rfl (hb hby d5_0) (XS.istoreN X0.here hx rfl (hb hby d5_1) rfl (l' := #[sR o, sI q, sI (0 : Int32)]) rfl (XS.iloadN X0.here hx rfl (hb hby d5_2) rfl (XS.aloadN X0.here hx rfl (hb hby d5_3) rfl rfl k)))) ?_
  show OwnGo _ _ _ _ (s₁.setTop (mkF m 4 #[sR o, sI q, sI (0 : Int32)] [(.ref o), (.int (0 : Int32))]))
  obtain ⟨T8, X8, e8, st8⟩ := getF X0 hx hZ hown (host := "") (Or.inl (hw _ (List.mem_of_getElem? (i := 27) rfl))) Via.refl e0 F0 (g := (mkF m 4 #[sR o, sI q, sI (0 : Int32)] [(.ref o), (.int (0 : Int32))])) rfl rfl (hb hby d5_4)
  refine OwnGo.pre (fun t k => st8 t k) ?_
  show OwnGo _ _ _ _ (T8.setTop (mkF m 7 #[sR o, sI q, sI (0 : Int32)] [(.ref ac), (.int (0 : Int32))]))
  refine OwnGo.pre (fun t k => own_lenI X8 hx hZ e8 Ac (z := 0) rfl (g := (mkF m 7 #[sR o, sI q, sI (0 : Int32)] [(.ref ac), (.int (0 : Int32))])) rfl (rest := [(.int (0 : Int32))]) rfl (hb hby d5_7) (XS.icmpYes X8.here hx rfl (pc0 := 8) (pc' := 34) rfl (hb hby d5_8) rfl (by decide) (by decide) (by decide) (XS.dconst0 X8.here hx rfl (hb hby d5_34) rfl k))) ?_
  show OwnGo _ _ _ _ (T8.setTop (mkF m 35 #[sR o, sI q, sI (0 : Int32)] [(.double (0 : UInt64))]))
  exact own_retD X8 hx hk hrt (hb hby d5_35) ⟨_, rfl, rfl, N0, e8⟩ (by decide) (by decide)
theorem pn_rmI1 : plainName "com/example/clausewright/clausewright/learning/ClauseModel$Weights" = true := by first | (simp [plainName, overriddenIn]; done) | decide +kernel
theorem pd_rmI1 : parseMethodDescriptor "([I[D)V" = some ⟨[(.array .int), (.array .double)], none⟩ := by decide +kernel
theorem ef_rmI1 (m : MethodId) (o oc ov : Addr) (xc0 : Int32) (ud0 : UInt64) : entryFrame m #[(.ref o), (.ref oc), (.ref ov)] 3 = (mkF m 0 #[sR o, sR oc, sR ov] []) := by first | (simp [entryFrame, mkF, argsToLocals, Value.category, maxLocals]; done) | rfl
def Q_rmI1 (Z : State) (o oc ov : Addr) (xc0 : Int32) (ud0 : UInt64) (h0 : Heap) (n0 : Nat) (v : Option Value) (h : Heap) (L : List Loc) : Prop := ∃ ac av, v = none ∧ Fr n0 L ∧ Keep h0 h [o] ∧ n0 ≤ h.size ∧ Exa Z h o "com/example/clausewright/clausewright/learning/ClauseModel$Weights" ∧ Fld Z h o "com/example/clausewright/clausewright/learning/ClauseModel$Weights" "columns" "[I" (.ref ac) ∧ Fld Z h o "com/example/clausewright/clausewright/learning/ClauseModel$Weights" "values" "[D" (.ref av) ∧ OwnIA Z h ac [xc0] ∧ OwnDA Z h av [ud0]
set_option maxRecDepth 65536 in
set_option maxHeartbeats 40000000 in
theorem rmI1 (l : Launch) (Z : State) (a0 : Array Value) (hw : ∀ d ∈ tables_1, d.before a0 Z = true) (ws : List Jvm.Cond) (o oc ov : Addr) (xc0 : Int32) (ud0 : UInt64) (h0 : Heap) (n0 : Nat) (Z0 : n0 ≤ h0.size) (E : Exa Z h0 o "com/example/clausewright/clausewright/learning/ClauseModel$Weights") (F0 : Fld Z h0 o "com/example/clausewright/clausewright/learning/ClauseModel$Weights" "columns" "[I" .null) (F1 : Fld Z h0 o "com/example/clausewright/clausewright/learning/ClauseModel$Weights" "values" "[D" .null) (g : n0 ≤ o) (Ac : OwnIA Z h0 oc [xc0]) (Ec : Exa Z h0 oc "[I") (Av : OwnDA Z h0 ov [ud0]) (Ev : Exa Z h0 ov "[D") (nv : ov ≠ o) :
    MetFree l (⟨"com/example/clausewright/clausewright/learning/ClauseModel$Weights", "<init>", "([I[D)V"⟩ : MethodName) (head1 (Jvm.Cond.code (⟨"com/example/clausewright/clausewright/learning/ClauseModel$Weights", "<init>", "([I[D)V"⟩ : MethodName) prog_36_method_1_code 3 none :: ws) ({ frames := 1, cells := 2, slots := 2, locals := 15 } : Room)) (fun a U => a = #[(.ref o), (.ref oc), (.ref ov)] ∧ Z.Warmed39 U.vm ∧ U.heap = h0) (fun _ _ _ _ _ => True) (fun _ U oO U' => ∃ v L, oO = .returned v ∧ Q_rmI1 Z o oc ov xc0 ud0 h0 n0 v U'.heap L ∧ FrameEnd U oO U' L ({ frames := 1, cells := 2, slots := 2, locals := 15 } : Room).cells ({ frames := 1, cells := 2, slots := 2, locals := 15 } : Room).slots) := by
  refine MetFree.of_bodySF (plainFor_of_name pn_rmI1) hisR ?_
  intro p e s m args below meth c s₁ Bd hml0 hP hK
  obtain ⟨rfl, hZ, hh⟩ := hP
  have hx := Bd.exec
  have hby := Bd.bytes
  have hml : c.maxLocals = 3 := hml0
  have hown : s.vm.findClass "com/example/clausewright/clausewright/learning/ClauseModel$Weights" = some m.cls := findClass_of_methodNamed Bd.named
  have hnm := (name_of_methodNamed Bd.named Bd.method).1
  have hk := Bd.notSynchronized
  have hrt := Bd.returns
  have X0 : Stand p l e ({ frames := 1, cells := 2, slots := 2, locals := 15 } : Room) s m #[(.ref o), (.ref oc), (.ref ov)] below meth c s₁ [] 0 0 := Stand.of_body Bd
  have e0 : s₁.heap = h0 := by rw [← hh, Bd.state]; rfl
  have N0 := Fr.nil n0
  show OwnGo p.tables e below (OwnEnd s (Q_rmI1 Z o oc ov xc0 ud0 h0 n0) ({ frames := 1, cells := 2, slots := 2, locals := 15 } : Room).cells ({ frames := 1, cells := 2, slots := 2, locals := 15 } : Room).slots) _
  refine OwnGo.pre (fun t k => castTop (ef_rmI1 m o oc ov xc0 ud0) k) ?_
  show OwnGo _ _ _ _ (s₁.setTop (mkF m 0 #[sR o, sR oc, sR ov] []))
  refine OwnGo.pre (fun t k => XS.aloadN X0.here hx rfl (hb hby d3_0) rfl rfl k) ?_
  show OwnGo _ _ _ _ (s₁.setTop (mkF m 1 #[sR o, sR oc, sR ov] [(.ref o)]))
  obtain ⟨T9, X9, e9, st9⟩ := initO X0 hx hZ hown (hw _ (List.mem_of_getElem? (i := 15) rfl)) (hw _ (List.mem_of_getElem? (i := 16) rfl)) (hw _ (List.mem_of_getElem? (i := 17) rfl)) e0 (g := (mkF m 1 #[sR o, sR oc, sR ov] [(.ref o)])) rfl (by rw [hml]; rfl) rfl (hb hby d3_1) (by decide) (W := 0) (by show 2 * 0 + _ ≤ _; exact Nat.le_of_eq rfl) (by decide)
  refine OwnGo.pre (fun t k => st9 t k) ?_
  show OwnGo _ _ _ _ (T9.setTop (mkF m 4 #[sR o, sR oc, sR ov] []))
  refine OwnGo.pre (fun t k => XS.aloadN X9.here hx rfl (hb hby d3_4) rfl rfl (XS.aloadN X9.here hx rfl (hb hby d3_5) rfl rfl k)) ?_
  show OwnGo _ _ _ _ (T9.setTop (mkF m 6 #[sR o, sR oc, sR ov] [(.ref oc), (.ref o)]))
  obtain ⟨T10, h10, X10, e10, E10, A10, Q10, st10⟩ := own_cloneI X9 hx hZ hown (hw _ (List.mem_of_getElem? (i := 18) rfl)) (hw _ (List.mem_of_getElem? (i := 19) rfl)) (hw _ (List.mem_of_getElem? (i := 23) rfl)) (hw _ (List.mem_of_getElem? (i := 21) rfl)) (hw _ (List.mem_of_getElem? (i := 22) rfl)) (hw _ (List.mem_of_getElem? (i := 24) rfl)) e9 Ac Ec (g := (mkF m 6 #[sR o, sR oc, sR ov] [(.ref oc), (.ref o)])) rfl (by rw [hml]; rfl) rfl (hb hby d3_6) (by decide) (W := 1) (cap := 1) (by show 2 * 0 + _ ≤ _; exact Nat.le_of_eq rfl) (by decide) (by show 1 ≤ 1; decide) (by decide) (by decide)
  obtain ⟨a10, g10⟩ : ∃ z, z = h0.size := ⟨_, rfl⟩
  rw [← g10] at A10 Q10 st10
  have Z10 : n0 ≤ h10.size := Nat.le_trans Z0 E10.1
  refine OwnGo.pre (fun t k => st10 t k) ?_
  show OwnGo _ _ _ _ (T10.setTop (mkF m 9 #[sR o, sR oc, sR ov] [(.ref a10), (.ref o)]))
  obtain ⟨T11, X11, e11, st11⟩ := castY X10 hx hZ hown (hw _ (List.mem_of_getElem? (i := 25) rfl)) e10 (Ins.of_exa Q10 (hw _ (List.mem_of_getElem? (i := 26) rfl))) (g := (mkF m 9 #[sR o, sR oc, sR ov] [(.ref a10), (.ref o)])) rfl rfl (hb hby d3_9)
  refine OwnGo.pre (fun t k => st11 t k) ?_
  show OwnGo _ _ _ _ (T11.setTop (mkF m 12 #[sR o, sR oc, sR ov] [(.ref a10), (.ref o)]))
  have E1 := E.ext E10
  have F10 := F0.ext E10
  have F11 := F1.ext E10
  have Av1 := Av.ex E10
  have Ev1 := Ev.ext E10
  have n1 : a10 ≠ o := (Nat.ne_of_gt (Nat.lt_of_lt_of_le E.lt (Nat.le_of_eq g10.symm)))
  have K1 := (Keep.refl h0 [o]).ext E10
  obtain ⟨T12, h12, X12, e12, W12, st12⟩ := putF X11 hx hZ hown (host := "") (Or.inl (hw _ (List.mem_of_getElem? (i := 27) rfl))) Via.refl e11 F10 E1 (Or.inr ⟨(hw _ (List.mem_of_getElem? (i := 28) rfl)), rfl, hnm⟩) (hw _ (List.mem_of_getElem? (i := 10) rfl)) (ty := (.array .int)) (by decide) rfl rfl (g := (mkF m 12 #[sR o, sR oc, sR ov] [(.ref a10), (.ref o)])) rfl rfl (hb hby d3_12)
  have N12 := Fr.snoc X12 N0 g
  refine OwnGo.pre (fun t k => st12 t k) ?_
  show OwnGo _ _ _ _ (T12.setTop (mkF m 15 #[sR o, sR oc, sR ov] []))
  have F20 := F10.same W12
  have F21 := F11.other W12 (Or.inr (slot_ne (Or.inr (hw _ (List.mem_of_getElem? (i := 36) rfl))) (Or.inr (hw _ (List.mem_of_getElem? (i := 28) rfl))) (by decide) (t := (.array .double)) (by decide) (t' := (.array .int)) (by decide)))
  have E2 := E1.wr W12
  have A2 := A10.ot W12 n1
  have Av2 := Av1.ot W12 nv
  have Ev2 := Ev1.wr W12
  have K2 := K1.wr W12 (Or.inl (List.mem_of_getElem? (i := 0) rfl))
  have Z12b : n0 ≤ h12.size := by rw [W12.size]; exact Z10
  refine OwnGo.pre (fun t k => XS.aloadN X12.here hx rfl (hb hby d3_15) rfl rfl (XS.aloadN X12.here hx rfl (hb hby d3_16) rfl rfl k)) ?_
  show OwnGo _ _ _ _ (T12.setTop (mkF m 17 #[sR o, sR oc, sR ov] [(.ref ov), (.ref o)]))
  obtain ⟨T13, h13, X13, e13, E13, A13, Q13, st13⟩ := own_cloneD X12 hx hZ hown (hw _ (List.mem_of_getElem? (i := 29) rfl)) (hw _ (List.mem_of_getElem? (i := 30) rfl)) (hw _ (List.mem_of_getElem? (i := 23) rfl)) (hw _ (List.mem_of_getElem? (i := 21) rfl)) (hw _ (List.mem_of_getElem? (i := 31) rfl)) (hw _ (List.mem_of_getElem? (i := 32) rfl)) e12 Av2 Ev2 (g := (mkF m 17 #[sR o, sR oc, sR ov] [(.ref ov), (.ref o)])) rfl (by rw [hml]; rfl) rfl (hb hby d3_17) (by decide) (W := 1) (cap := 1) (by show 2 * 0 + _ ≤ _; exact Nat.le_of_eq rfl) (by decide) (by show 1 ≤ 1; decide) (by decide) (by decide)
  obtain ⟨a13, g13⟩ : ∃ z, z = h12.size := ⟨_, rfl⟩
  rw [← g13] at A13 Q13 st13
  have Z13 : n0 ≤ h13.size := Nat.le_trans Z12b E13.1
  refine OwnGo.pre (fun t k => st13 t k) ?_
  show OwnGo _ _ _ _ (T13.setTop (mkF m 20 #[sR o, sR oc, sR ov] [(.ref a13), (.ref o)]))
  obtain ⟨T14, X14, e14, st14⟩ := castY X13 hx hZ hown (hw _ (List.mem_of_getElem? (i := 33) rfl)) e13 (Ins.of_exa Q13 (hw _ (List.mem_of_getElem? (i := 34) rfl))) (g := (mkF m 20 #[sR o, sR oc, sR ov] [(.ref a13), (.ref o)])) rfl rfl (hb hby d3_20)
  refine OwnGo.pre (fun t k => st14 t k) ?_
  show OwnGo _ _ _ _ (T14.setTop (mkF m 23 #[sR o, sR oc, sR ov] [(.ref a13), (.ref o)]))
  have E3 := E2.ext E13
  have F30 := F20.ext E13
  have F31 := F21.ext E13
  have A3 := A2.ex E13
  have n2 : a13 ≠ o := (Nat.ne_of_gt (Nat.lt_of_lt_of_le E2.lt (Nat.le_of_eq g13.symm)))
  have K3 := K2.ext E13
  obtain ⟨T15, h15, X15, e15, W15, st15⟩ := putF X14 hx hZ hown (host := "") (Or.inl (hw _ (List.mem_of_getElem? (i := 35) rfl))) Via.refl e14 F31 E3 (Or.inr ⟨(hw _ (List.mem_of_getElem? (i := 36) rfl)), rfl, hnm⟩) (hw _ (List.mem_of_getElem? (i := 10) rfl)) (ty := (.array .double)) (by decide) rfl rfl (g := (mkF m 23 #[sR o, sR oc, sR ov] [(.ref a13), (.ref o)])) rfl rfl (hb hby d3_23)
  have N15 := Fr.snoc X15 N12 g
  refine OwnGo.pre (fun t k => st15 t k) ?_
  show OwnGo _ _ _ _ (T15.setTop (mkF m 26 #[sR o, sR oc, sR ov] []))
  have F41 := F31.same W15
  have F40 := F30.other W15 (Or.inr (slot_ne (Or.inr (hw _ (List.mem_of_getElem? (i := 28) rfl))) (Or.inr (hw _ (List.mem_of_getElem? (i := 36) rfl))) (by decide) (t := (.array .int)) (by decide) (t' := (.array .double)) (by decide)))
  have E4 := E3.wr W15
  have A4 := A3.ot W15 n1
  have B4 := A13.ot W15 n2
  have K4 := K3.wr W15 (Or.inl (List.mem_of_getElem? (i := 0) rfl))
  have Z4 : n0 ≤ h15.size := by rw [W15.size]; exact Z13
  rw [← e15] at F40 F41 E4 A4 B4 K4 Z4
  exact own_ret0 X15 hx hk hrt (hb hby d3_26) ⟨_, _, rfl, N15, K4, Z4, E4, F40, F41, A4, B4⟩ (by decide) (by decide)
theorem pn_rmV1 : plainName "com/example/clausewright/clausewright/learning/ClauseModel$Weights" = true := by first | (simp [plainName, overriddenIn]; done) | decide +kernel
theorem pd_rmV1 : parseMethodDescriptor "(I)D" = some ⟨[.int], (some .double)⟩ := by decide +kernel
theorem ef_rmV1 (m : MethodId) (o ac av : Addr) (xc0 : Int32) (ud0 : UInt64) (q : Int32) : entryFrame m #[(.ref o), (.int q)] 3 = (mkF m 0 #[sR o, sI q, uU] []) := by first | (simp [entryFrame, mkF, argsToLocals, Value.category, maxLocals]; done) | rfl
def Q_rmV1 (Z : State) (o ac av : Addr) (xc0 : Int32) (ud0 : UInt64) (q : Int32) (h0 : Heap) (n0 : Nat) (v : Option Value) (h : Heap) (L : List Loc) : Prop := ∃ r : UInt64, v = some (.double r) ∧ r = (if xc0 = q then ud0 else 0) ∧ Fr n0 L ∧ h = h0
set_option maxRecDepth 65536 in
set_option maxHeartbeats 40000000 in
theorem rmV1 (l : Launch) (Z : State) (a0 : Array Value) (hw : ∀ d ∈ tables_1, d.before a0 Z = true) (ws : List Jvm.Cond) (o ac av : Addr) (xc0 : Int32) (ud0 : UInt64) (q : Int32) (h0 : Heap) (n0 : Nat) (Z0 : n0 ≤ h0.size) (F0 : Fld Z h0 o "com/example/clausewright/clausewright/learning/ClauseModel$Weights" "columns" "[I" (.ref ac)) (F1 : Fld Z h0 o "com/example/clausewright/clausewright/learning/ClauseModel$Weights" "values" "[D" (.ref av)) (Ac : OwnIA Z h0 ac [xc0]) (Av : OwnDA Z h0 av [ud0]) :
    MetFree l (⟨"com/example/clausewright/clausewright/learning/ClauseModel$Weights", "valueIn", "(I)D"⟩ : MethodName) (head1 (Jvm.Cond.code (⟨"com/example/clausewright/clausewright/learning/ClauseModel$Weights", "valueIn", "(I)D"⟩ : MethodName) prog_36_method_5_code 3 (some .double) :: ws) ({ frames := 0, cells := 0, slots := 0, locals := 0 } : Room)) (fun a U => a = #[(.ref o), (.int q)] ∧ Z.Warmed39 U.vm ∧ U.heap = h0) (fun _ _ _ _ _ => True) (fun _ U oO U' => ∃ v L, oO = .returned v ∧ Q_rmV1 Z o ac av xc0 ud0 q h0 n0 v U'.heap L ∧ FrameEnd U oO U' L ({ frames := 0, cells := 0, slots := 0, locals := 0 } : Room).cells ({ frames := 0, cells := 0, slots := 0, locals := 0 } : Room).slots) := by
  refine MetFree.of_bodySF (plainFor_of_name pn_rmV1) hisR ?_
  intro p e s m args below meth c s₁ Bd hml0 hP hK
  obtain ⟨rfl, hZ, hh⟩ := hP
  have hx := Bd.exec
  have hby := Bd.bytes
  have hml : c.maxLocals = 3 := hml0
  have hown : s.vm.findClass "com/example/clausewright/clausewright/learning/ClauseModel$Weights" = some m.cls := findClass_of_methodNamed Bd.named
  have hnm := (name_of_methodNamed Bd.named Bd.method).1
  have hk := Bd.notSynchronized
  have hrt := Bd.returns
  have X0 : Stand p l e ({ frames := 0, cells := 0, slots := 0, locals := 0 } : Room) s m #[(.ref o), (.int q)] below meth c s₁ [] 0 0 := Stand.of_body Bd
  have e0 : s₁.heap = h0 := by rw [← hh, Bd.state]; rfl
  have N0 := Fr.nil n0
  show OwnGo p.tables e below (OwnEnd s (Q_rmV1 Z o ac av xc0 ud0 q h0 n0) ({ frames := 0, cells := 0, slots := 0, locals := 0 } : Room).cells ({ frames := 0, cells := 0, slots := 0, locals := 0 } : Room).slots) _
  refine OwnGo.pre (fun t k => castTop (ef_rmV1 m o ac av xc0 ud0 q) k) ?_
  show OwnGo _ _ _ _ (s₁.setTop (mkF m 0 #[sR o, sI q, uU] []))
  refine OwnGo.pre (fun t k => XS.iconst X0.here hx rfl (hb hby d5_0) (XS.istoreN X0.here hx rfl (hb hby d5_1) rfl (l' := #[sR o, sI q, sI (0 : Int32)]) rfl (XS.iloadN X0.here hx rfl (hb hby d5_2) rfl (XS.aloadN X0.here hx rfl (hb hby d5_3) rfl rfl k)))) ?_
  show OwnGo _ _ _ _ (s₁.setTop (mkF m 4 #[sR o, sI q, sI (0 : Int32)] [(.ref o), (.int (0 : Int32))]))
  obtain ⟨T16, X16, e16, st16⟩ := getF X0 hx hZ hown (host := "") (Or.inl (hw _ (List.mem_of_getElem? (i := 27) rfl))) Via.refl e0 F0 (g := (mkF m 4 #[sR o, sI q, sI (0 : Int32)] [(.ref o), (.int (0 : Int32))])) rfl rfl (hb hby d5_4)
  refine OwnGo.pre (fun t k => st16 t k) ?_
  show OwnGo _ _ _ _ (T16.setTop (mkF m 7 #[sR o, sI q, sI (0 : Int32)] [(.ref ac), (.int (0 : Int32))]))
  refine OwnGo.pre (fun t k => own_lenI X16 hx hZ e16 Ac (z := 1) rfl (g := (mkF m 7 #[sR o, sI q, sI (0 : Int32)] [(.ref ac), (.int (0 : Int32))])) rfl (rest := [(.int (0 : Int32))]) rfl (hb hby d5_7) (XS.icmpNo X16.here hx rfl (hb hby d5_8) rfl (by decide) (XS.aloadN X16.here hx rfl (hb hby d5_11) rfl rfl k))) ?_
  show OwnGo _ _ _ _ (T16.setTop (mkF m 12 #[sR o, sI q, sI (0 : Int32)] [(.ref o)]))
  obtain ⟨T17, X17, e17, st17⟩ := getF X16 hx hZ hown (host := "") (Or.inl (hw _ (List.mem_of_getElem? (i := 27) rfl))) Via.refl e16 F0 (g := (mkF m 12 #[sR o, sI q, sI (0 : Int32)] [(.ref o)])) rfl rfl (hb hby d5_12)
  refine OwnGo.pre (fun t k => st17 t k) ?_
  show OwnGo _ _ _ _ (T17.setTop (mkF m 15 #[sR o, sI q, sI (0 : Int32)] [(.ref ac)]))
  refine OwnGo.pre (fun t k => XS.iloadN X17.here hx rfl (hb hby d5_15) rfl (own_iaL X17 hx hZ e17 Ac (j := (0 : Int32)) (by decide) (i := 0) (by decide) (x := xc0) rfl (g := (mkF m 16 #[sR o, sI q, sI (0 : Int32)] [(.int (0 : Int32)), (.ref ac)])) rfl (rest := []) rfl (hb hby d5_16) (XS.iloadN X17.here hx rfl (hb hby d5_17) rfl k))) ?_
  show OwnGo _ _ _ _ (T17.setTop (mkF m 18 #[sR o, sI q, sI (0 : Int32)] [(.int q), (.int xc0)]))
  by_cases hq0 : xc0 = q
  · skip
    refine OwnGo.pre (fun t k => XS.icmpNo X17.here hx rfl (hb hby d5_18) rfl (own_neF hq0) (XS.aloadN X17.here hx rfl (hb hby d5_21) rfl rfl k)) ?_
    show OwnGo _ _ _ _ (T17.setTop (mkF m 22 #[sR o, sI q, sI (0 : Int32)] [(.ref o)]))
    obtain ⟨T18, X18, e18, st18⟩ := getF X17 hx hZ hown (host := "") (Or.inl (hw _ (List.mem_of_getElem? (i := 35) rfl))) Via.refl e17 F1 (g := (mkF m 22 #[sR o, sI q, sI (0 : Int32)] [(.ref o)])) rfl rfl (hb hby d5_22)
    refine OwnGo.pre (fun t k => st18 t k) ?_
    show OwnGo _ _ _ _ (T18.setTop (mkF m 25 #[sR o, sI q, sI (0 : Int32)] [(.ref av)]))
    refine OwnGo.pre (fun t k => XS.iloadN X18.here hx rfl (hb hby d5_25) rfl (own_daL X18 hx hZ e18 Av (j := (0 : Int32)) (by decide) (i := 0) (by decide) (x := ud0) rfl (g := (mkF m 26 #[sR o, sI q, sI (0 : Int32)] [(.int (0 : Int32)), (.ref av)])) rfl (rest := []) rfl (hb hby d5_26) k)) ?_
    show OwnGo _ _ _ _ (T18.setTop (mkF m 27 #[sR o, sI q, sI (0 : Int32)] [(.double ud0)]))
    exact own_retD X18 hx hk hrt (hb hby d5_27) ⟨_, rfl, by rw [if_pos hq0], N0, e18⟩ (by decide) (by decide)
  · skip
    refine OwnGo.pre (fun t k => XS.icmpYes X17.here hx rfl (pc0 := 18) (pc' := 28) rfl (hb hby d5_18) rfl (own_neT hq0) (by decide) (by decide) (XS.iinc X17.here hx rfl (hb hby d5_28) rfl (l' := #[sR o, sI q, sI (1 : Int32)]) rfl (XS.goto X17.here hx rfl (pc0 := 31) (pc' := 2) rfl (hb hby d5_31) (by decide) (by decide) (XS.iloadN X17.here hx rfl (hb hby d5_2) rfl (XS.aloadN X17.here hx rfl (hb hby d5_3) rfl rfl k))))) ?_
    show OwnGo _ _ _ _ (T17.setTop (mkF m 4 #[sR o, sI q, sI (1 : Int32)] [(.ref o), (.int (1 : Int32))]))
    obtain ⟨T19, X19, e19, st19⟩ := getF X17 hx hZ hown (host := "") (Or.inl (hw _ (List.mem_of_getElem? (i := 27) rfl))) Via.refl e17 F0 (g := (mkF m 4 #[sR o, sI q, sI (1 : Int32)] [(.ref o), (.int (1 : Int32))])) rfl rfl (hb hby d5_4)
    refine OwnGo.pre (fun t k => st19 t k) ?_
    show OwnGo _ _ _ _ (T19.setTop (mkF m 7 #[sR o, sI q, sI (1 : Int32)] [(.ref ac), (.int (1 : Int32))]))
    refine OwnGo.pre (fun t k => own_lenI X19 hx hZ e19 Ac (z := 1) rfl (g := (mkF m 7 #[sR o, sI q, sI (1 : Int32)] [(.ref ac), (.int (1 : Int32))])) rfl (rest := [(.int (1 : Int32))]) rfl (hb hby d5_7) (XS.icmpYes X19.here hx rfl (pc0 := 8) (pc' := 34) rfl (hb hby d5_8) rfl (by decide) (by decide) (by decide) (XS.dconst0 X19.here hx rfl (hb hby d5_34) rfl k))) ?_
    show OwnGo _ _ _ _ (T19.setTop (mkF m 35 #[sR o, sI q, sI (1 : Int32)] [(.double (0 : UInt64))]))
    exact own_retD X19 hx hk hrt (hb hby d5_35) ⟨_, rfl, by rw [if_neg hq0], N0, e19⟩ (by decide) (by decide)
theorem pn_rmI2 : plainName "com/example/clausewright/clausewright/learning/ClauseModel$Weights" = true := by first | (simp [plainName, overriddenIn]; done) | decide +kernel
theorem pd_rmI2 : parseMethodDescriptor "([I[D)V" = some ⟨[(.array .int), (.array .double)], none⟩ := by decide +kernel
theorem ef_rmI2 (m : MethodId) (o oc ov : Addr) (xc0 xc1 : Int32) (ud0 ud1 : UInt64) : entryFrame m #[(.ref o), (.ref oc), (.ref ov)] 3 = (mkF m 0 #[sR o, sR oc, sR ov] []) := by first | (simp [entryFrame, mkF, argsToLocals, Value.category, maxLocals]; done) | rfl
def Q_rmI2 (Z : State) (o oc ov : Addr) (xc0 xc1 : Int32) (ud0 ud1 : UInt64) (h0 : Heap) (n0 : Nat) (v : Option Value) (h : Heap) (L : List Loc) : Prop := ∃ ac av, v = none ∧ Fr n0 L ∧ Keep h0 h [o] ∧ n0 ≤ h.size ∧ Exa Z h o "com/example/clausewright/clausewright/learning/ClauseModel$Weights" ∧ Fld Z h o "com/example/clausewright/clausewright/learning/ClauseModel$Weights" "columns" "[I" (.ref ac) ∧ Fld Z h o "com/example/clausewright/clausewright/learning/ClauseModel$Weights" "values" "[D" (.ref av) ∧ OwnIA Z h ac [xc0, xc1] ∧ OwnDA Z h av [ud0, ud1]
set_option maxRecDepth 65536 in
set_option maxHeartbeats 40000000 in
theorem rmI2 (l : Launch) (Z : State) (a0 : Array Value) (hw : ∀ d ∈ tables_1, d.before a0 Z = true) (ws : List Jvm.Cond) (o oc ov : Addr) (xc0 xc1 : Int32) (ud0 ud1 : UInt64) (h0 : Heap) (n0 : Nat) (Z0 : n0 ≤ h0.size) (E : Exa Z h0 o "com/example/clausewright/clausewright/learning/ClauseModel$Weights") (F0 : Fld Z h0 o "com/example/clausewright/clausewright/learning/ClauseModel$Weights" "columns" "[I" .null) (F1 : Fld Z h0 o "com/example/clausewright/clausewright/learning/ClauseModel$Weights" "values" "[D" .null) (g : n0 ≤ o) (Ac : OwnIA Z h0 oc [xc0, xc1]) (Ec : Exa Z h0 oc "[I") (Av : OwnDA Z h0 ov [ud0, ud1]) (Ev : Exa Z h0 ov "[D") (nv : ov ≠ o) :
    MetFree l (⟨"com/example/clausewright/clausewright/learning/ClauseModel$Weights", "<init>", "([I[D)V"⟩ : MethodName) (head1 (Jvm.Cond.code (⟨"com/example/clausewright/clausewright/learning/ClauseModel$Weights", "<init>", "([I[D)V"⟩ : MethodName) prog_36_method_1_code 3 none :: ws) ({ frames := 1, cells := 2, slots := 4, locals := 15 } : Room)) (fun a U => a = #[(.ref o), (.ref oc), (.ref ov)] ∧ Z.Warmed39 U.vm ∧ U.heap = h0) (fun _ _ _ _ _ => True) (fun _ U oO U' => ∃ v L, oO = .returned v ∧ Q_rmI2 Z o oc ov xc0 xc1 ud0 ud1 h0 n0 v U'.heap L ∧ FrameEnd U oO U' L ({ frames := 1, cells := 2, slots := 4, locals := 15 } : Room).cells ({ frames := 1, cells := 2, slots := 4, locals := 15 } : Room).slots) := by
  refine MetFree.of_bodySF (plainFor_of_name pn_rmI2) hisR ?_
  intro p e s m args below meth c s₁ Bd hml0 hP hK
  obtain ⟨rfl, hZ, hh⟩ := hP
  have hx := Bd.exec
  have hby := Bd.bytes
  have hml : c.maxLocals = 3 := hml0
  have hown : s.vm.findClass "com/example/clausewright/clausewright/learning/ClauseModel$Weights" = some m.cls := findClass_of_methodNamed Bd.named
  have hnm := (name_of_methodNamed Bd.named Bd.method).1
  have hk := Bd.notSynchronized
  have hrt := Bd.returns
  have X0 : Stand p l e ({ frames := 1, cells := 2, slots := 4, locals := 15 } : Room) s m #[(.ref o), (.ref oc), (.ref ov)] below meth c s₁ [] 0 0 := Stand.of_body Bd
  have e0 : s₁.heap = h0 := by rw [← hh, Bd.state]; rfl
  have N0 := Fr.nil n0
  show OwnGo p.tables e below (OwnEnd s (Q_rmI2 Z o oc ov xc0 xc1 ud0 ud1 h0 n0) ({ frames := 1, cells := 2, slots := 4, locals := 15 } : Room).cells ({ frames := 1, cells := 2, slots := 4, locals := 15 } : Room).slots) _
  refine OwnGo.pre (fun t k => castTop (ef_rmI2 m o oc ov xc0 xc1 ud0 ud1) k) ?_
  show OwnGo _ _ _ _ (s₁.setTop (mkF m 0 #[sR o, sR oc, sR ov] []))
  refine OwnGo.pre (fun t k => XS.aloadN X0.here hx rfl (hb hby d3_0) rfl rfl k) ?_
  show OwnGo _ _ _ _ (s₁.setTop (mkF m 1 #[sR o, sR oc, sR ov] [(.ref o)]))
  obtain ⟨T20, X20, e20, st20⟩ := initO X0 hx hZ hown (hw _ (List.mem_of_getElem? (i := 15) rfl)) (hw _ (List.mem_of_getElem? (i := 16) rfl)) (hw _ (List.mem_of_getElem? (i := 17) rfl)) e0 (g := (mkF m 1 #[sR o, sR oc, sR ov] [(.ref o)])) rfl (by rw [hml]; rfl) rfl (hb hby d3_1) (by decide) (W := 0) (by show 2 * 0 + _ ≤ _; exact Nat.le_of_eq rfl) (by decide)
  refine OwnGo.pre (fun t k => st20 t k) ?_
  show OwnGo _ _ _ _ (T20.setTop (mkF m 4 #[sR o, sR oc, sR ov] []))
  refine OwnGo.pre (fun t k => XS.aloadN X20.here hx rfl (hb hby d3_4) rfl rfl (XS.aloadN X20.here hx rfl (hb hby d3_5) rfl rfl k)) ?_
  show OwnGo _ _ _ _ (T20.setTop (mkF m 6 #[sR o, sR oc, sR ov] [(.ref oc), (.ref o)]))
  obtain ⟨T21, h21, X21, e21, E21, A21, Q21, st21⟩ := own_cloneI X20 hx hZ hown (hw _ (List.mem_of_getElem? (i := 18) rfl)) (hw _ (List.mem_of_getElem? (i := 19) rfl)) (hw _ (List.mem_of_getElem? (i := 23) rfl)) (hw _ (List.mem_of_getElem? (i := 21) rfl)) (hw _ (List.mem_of_getElem? (i := 22) rfl)) (hw _ (List.mem_of_getElem? (i := 24) rfl)) e20 Ac Ec (g := (mkF m 6 #[sR o, sR oc, sR ov] [(.ref oc), (.ref o)])) rfl (by rw [hml]; rfl) rfl (hb hby d3_6) (by decide) (W := 1) (cap := 2) (by show 2 * 0 + _ ≤ _; exact Nat.le_of_eq rfl) (by decide) (by show 2 ≤ 2; decide) (by decide) (by decide)
  obtain ⟨a21, g21⟩ : ∃ z, z = h0.size := ⟨_, rfl⟩
  rw [← g21] at A21 Q21 st21
  have Z21 : n0 ≤ h21.size := Nat.le_trans Z0 E21.1
  refine OwnGo.pre (fun t k => st21 t k) ?_
  show OwnGo _ _ _ _ (T21.setTop (mkF m 9 #[sR o, sR oc, sR ov] [(.ref a21), (.ref o)]))
  obtain ⟨T22, X22, e22, st22⟩ := castY X21 hx hZ hown (hw _ (List.mem_of_getElem? (i := 25) rfl)) e21 (Ins.of_exa Q21 (hw _ (List.mem_of_getElem? (i := 26) rfl))) (g := (mkF m 9 #[sR o, sR oc, sR ov] [(.ref a21), (.ref o)])) rfl rfl (hb hby d3_9)
  refine OwnGo.pre (fun t k => st22 t k) ?_
  show OwnGo _ _ _ _ (T22.setTop (mkF m 12 #[sR o, sR oc, sR ov] [(.ref a21), (.ref o)]))
  have E1 := E.ext E21
  have F10 := F0.ext E21
  have F11 := F1.ext E21
  have Av1 := Av.ex E21
  have Ev1 := Ev.ext E21
  have n1 : a21 ≠ o := (Nat.ne_of_gt (Nat.lt_of_lt_of_le E.lt (Nat.le_of_eq g21.symm)))
  have K1 := (Keep.refl h0 [o]).ext E21
  obtain ⟨T23, h23, X23, e23, W23, st23⟩ := putF X22 hx hZ hown (host := "") (Or.inl (hw _ (List.mem_of_getElem? (i := 27) rfl))) Via.refl e22 F10 E1 (Or.inr ⟨(hw _ (List.mem_of_getElem? (i := 28) rfl)), rfl, hnm⟩) (hw _ (List.mem_of_getElem? (i := 10) rfl)) (ty := (.array .int)) (by decide) rfl rfl (g := (mkF m 12 #[sR o, sR oc, sR ov] [(.ref a21), (.ref o)])) rfl rfl (hb hby d3_12)
  have N23 := Fr.snoc X23 N0 g
  refine OwnGo.pre (fun t k => st23 t k) ?_
  show OwnGo _ _ _ _ (T23.setTop (mkF m 15 #[sR o, sR oc, sR ov] []))
  have F20 := F10.same W23
  have F21 := F11.other W23 (Or.inr (slot_ne (Or.inr (hw _ (List.mem_of_getElem? (i := 36) rfl))) (Or.inr (hw _ (List.mem_of_getElem? (i := 28) rfl))) (by decide) (t := (.array .double)) (by decide) (t' := (.array .int)) (by decide)))
  have E2 := E1.wr W23
  have A2 := A21.ot W23 n1
  have Av2 := Av1.ot W23 nv
  have Ev2 := Ev1.wr W23
  have K2 := K1.wr W23 (Or.inl (List.mem_of_getElem? (i := 0) rfl))
  have Z23b : n0 ≤ h23.size := by rw [W23.size]; exact Z21
  refine OwnGo.pre (fun t k => XS.aloadN X23.here hx rfl (hb hby d3_15) rfl rfl (XS.aloadN X23.here hx rfl (hb hby d3_16) rfl rfl k)) ?_
  show OwnGo _ _ _ _ (T23.setTop (mkF m 17 #[sR o, sR oc, sR ov] [(.ref ov), (.ref o)]))
  obtain ⟨T24, h24, X24, e24, E24, A24, Q24, st24⟩ := own_cloneD X23 hx hZ hown (hw _ (List.mem_of_getElem? (i := 29) rfl)) (hw _ (List.mem_of_getElem? (i := 30) rfl)) (hw _ (List.mem_of_getElem? (i := 23) rfl)) (hw _ (List.mem_of_getElem? (i := 21) rfl)) (hw _ (List.mem_of_getElem? (i := 31) rfl)) (hw _ (List.mem_of_getElem? (i := 32) rfl)) e23 Av2 Ev2 (g := (mkF m 17 #[sR o, sR oc, sR ov] [(.ref ov), (.ref o)])) rfl (by rw [hml]; rfl) rfl (hb hby d3_17) (by decide) (W := 1) (cap := 2) (by show 2 * 0 + _ ≤ _; exact Nat.le_of_eq rfl) (by decide) (by show 2 ≤ 2; decide) (by decide) (by decide)
  obtain ⟨a24, g24⟩ : ∃ z, z = h23.size := ⟨_, rfl⟩
  rw [← g24] at A24 Q24 st24
  have Z24 : n0 ≤ h24.size := Nat.le_trans Z23b E24.1
  refine OwnGo.pre (fun t k => st24 t k) ?_
  show OwnGo _ _ _ _ (T24.setTop (mkF m 20 #[sR o, sR oc, sR ov] [(.ref a24), (.ref o)]))
  obtain ⟨T25, X25, e25, st25⟩ := castY X24 hx hZ hown (hw _ (List.mem_of_getElem? (i := 33) rfl)) e24 (Ins.of_exa Q24 (hw _ (List.mem_of_getElem? (i := 34) rfl))) (g := (mkF m 20 #[sR o, sR oc, sR ov] [(.ref a24), (.ref o)])) rfl rfl (hb hby d3_20)
  refine OwnGo.pre (fun t k => st25 t k) ?_
  show OwnGo _ _ _ _ (T25.setTop (mkF m 23 #[sR o, sR oc, sR ov] [(.ref a24), (.ref o)]))
  have E3 := E2.ext E24
  have F30 := F20.ext E24
  have F31 := F21.ext E24
  have A3 := A2.ex E24
  have n2 : a24 ≠ o := (Nat.ne_of_gt (Nat.lt_of_lt_of_le E2.lt (Nat.le_of_eq g24.symm)))
  have K3 := K2.ext E24
  obtain ⟨T26, h26, X26, e26, W26, st26⟩ := putF X25 hx hZ hown (host := "") (Or.inl (hw _ (List.mem_of_getElem? (i := 35) rfl))) Via.refl e25 F31 E3 (Or.inr ⟨(hw _ (List.mem_of_getElem? (i := 36) rfl)), rfl, hnm⟩) (hw _ (List.mem_of_getElem? (i := 10) rfl)) (ty := (.array .double)) (by decide) rfl rfl (g := (mkF m 23 #[sR o, sR oc, sR ov] [(.ref a24), (.ref o)])) rfl rfl (hb hby d3_23)
  have N26 := Fr.snoc X26 N23 g
  refine OwnGo.pre (fun t k => st26 t k) ?_
  show OwnGo _ _ _ _ (T26.setTop (mkF m 26 #[sR o, sR oc, sR ov] []))
  have F41 := F31.same W26
  have F40 := F30.other W26 (Or.inr (slot_ne (Or.inr (hw _ (List.mem_of_getElem? (i := 28) rfl))) (Or.inr (hw _ (List.mem_of_getElem? (i := 36) rfl))) (by decide) (t := (.array .int)) (by decide) (t' := (.array .double)) (by decide)))
  have E4 := E3.wr W26
  have A4 := A3.ot W26 n1
  have B4 := A24.ot W26 n2
  have K4 := K3.wr W26 (Or.inl (List.mem_of_getElem? (i := 0) rfl))
  have Z4 : n0 ≤ h26.size := by rw [W26.size]; exact Z24
  rw [← e26] at F40 F41 E4 A4 B4 K4 Z4
  exact own_ret0 X26 hx hk hrt (hb hby d3_26) ⟨_, _, rfl, N26, K4, Z4, E4, F40, F41, A4, B4⟩ (by decide) (by decide)
theorem pn_rmV2 : plainName "com/example/clausewright/clausewright/learning/ClauseModel$Weights" = true := by first | (simp [plainName, overriddenIn]; done) | decide +kernel
theorem pd_rmV2 : parseMethodDescriptor "(I)D" = some ⟨[.int], (some .double)⟩ := by decide +kernel
theorem ef_rmV2 (m : MethodId) (o ac av : Addr) (xc0 xc1 : Int32) (ud0 ud1 : UInt64) (q : Int32) : entryFrame m #[(.ref o), (.int q)] 3 = (mkF m 0 #[sR o, sI q, uU] []) := by first | (simp [entryFrame, mkF, argsToLocals, Value.category, maxLocals]; done) | rfl
def Q_rmV2 (Z : State) (o ac av : Addr) (xc0 xc1 : Int32) (ud0 ud1 : UInt64) (q : Int32) (h0 : Heap) (n0 : Nat) (v : Option Value) (h : Heap) (L : List Loc) : Prop := ∃ r : UInt64, v = some (.double r) ∧ r = (if xc0 = q then ud0 else (if xc1 = q then ud1 else 0)) ∧ Fr n0 L ∧ h = h0
set_option maxRecDepth 65536 in
set_option maxHeartbeats 40000000 in
theorem rmV2 (l : Launch) (Z : State) (a0 : Array Value) (hw : ∀ d ∈ tables_1, d.before a0 Z = true) (ws : List Jvm.Cond) (o ac av : Addr) (xc0 xc1 : Int32) (ud0 ud1 : UInt64) (q : Int32) (h0 : Heap) (n0 : Nat) (Z0 : n0 ≤ h0.size) (F0 : Fld Z h0 o "com/example/clausewright/clausewright/learning/ClauseModel$Weights" "columns" "[I" (.ref ac)) (F1 : Fld Z h0 o "com/example/clausewright/clausewright/learning/ClauseModel$Weights" "values" "[D" (.ref av)) (Ac : OwnIA Z h0 ac [xc0, xc1]) (Av : OwnDA Z h0 av [ud0, ud1]) :
    MetFree l (⟨"com/example/clausewright/clausewright/learning/ClauseModel$Weights", "valueIn", "(I)D"⟩ : MethodName) (head1 (Jvm.Cond.code (⟨"com/example/clausewright/clausewright/learning/ClauseModel$Weights", "valueIn", "(I)D"⟩ : MethodName) prog_36_method_5_code 3 (some .double) :: ws) ({ frames := 0, cells := 0, slots := 0, locals := 0 } : Room)) (fun a U => a = #[(.ref o), (.int q)] ∧ Z.Warmed39 U.vm ∧ U.heap = h0) (fun _ _ _ _ _ => True) (fun _ U oO U' => ∃ v L, oO = .returned v ∧ Q_rmV2 Z o ac av xc0 xc1 ud0 ud1 q h0 n0 v U'.heap L ∧ FrameEnd U oO U' L ({ frames := 0, cells := 0, slots := 0, locals := 0 } : Room).cells ({ frames := 0, cells := 0, slots := 0, locals := 0 } : Room).slots) := by
  refine MetFree.of_bodySF (plainFor_of_name pn_rmV2) hisR ?_
  intro p e s m args below meth c s₁ Bd hml0 hP hK
  obtain ⟨rfl, hZ, hh⟩ := hP
  have hx := Bd.exec
  have hby := Bd.bytes
  have hml : c.maxLocals = 3 := hml0
  have hown : s.vm.findClass "com/example/clausewright/clausewright/learning/ClauseModel$Weights" = some m.cls := findClass_of_methodNamed Bd.named
  have hnm := (name_of_methodNamed Bd.named Bd.method).1
  have hk := Bd.notSynchronized
  have hrt := Bd.returns
  have X0 : Stand p l e ({ frames := 0, cells := 0, slots := 0, locals := 0 } : Room) s m #[(.ref o), (.int q)] below meth c s₁ [] 0 0 := Stand.of_body Bd
  have e0 : s₁.heap = h0 := by rw [← hh, Bd.state]; rfl
  have N0 := Fr.nil n0
  show OwnGo p.tables e below (OwnEnd s (Q_rmV2 Z o ac av xc0 xc1 ud0 ud1 q h0 n0) ({ frames := 0, cells := 0, slots := 0, locals := 0 } : Room).cells ({ frames := 0, cells := 0, slots := 0, locals := 0 } : Room).slots) _
  refine OwnGo.pre (fun t k => castTop (ef_rmV2 m o ac av xc0 xc1 ud0 ud1 q) k) ?_
  show OwnGo _ _ _ _ (s₁.setTop (mkF m 0 #[sR o, sI q, uU] []))
  refine OwnGo.pre (fun t k => XS.iconst X0.here hx rfl (hb hby d5_0) (XS.istoreN X0.here hx rfl (hb hby d5_1) rfl (l' := #[sR o, sI q, sI (0 : Int32)]) rfl (XS.iloadN X0.here hx rfl (hb hby d5_2) rfl (XS.aloadN X0.here hx rfl (hb hby d5_3) rfl rfl k)))) ?_
  show OwnGo _ _ _ _ (s₁.setTop (mkF m 4 #[sR o, sI q, sI (0 : Int32)] [(.ref o), (.int (0 : Int32))]))
  obtain ⟨T27, X27, e27, st27⟩ := getF X0 hx hZ hown (host := "") (Or.inl (hw _ (List.mem_of_getElem? (i := 27) rfl))) Via.refl e0 F0 (g := (mkF m 4 #[sR o, sI q, sI (0 : Int32)] [(.ref o), (.int (0 : Int32))])) rfl rfl (hb hby d5_4)
  refine OwnGo.pre (fun t k => st27 t k) ?_
  show OwnGo _ _ _ _ (T27.setTop (mkF m 7 #[sR o, sI q, sI (0 : Int32)] [(.ref ac), (.int (0 : Int32))]))
  refine OwnGo.pre (fun t k => own_lenI X27 hx hZ e27 Ac (z := 2) rfl (g := (mkF m 7 #[sR o, sI q, sI (0 : Int32)] [(.ref ac), (.int (0 : Int32))])) rfl (rest := [(.int (0 : Int32))]) rfl (hb hby d5_7) (XS.icmpNo X27.here hx rfl (hb hby d5_8) rfl (by decide) (XS.aloadN X27.here hx rfl (hb hby d5_11) rfl rfl k))) ?_
  show OwnGo _ _ _ _ (T27.setTop (mkF m 12 #[sR o, sI q, sI (0 : Int32)] [(.ref o)]))
  obtain ⟨T28, X28, e28, st28⟩ := getF X27 hx hZ hown (host := "") (Or.inl (hw _ (List.mem_of_getElem? (i := 27) rfl))) Via.refl e27 F0 (g := (mkF m 12 #[sR o, sI q, sI (0 : Int32)] [(.ref o)])) rfl rfl (hb hby d5_12)
  refine OwnGo.pre (fun t k => st28 t k) ?_
  show OwnGo _ _ _ _ (T28.setTop (mkF m 15 #[sR o, sI q, sI (0 : Int32)] [(.ref ac)]))
  refine OwnGo.pre (fun t k => XS.iloadN X28.here hx rfl (hb hby d5_15) rfl (own_iaL X28 hx hZ e28 Ac (j := (0 : Int32)) (by decide) (i := 0) (by decide) (x := xc0) rfl (g := (mkF m 16 #[sR o, sI q, sI (0 : Int32)] [(.int (0 : Int32)), (.ref ac)])) rfl (rest := []) rfl (hb hby d5_16) (XS.iloadN X28.here hx rfl (hb hby d5_17) rfl k))) ?_
  show OwnGo _ _ _ _ (T28.setTop (mkF m 18 #[sR o, sI q, sI (0 : Int32)] [(.int q), (.int xc0)]))
  by_cases hq0 : xc0 = q
  · skip
    refine OwnGo.pre (fun t k => XS.icmpNo X28.here hx rfl (hb hby d5_18) rfl (own_neF hq0) (XS.aloadN X28.here hx rfl (hb hby d5_21) rfl rfl k)) ?_
    show OwnGo _ _ _ _ (T28.setTop (mkF m 22 #[sR o, sI q, sI (0 : Int32)] [(.ref o)]))
    obtain ⟨T29, X29, e29, st29⟩ := getF X28 hx hZ hown (host := "") (Or.inl (hw _ (List.mem_of_getElem? (i := 35) rfl))) Via.refl e28 F1 (g := (mkF m 22 #[sR o, sI q, sI (0 : Int32)] [(.ref o)])) rfl rfl (hb hby d5_22)
    refine OwnGo.pre (fun t k => st29 t k) ?_
    show OwnGo _ _ _ _ (T29.setTop (mkF m 25 #[sR o, sI q, sI (0 : Int32)] [(.ref av)]))
    refine OwnGo.pre (fun t k => XS.iloadN X29.here hx rfl (hb hby d5_25) rfl (own_daL X29 hx hZ e29 Av (j := (0 : Int32)) (by decide) (i := 0) (by decide) (x := ud0) rfl (g := (mkF m 26 #[sR o, sI q, sI (0 : Int32)] [(.int (0 : Int32)), (.ref av)])) rfl (rest := []) rfl (hb hby d5_26) k)) ?_
    show OwnGo _ _ _ _ (T29.setTop (mkF m 27 #[sR o, sI q, sI (0 : Int32)] [(.double ud0)]))
    exact own_retD X29 hx hk hrt (hb hby d5_27) ⟨_, rfl, by rw [if_pos hq0], N0, e29⟩ (by decide) (by decide)
  · skip
    refine OwnGo.pre (fun t k => XS.icmpYes X28.here hx rfl (pc0 := 18) (pc' := 28) rfl (hb hby d5_18) rfl (own_neT hq0) (by decide) (by decide) (XS.iinc X28.here hx rfl (hb hby d5_28) rfl (l' := #[sR o, sI q, sI (1 : Int32)]) rfl (XS.goto X28.here hx rfl (pc0 := 31) (pc' := 2) rfl (hb hby d5_31) (by decide) (by decide) (XS.iloadN X28.here hx rfl (hb hby d5_2) rfl (XS.aloadN X28.here hx rfl (hb hby d5_3) rfl rfl k))))) ?_
    show OwnGo _ _ _ _ (T28.setTop (mkF m 4 #[sR o, sI q, sI (1 : Int32)] [(.ref o), (.int (1 : Int32))]))
    obtain ⟨T30, X30, e30, st30⟩ := getF X28 hx hZ hown (host := "") (Or.inl (hw _ (List.mem_of_getElem? (i := 27) rfl))) Via.refl e28 F0 (g := (mkF m 4 #[sR o, sI q, sI (1 : Int32)] [(.ref o), (.int (1 : Int32))])) rfl rfl (hb hby d5_4)
    refine OwnGo.pre (fun t k => st30 t k) ?_
    show OwnGo _ _ _ _ (T30.setTop (mkF m 7 #[sR o, sI q, sI (1 : Int32)] [(.ref ac), (.int (1 : Int32))]))
    refine OwnGo.pre (fun t k => own_lenI X30 hx hZ e30 Ac (z := 2) rfl (g := (mkF m 7 #[sR o, sI q, sI (1 : Int32)] [(.ref ac), (.int (1 : Int32))])) rfl (rest := [(.int (1 : Int32))]) rfl (hb hby d5_7) (XS.icmpNo X30.here hx rfl (hb hby d5_8) rfl (by decide) (XS.aloadN X30.here hx rfl (hb hby d5_11) rfl rfl k))) ?_
    show OwnGo _ _ _ _ (T30.setTop (mkF m 12 #[sR o, sI q, sI (1 : Int32)] [(.ref o)]))
    obtain ⟨T31, X31, e31, st31⟩ := getF X30 hx hZ hown (host := "") (Or.inl (hw _ (List.mem_of_getElem? (i := 27) rfl))) Via.refl e30 F0 (g := (mkF m 12 #[sR o, sI q, sI (1 : Int32)] [(.ref o)])) rfl rfl (hb hby d5_12)
    refine OwnGo.pre (fun t k => st31 t k) ?_
    show OwnGo _ _ _ _ (T31.setTop (mkF m 15 #[sR o, sI q, sI (1 : Int32)] [(.ref ac)]))
    refine OwnGo.pre (fun t k => XS.iloadN X31.here hx rfl (hb hby d5_15) rfl (own_iaL X31 hx hZ e31 Ac (j := (1 : Int32)) (by decide) (i := 1) (by decide) (x := xc1) rfl (g := (mkF m 16 #[sR o, sI q, sI (1 : Int32)] [(.int (1 : Int32)), (.ref ac)])) rfl (rest := []) rfl (hb hby d5_16) (XS.iloadN X31.here hx rfl (hb hby d5_17) rfl k))) ?_
    show OwnGo _ _ _ _ (T31.setTop (mkF m 18 #[sR o, sI q, sI (1 : Int32)] [(.int q), (.int xc1)]))
    by_cases hq1 : xc1 = q
    · skip
      refine OwnGo.pre (fun t k => XS.icmpNo X31.here hx rfl (hb hby d5_18) rfl (own_neF hq1) (XS.aloadN X31.here hx rfl (hb hby d5_21) rfl rfl k)) ?_
      show OwnGo _ _ _ _ (T31.setTop (mkF m 22 #[sR o, sI q, sI (1 : Int32)] [(.ref o)]))
      obtain ⟨T32, X32, e32, st32⟩ := getF X31 hx hZ hown (host := "") (Or.inl (hw _ (List.mem_of_getElem? (i := 35) rfl))) Via.refl e31 F1 (g := (mkF m 22 #[sR o, sI q, sI (1 : Int32)] [(.ref o)])) rfl rfl (hb hby d5_22)
      refine OwnGo.pre (fun t k => st32 t k) ?_
      show OwnGo _ _ _ _ (T32.setTop (mkF m 25 #[sR o, sI q, sI (1 : Int32)] [(.ref av)]))
      refine OwnGo.pre (fun t k => XS.iloadN X32.here hx rfl (hb hby d5_25) rfl (own_daL X32 hx hZ e32 Av (j := (1 : Int32)) (by decide) (i := 1) (by decide) (x := ud1) rfl (g := (mkF m 26 #[sR o, sI q, sI (1 : Int32)] [(.int (1 : Int32)), (.ref av)])) rfl (rest := []) rfl (hb hby d5_26) k)) ?_
      show OwnGo _ _ _ _ (T32.setTop (mkF m 27 #[sR o, sI q, sI (1 : Int32)] [(.double ud1)]))
      exact own_retD X32 hx hk hrt (hb hby d5_27) ⟨_, rfl, by rw [if_neg hq0, if_pos hq1], N0, e32⟩ (by decide) (by decide)
    · skip
      refine OwnGo.pre (fun t k => XS.icmpYes X31.here hx rfl (pc0 := 18) (pc' := 28) rfl (hb hby d5_18) rfl (own_neT hq1) (by decide) (by decide) (XS.iinc X31.here hx rfl (hb hby d5_28) rfl (l' := #[sR o, sI q, sI (2 : Int32)]) rfl (XS.goto X31.here hx rfl (pc0 := 31) (pc' := 2) rfl (hb hby d5_31) (by decide) (by decide) (XS.iloadN X31.here hx rfl (hb hby d5_2) rfl (XS.aloadN X31.here hx rfl (hb hby d5_3) rfl rfl k))))) ?_
      show OwnGo _ _ _ _ (T31.setTop (mkF m 4 #[sR o, sI q, sI (2 : Int32)] [(.ref o), (.int (2 : Int32))]))
      obtain ⟨T33, X33, e33, st33⟩ := getF X31 hx hZ hown (host := "") (Or.inl (hw _ (List.mem_of_getElem? (i := 27) rfl))) Via.refl e31 F0 (g := (mkF m 4 #[sR o, sI q, sI (2 : Int32)] [(.ref o), (.int (2 : Int32))])) rfl rfl (hb hby d5_4)
      refine OwnGo.pre (fun t k => st33 t k) ?_
      show OwnGo _ _ _ _ (T33.setTop (mkF m 7 #[sR o, sI q, sI (2 : Int32)] [(.ref ac), (.int (2 : Int32))]))
      refine OwnGo.pre (fun t k => own_lenI X33 hx hZ e33 Ac (z := 2) rfl (g := (mkF m 7 #[sR o, sI q, sI (2 : Int32)] [(.ref ac), (.int (2 : Int32))])) rfl (rest := [(.int (2 : Int32))]) rfl (hb hby d5_7) (XS.icmpYes X33.here hx rfl (pc0 := 8) (pc' := 34) rfl (hb hby d5_8) rfl (by decide) (by decide) (by decide) (XS.dconst0 X33.here hx rfl (hb hby d5_34) rfl k))) ?_
      show OwnGo _ _ _ _ (T33.setTop (mkF m 35 #[sR o, sI q, sI (2 : Int32)] [(.double (0 : UInt64))]))
      exact own_retD X33 hx hk hrt (hb hby d5_35) ⟨_, rfl, by rw [if_neg hq0, if_neg hq1], N0, e33⟩ (by decide) (by decide)
theorem pn_rmI3 : plainName "com/example/clausewright/clausewright/learning/ClauseModel$Weights" = true := by first | (simp [plainName, overriddenIn]; done) | decide +kernel
theorem pd_rmI3 : parseMethodDescriptor "([I[D)V" = some ⟨[(.array .int), (.array .double)], none⟩ := by decide +kernel
theorem ef_rmI3 (m : MethodId) (o oc ov : Addr) (xc0 xc1 xc2 : Int32) (ud0 ud1 ud2 : UInt64) : entryFrame m #[(.ref o), (.ref oc), (.ref ov)] 3 = (mkF m 0 #[sR o, sR oc, sR ov] []) := by first | (simp [entryFrame, mkF, argsToLocals, Value.category, maxLocals]; done) | rfl
def Q_rmI3 (Z : State) (o oc ov : Addr) (xc0 xc1 xc2 : Int32) (ud0 ud1 ud2 : UInt64) (h0 : Heap) (n0 : Nat) (v : Option Value) (h : Heap) (L : List Loc) : Prop := ∃ ac av, v = none ∧ Fr n0 L ∧ Keep h0 h [o] ∧ n0 ≤ h.size ∧ Exa Z h o "com/example/clausewright/clausewright/learning/ClauseModel$Weights" ∧ Fld Z h o "com/example/clausewright/clausewright/learning/ClauseModel$Weights" "columns" "[I" (.ref ac) ∧ Fld Z h o "com/example/clausewright/clausewright/learning/ClauseModel$Weights" "values" "[D" (.ref av) ∧ OwnIA Z h ac [xc0, xc1, xc2] ∧ OwnDA Z h av [ud0, ud1, ud2]
set_option maxRecDepth 65536 in
set_option maxHeartbeats 40000000 in
theorem rmI3 (l : Launch) (Z : State) (a0 : Array Value) (hw : ∀ d ∈ tables_1, d.before a0 Z = true) (ws : List Jvm.Cond) (o oc ov : Addr) (xc0 xc1 xc2 : Int32) (ud0 ud1 ud2 : UInt64) (h0 : Heap) (n0 : Nat) (Z0 : n0 ≤ h0.size) (E : Exa Z h0 o "com/example/clausewright/clausewright/learning/ClauseModel$Weights") (F0 : Fld Z h0 o "com/example/clausewright/clausewright/learning/ClauseModel$Weights" "columns" "[I" .null) (F1 : Fld Z h0 o "com/example/clausewright/clausewright/learning/ClauseModel$Weights" "values" "[D" .null) (g : n0 ≤ o) (Ac : OwnIA Z h0 oc [xc0, xc1, xc2]) (Ec : Exa Z h0 oc "[I") (Av : OwnDA Z h0 ov [ud0, ud1, ud2]) (Ev : Exa Z h0 ov "[D") (nv : ov ≠ o) :
    MetFree l (⟨"com/example/clausewright/clausewright/learning/ClauseModel$Weights", "<init>", "([I[D)V"⟩ : MethodName) (head1 (Jvm.Cond.code (⟨"com/example/clausewright/clausewright/learning/ClauseModel$Weights", "<init>", "([I[D)V"⟩ : MethodName) prog_36_method_1_code 3 none :: ws) ({ frames := 1, cells := 2, slots := 6, locals := 15 } : Room)) (fun a U => a = #[(.ref o), (.ref oc), (.ref ov)] ∧ Z.Warmed39 U.vm ∧ U.heap = h0) (fun _ _ _ _ _ => True) (fun _ U oO U' => ∃ v L, oO = .returned v ∧ Q_rmI3 Z o oc ov xc0 xc1 xc2 ud0 ud1 ud2 h0 n0 v U'.heap L ∧ FrameEnd U oO U' L ({ frames := 1, cells := 2, slots := 6, locals := 15 } : Room).cells ({ frames := 1, cells := 2, slots := 6, locals := 15 } : Room).slots) := by
  refine MetFree.of_bodySF (plainFor_of_name pn_rmI3) hisR ?_
  intro p e s m args below meth c s₁ Bd hml0 hP hK
  obtain ⟨rfl, hZ, hh⟩ := hP
  have hx := Bd.exec
  have hby := Bd.bytes
  have hml : c.maxLocals = 3 := hml0
  have hown : s.vm.findClass "com/example/clausewright/clausewright/learning/ClauseModel$Weights" = some m.cls := findClass_of_methodNamed Bd.named
  have hnm := (name_of_methodNamed Bd.named Bd.method).1
  have hk := Bd.notSynchronized
  have hrt := Bd.returns
  have X0 : Stand p l e ({ frames := 1, cells := 2, slots := 6, locals := 15 } : Room) s m #[(.ref o), (.ref oc), (.ref ov)] below meth c s₁ [] 0 0 := Stand.of_body Bd
  have e0 : s₁.heap = h0 := by rw [← hh, Bd.state]; rfl
  have N0 := Fr.nil n0
  show OwnGo p.tables e below (OwnEnd s (Q_rmI3 Z o oc ov xc0 xc1 xc2 ud0 ud1 ud2 h0 n0) ({ frames := 1, cells := 2, slots := 6, locals := 15 } : Room).cells ({ frames := 1, cells := 2, slots := 6, locals := 15 } : Room).slots) _
  refine OwnGo.pre (fun t k => castTop (ef_rmI3 m o oc ov xc0 xc1 xc2 ud0 ud1 ud2) k) ?_
  show OwnGo _ _ _ _ (s₁.setTop (mkF m 0 #[sR o, sR oc, sR ov] []))
  refine OwnGo.pre (fun t k => XS.aloadN X0.here hx rfl (hb hby d3_0) rfl rfl k) ?_
  show OwnGo _ _ _ _ (s₁.setTop (mkF m 1 #[sR o, sR oc, sR ov] [(.ref o)]))
  obtain ⟨T34, X34, e34, st34⟩ := initO X0 hx hZ hown (hw _ (List.mem_of_getElem? (i := 15) rfl)) (hw _ (List.mem_of_getElem? (i := 16) rfl)) (hw _ (List.mem_of_getElem? (i := 17) rfl)) e0 (g := (mkF m 1 #[sR o, sR oc, sR ov] [(.ref o)])) rfl (by rw [hml]; rfl) rfl (hb hby d3_1) (by decide) (W := 0) (by show 2 * 0 + _ ≤ _; exact Nat.le_of_eq rfl) (by decide)
  refine OwnGo.pre (fun t k => st34 t k) ?_
  show OwnGo _ _ _ _ (T34.setTop (mkF m 4 #[sR o, sR oc, sR ov] []))
  refine OwnGo.pre (fun t k => XS.aloadN X34.here hx rfl (hb hby d3_4) rfl rfl (XS.aloadN X34.here hx rfl (hb hby d3_5) rfl rfl k)) ?_
  show OwnGo _ _ _ _ (T34.setTop (mkF m 6 #[sR o, sR oc, sR ov] [(.ref oc), (.ref o)]))
  obtain ⟨T35, h35, X35, e35, E35, A35, Q35, st35⟩ := own_cloneI X34 hx hZ hown (hw _ (List.mem_of_getElem? (i := 18) rfl)) (hw _ (List.mem_of_getElem? (i := 19) rfl)) (hw _ (List.mem_of_getElem? (i := 23) rfl)) (hw _ (List.mem_of_getElem? (i := 21) rfl)) (hw _ (List.mem_of_getElem? (i := 22) rfl)) (hw _ (List.mem_of_getElem? (i := 24) rfl)) e34 Ac Ec (g := (mkF m 6 #[sR o, sR oc, sR ov] [(.ref oc), (.ref o)])) rfl (by rw [hml]; rfl) rfl (hb hby d3_6) (by decide) (W := 1) (cap := 3) (by show 2 * 0 + _ ≤ _; exact Nat.le_of_eq rfl) (by decide) (by show 3 ≤ 3; decide) (by decide) (by decide)
  obtain ⟨a35, g35⟩ : ∃ z, z = h0.size := ⟨_, rfl⟩
  rw [← g35] at A35 Q35 st35
  have Z35 : n0 ≤ h35.size := Nat.le_trans Z0 E35.1
  refine OwnGo.pre (fun t k => st35 t k) ?_
  show OwnGo _ _ _ _ (T35.setTop (mkF m 9 #[sR o, sR oc, sR ov] [(.ref a35), (.ref o)]))
  obtain ⟨T36, X36, e36, st36⟩ := castY X35 hx hZ hown (hw _ (List.mem_of_getElem? (i := 25) rfl)) e35 (Ins.of_exa Q35 (hw _ (List.mem_of_getElem? (i := 26) rfl))) (g := (mkF m 9 #[sR o, sR oc, sR ov] [(.ref a35), (.ref o)])) rfl rfl (hb hby d3_9)
  refine OwnGo.pre (fun t k => st36 t k) ?_
  show OwnGo _ _ _ _ (T36.setTop (mkF m 12 #[sR o, sR oc, sR ov] [(.ref a35), (.ref o)]))
  have E1 := E.ext E35
  have F10 := F0.ext E35
  have F11 := F1.ext E35
  have Av1 := Av.ex E35
  have Ev1 := Ev.ext E35
  have n1 : a35 ≠ o := (Nat.ne_of_gt (Nat.lt_of_lt_of_le E.lt (Nat.le_of_eq g35.symm)))
  have K1 := (Keep.refl h0 [o]).ext E35
  obtain ⟨T37, h37, X37, e37, W37, st37⟩ := putF X36 hx hZ hown (host := "") (Or.inl (hw _ (List.mem_of_getElem? (i := 27) rfl))) Via.refl e36 F10 E1 (Or.inr ⟨(hw _ (List.mem_of_getElem? (i := 28) rfl)), rfl, hnm⟩) (hw _ (List.mem_of_getElem? (i := 10) rfl)) (ty := (.array .int)) (by decide) rfl rfl (g := (mkF m 12 #[sR o, sR oc, sR ov] [(.ref a35), (.ref o)])) rfl rfl (hb hby d3_12)
  have N37 := Fr.snoc X37 N0 g
  refine OwnGo.pre (fun t k => st37 t k) ?_
  show OwnGo _ _ _ _ (T37.setTop (mkF m 15 #[sR o, sR oc, sR ov] []))
  have F20 := F10.same W37
  have F21 := F11.other W37 (Or.inr (slot_ne (Or.inr (hw _ (List.mem_of_getElem? (i := 36) rfl))) (Or.inr (hw _ (List.mem_of_getElem? (i := 28) rfl))) (by decide) (t := (.array .double)) (by decide) (t' := (.array .int)) (by decide)))
  have E2 := E1.wr W37
  have A2 := A35.ot W37 n1
  have Av2 := Av1.ot W37 nv
  have Ev2 := Ev1.wr W37
  have K2 := K1.wr W37 (Or.inl (List.mem_of_getElem? (i := 0) rfl))
  have Z37b : n0 ≤ h37.size := by rw [W37.size]; exact Z35
  refine OwnGo.pre (fun t k => XS.aloadN X37.here hx rfl (hb hby d3_15) rfl rfl (XS.aloadN X37.here hx rfl (hb hby d3_16) rfl rfl k)) ?_
  show OwnGo _ _ _ _ (T37.setTop (mkF m 17 #[sR o, sR oc, sR ov] [(.ref ov), (.ref o)]))
  obtain ⟨T38, h38, X38, e38, E38, A38, Q38, st38⟩ := own_cloneD X37 hx hZ hown (hw _ (List.mem_of_getElem? (i := 29) rfl)) (hw _ (List.mem_of_getElem? (i := 30) rfl)) (hw _ (List.mem_of_getElem? (i := 23) rfl)) (hw _ (List.mem_of_getElem? (i := 21) rfl)) (hw _ (List.mem_of_getElem? (i := 31) rfl)) (hw _ (List.mem_of_getElem? (i := 32) rfl)) e37 Av2 Ev2 (g := (mkF m 17 #[sR o, sR oc, sR ov] [(.ref ov), (.ref o)])) rfl (by rw [hml]; rfl) rfl (hb hby d3_17) (by decide) (W := 1) (cap := 3) (by show 2 * 0 + _ ≤ _; exact Nat.le_of_eq rfl) (by decide) (by show 3 ≤ 3; decide) (by decide) (by decide)
  obtain ⟨a38, g38⟩ : ∃ z, z = h37.size := ⟨_, rfl⟩
  rw [← g38] at A38 Q38 st38
  have Z38 : n0 ≤ h38.size := Nat.le_trans Z37b E38.1
  refine OwnGo.pre (fun t k => st38 t k) ?_
  show OwnGo _ _ _ _ (T38.setTop (mkF m 20 #[sR o, sR oc, sR ov] [(.ref a38), (.ref o)]))
  obtain ⟨T39, X39, e39, st39⟩ := castY X38 hx hZ hown (hw _ (List.mem_of_getElem? (i := 33) rfl)) e38 (Ins.of_exa Q38 (hw _ (List.mem_of_getElem? (i := 34) rfl))) (g := (mkF m 20 #[sR o, sR oc, sR ov] [(.ref a38), (.ref o)])) rfl rfl (hb hby d3_20)
  refine OwnGo.pre (fun t k => st39 t k) ?_
  show OwnGo _ _ _ _ (T39.setTop (mkF m 23 #[sR o, sR oc, sR ov] [(.ref a38), (.ref o)]))
  have E3 := E2.ext E38
  have F30 := F20.ext E38
  have F31 := F21.ext E38
  have A3 := A2.ex E38
  have n2 : a38 ≠ o := (Nat.ne_of_gt (Nat.lt_of_lt_of_le E2.lt (Nat.le_of_eq g38.symm)))
  have K3 := K2.ext E38
  obtain ⟨T40, h40, X40, e40, W40, st40⟩ := putF X39 hx hZ hown (host := "") (Or.inl (hw _ (List.mem_of_getElem? (i := 35) rfl))) Via.refl e39 F31 E3 (Or.inr ⟨(hw _ (List.mem_of_getElem? (i := 36) rfl)), rfl, hnm⟩) (hw _ (List.mem_of_getElem? (i := 10) rfl)) (ty := (.array .double)) (by decide) rfl rfl (g := (mkF m 23 #[sR o, sR oc, sR ov] [(.ref a38), (.ref o)])) rfl rfl (hb hby d3_23)
  have N40 := Fr.snoc X40 N37 g
  refine OwnGo.pre (fun t k => st40 t k) ?_
  show OwnGo _ _ _ _ (T40.setTop (mkF m 26 #[sR o, sR oc, sR ov] []))
  have F41 := F31.same W40
  have F40 := F30.other W40 (Or.inr (slot_ne (Or.inr (hw _ (List.mem_of_getElem? (i := 28) rfl))) (Or.inr (hw _ (List.mem_of_getElem? (i := 36) rfl))) (by decide) (t := (.array .int)) (by decide) (t' := (.array .double)) (by decide)))
  have E4 := E3.wr W40
  have A4 := A3.ot W40 n1
  have B4 := A38.ot W40 n2
  have K4 := K3.wr W40 (Or.inl (List.mem_of_getElem? (i := 0) rfl))
  have Z4 : n0 ≤ h40.size := by rw [W40.size]; exact Z38
  rw [← e40] at F40 F41 E4 A4 B4 K4 Z4
  exact own_ret0 X40 hx hk hrt (hb hby d3_26) ⟨_, _, rfl, N40, K4, Z4, E4, F40, F41, A4, B4⟩ (by decide) (by decide)
theorem pn_rmV3 : plainName "com/example/clausewright/clausewright/learning/ClauseModel$Weights" = true := by first | (simp [plainName, overriddenIn]; done) | decide +kernel
theorem pd_rmV3 : parseMethodDescriptor "(I)D" = some ⟨[.int], (some .double)⟩ := by decide +kernel
theorem ef_rmV3 (m : MethodId) (o ac av : Addr) (xc0 xc1 xc2 : Int32) (ud0 ud1 ud2 : UInt64) (q : Int32) : entryFrame m #[(.ref o), (.int q)] 3 = (mkF m 0 #[sR o, sI q, uU] []) := by first | (simp [entryFrame, mkF, argsToLocals, Value.category, maxLocals]; done) | rfl
def Q_rmV3 (Z : State) (o ac av : Addr) (xc0 xc1 xc2 : Int32) (ud0 ud1 ud2 : UInt64) (q : Int32) (h0 : Heap) (n0 : Nat) (v : Option Value) (h : Heap) (L : List Loc) : Prop := ∃ r : UInt64, v = some (.double r) ∧ r = (if xc0 = q then ud0 else (if xc1 = q then ud1 else (if xc2 = q then ud2 else 0))) ∧ Fr n0 L ∧ h = h0
set_option maxRecDepth 65536 in
set_option maxHeartbeats 40000000 in
theorem rmV3 (l : Launch) (Z : State) (a0 : Array Value) (hw : ∀ d ∈ tables_1, d.before a0 Z = true) (ws : List Jvm.Cond) (o ac av : Addr) (xc0 xc1 xc2 : Int32) (ud0 ud1 ud2 : UInt64) (q : Int32) (h0 : Heap) (n0 : Nat) (Z0 : n0 ≤ h0.size) (F0 : Fld Z h0 o "com/example/clausewright/clausewright/learning/ClauseModel$Weights" "columns" "[I" (.ref ac)) (F1 : Fld Z h0 o "com/example/clausewright/clausewright/learning/ClauseModel$Weights" "values" "[D" (.ref av)) (Ac : OwnIA Z h0 ac [xc0, xc1, xc2]) (Av : OwnDA Z h0 av [ud0, ud1, ud2]) :
    MetFree l (⟨"com/example/clausewright/clausewright/learning/ClauseModel$Weights", "valueIn", "(I)D"⟩ : MethodName) (head1 (Jvm.Cond.code (⟨"com/example/clausewright/clausewright/learning/ClauseModel$Weights", "valueIn", "(I)D"⟩ : MethodName) prog_36_method_5_code 3 (some .double) :: ws) ({ frames := 0, cells := 0, slots := 0, locals := 0 } : Room)) (fun a U => a = #[(.ref o), (.int q)] ∧ Z.Warmed39 U.vm ∧ U.heap = h0) (fun _ _ _ _ _ => True) (fun _ U oO U' => ∃ v L, oO = .returned v ∧ Q_rmV3 Z o ac av xc0 xc1 xc2 ud0 ud1 ud2 q h0 n0 v U'.heap L ∧ FrameEnd U oO U' L ({ frames := 0, cells := 0, slots := 0, locals := 0 } : Room).cells ({ frames := 0, cells := 0, slots := 0, locals := 0 } : Room).slots) := by
  refine MetFree.of_bodySF (plainFor_of_name pn_rmV3) hisR ?_
  intro p e s m args below meth c s₁ Bd hml0 hP hK
  obtain ⟨rfl, hZ, hh⟩ := hP
  have hx := Bd.exec
  have hby := Bd.bytes
  have hml : c.maxLocals = 3 := hml0
  have hown : s.vm.findClass "com/example/clausewright/clausewright/learning/ClauseModel$Weights" = some m.cls := findClass_of_methodNamed Bd.named
  have hnm := (name_of_methodNamed Bd.named Bd.method).1
  have hk := Bd.notSynchronized
  have hrt := Bd.returns
  have X0 : Stand p l e ({ frames := 0, cells := 0, slots := 0, locals := 0 } : Room) s m #[(.ref o), (.int q)] below meth c s₁ [] 0 0 := Stand.of_body Bd
  have e0 : s₁.heap = h0 := by rw [← hh, Bd.state]; rfl
  have N0 := Fr.nil n0
  show OwnGo p.tables e below (OwnEnd s (Q_rmV3 Z o ac av xc0 xc1 xc2 ud0 ud1 ud2 q h0 n0) ({ frames := 0, cells := 0, slots := 0, locals := 0 } : Room).cells ({ frames := 0, cells := 0, slots := 0, locals := 0 } : Room).slots) _
  refine OwnGo.pre (fun t k => castTop (ef_rmV3 m o ac av xc0 xc1 xc2 ud0 ud1 ud2 q) k) ?_
  show OwnGo _ _ _ _ (s₁.setTop (mkF m 0 #[sR o, sI q, uU] []))
  refine OwnGo.pre (fun t k => XS.iconst X0.here hx rfl (hb hby d5_0) (XS.istoreN X0.here hx rfl (hb hby d5_1) rfl (l' := #[sR o, sI q, sI (0 : Int32)]) rfl (XS.iloadN X0.here hx rfl (hb hby d5_2) rfl (XS.aloadN X0.here hx rfl (hb hby d5_3) rfl rfl k)))) ?_
  show OwnGo _ _ _ _ (s₁.setTop (mkF m 4 #[sR o, sI q, sI (0 : Int32)] [(.ref o), (.int (0 : Int32))]))
  obtain ⟨T41, X41, e41, st41⟩ := getF X0 hx hZ hown (host := "") (Or.inl (hw _ (List.mem_of_getElem? (i := 27) rfl))) Via.refl e0 F0 (g := (mkF m 4 #[sR o, sI q, sI (0 : Int32)] [(.ref o), (.int (0 : Int32))])) rfl rfl (hb hby d5_4)
  refine OwnGo.pre (fun t k => st41 t k) ?_
  show OwnGo _ _ _ _ (T41.setTop (mkF m 7 #[sR o, sI q, sI (0 : Int32)] [(.ref ac), (.int (0 : Int32))]))
  refine OwnGo.pre (fun t k => own_lenI X41 hx hZ e41 Ac (z := 3) rfl (g := (mkF m 7 #[sR o, sI q, sI (0 : Int32)] [(.ref ac), (.int (0 : Int32))])) rfl (rest := [(.int (0 : Int32))]) rfl (hb hby d5_7) (XS.icmpNo X41.here hx rfl (hb hby d5_8) rfl (by decide) (XS.aloadN X41.here hx rfl (hb hby d5_11) rfl rfl k))) ?_
  show OwnGo _ _ _ _ (T41.setTop (mkF m 12 #[sR o, sI q, sI (0 : Int32)] [(.ref o)]))
  obtain ⟨T42, X42, e42, st42⟩ := getF X41 hx hZ hown (host := "") (Or.inl (hw _ (List.mem_of_getElem? (i := 27) rfl))) Via.refl e41 F0 (g := (mkF m 12 #[sR o, sI q, sI (0 : Int32)] [(.ref o)])) rfl rfl (hb hby d5_12)
  refine OwnGo.pre (fun t k => st42 t k) ?_
  show OwnGo _ _ _ _ (T42.setTop (mkF m 15 #[sR o, sI q, sI (0 : Int32)] [(.ref ac)]))
  refine OwnGo.pre (fun t k => XS.iloadN X42.here hx rfl (hb hby d5_15) rfl (own_iaL X42 hx hZ e42 Ac (j := (0 : Int32)) (by decide) (i := 0) (by decide) (x := xc0) rfl (g := (mkF m 16 #[sR o, sI q, sI (0 : Int32)] [(.int (0 : Int32)), (.ref ac)])) rfl (rest := []) rfl (hb hby d5_16) (XS.iloadN X42.here hx rfl (hb hby d5_17) rfl k))) ?_
  show OwnGo _ _ _ _ (T42.setTop (mkF m 18 #[sR o, sI q, sI (0 : Int32)] [(.int q), (.int xc0)]))
  by_cases hq0 : xc0 = q
  · skip
    refine OwnGo.pre (fun t k => XS.icmpNo X42.here hx rfl (hb hby d5_18) rfl (own_neF hq0) (XS.aloadN X42.here hx rfl (hb hby d5_21) rfl rfl k)) ?_
    show OwnGo _ _ _ _ (T42.setTop (mkF m 22 #[sR o, sI q, sI (0 : Int32)] [(.ref o)]))
    obtain ⟨T43, X43, e43, st43⟩ := getF X42 hx hZ hown (host := "") (Or.inl (hw _ (List.mem_of_getElem? (i := 35) rfl))) Via.refl e42 F1 (g := (mkF m 22 #[sR o, sI q, sI (0 : Int32)] [(.ref o)])) rfl rfl (hb hby d5_22)
    refine OwnGo.pre (fun t k => st43 t k) ?_
    show OwnGo _ _ _ _ (T43.setTop (mkF m 25 #[sR o, sI q, sI (0 : Int32)] [(.ref av)]))
    refine OwnGo.pre (fun t k => XS.iloadN X43.here hx rfl (hb hby d5_25) rfl (own_daL X43 hx hZ e43 Av (j := (0 : Int32)) (by decide) (i := 0) (by decide) (x := ud0) rfl (g := (mkF m 26 #[sR o, sI q, sI (0 : Int32)] [(.int (0 : Int32)), (.ref av)])) rfl (rest := []) rfl (hb hby d5_26) k)) ?_
    show OwnGo _ _ _ _ (T43.setTop (mkF m 27 #[sR o, sI q, sI (0 : Int32)] [(.double ud0)]))
    exact own_retD X43 hx hk hrt (hb hby d5_27) ⟨_, rfl, by rw [if_pos hq0], N0, e43⟩ (by decide) (by decide)
  · skip
    refine OwnGo.pre (fun t k => XS.icmpYes X42.here hx rfl (pc0 := 18) (pc' := 28) rfl (hb hby d5_18) rfl (own_neT hq0) (by decide) (by decide) (XS.iinc X42.here hx rfl (hb hby d5_28) rfl (l' := #[sR o, sI q, sI (1 : Int32)]) rfl (XS.goto X42.here hx rfl (pc0 := 31) (pc' := 2) rfl (hb hby d5_31) (by decide) (by decide) (XS.iloadN X42.here hx rfl (hb hby d5_2) rfl (XS.aloadN X42.here hx rfl (hb hby d5_3) rfl rfl k))))) ?_
    show OwnGo _ _ _ _ (T42.setTop (mkF m 4 #[sR o, sI q, sI (1 : Int32)] [(.ref o), (.int (1 : Int32))]))
    obtain ⟨T44, X44, e44, st44⟩ := getF X42 hx hZ hown (host := "") (Or.inl (hw _ (List.mem_of_getElem? (i := 27) rfl))) Via.refl e42 F0 (g := (mkF m 4 #[sR o, sI q, sI (1 : Int32)] [(.ref o), (.int (1 : Int32))])) rfl rfl (hb hby d5_4)
    refine OwnGo.pre (fun t k => st44 t k) ?_
    show OwnGo _ _ _ _ (T44.setTop (mkF m 7 #[sR o, sI q, sI (1 : Int32)] [(.ref ac), (.int (1 : Int32))]))
    refine OwnGo.pre (fun t k => own_lenI X44 hx hZ e44 Ac (z := 3) rfl (g := (mkF m 7 #[sR o, sI q, sI (1 : Int32)] [(.ref ac), (.int (1 : Int32))])) rfl (rest := [(.int (1 : Int32))]) rfl (hb hby d5_7) (XS.icmpNo X44.here hx rfl (hb hby d5_8) rfl (by decide) (XS.aloadN X44.here hx rfl (hb hby d5_11) rfl rfl k))) ?_
    show OwnGo _ _ _ _ (T44.setTop (mkF m 12 #[sR o, sI q, sI (1 : Int32)] [(.ref o)]))
    obtain ⟨T45, X45, e45, st45⟩ := getF X44 hx hZ hown (host := "") (Or.inl (hw _ (List.mem_of_getElem? (i := 27) rfl))) Via.refl e44 F0 (g := (mkF m 12 #[sR o, sI q, sI (1 : Int32)] [(.ref o)])) rfl rfl (hb hby d5_12)
    refine OwnGo.pre (fun t k => st45 t k) ?_
    show OwnGo _ _ _ _ (T45.setTop (mkF m 15 #[sR o, sI q, sI (1 : Int32)] [(.ref ac)]))
    refine OwnGo.pre (fun t k => XS.iloadN X45.here hx rfl (hb hby d5_15) rfl (own_iaL X45 hx hZ e45 Ac (j := (1 : Int32)) (by decide) (i := 1) (by decide) (x := xc1) rfl (g := (mkF m 16 #[sR o, sI q, sI (1 : Int32)] [(.int (1 : Int32)), (.ref ac)])) rfl (rest := []) rfl (hb hby d5_16) (XS.iloadN X45.here hx rfl (hb hby d5_17) rfl k))) ?_
    show OwnGo _ _ _ _ (T45.setTop (mkF m 18 #[sR o, sI q, sI (1 : Int32)] [(.int q), (.int xc1)]))
    by_cases hq1 : xc1 = q
    · skip
      refine OwnGo.pre (fun t k => XS.icmpNo X45.here hx rfl (hb hby d5_18) rfl (own_neF hq1) (XS.aloadN X45.here hx rfl (hb hby d5_21) rfl rfl k)) ?_
      show OwnGo _ _ _ _ (T45.setTop (mkF m 22 #[sR o, sI q, sI (1 : Int32)] [(.ref o)]))
      obtain ⟨T46, X46, e46, st46⟩ := getF X45 hx hZ hown (host := "") (Or.inl (hw _ (List.mem_of_getElem? (i := 35) rfl))) Via.refl e45 F1 (g := (mkF m 22 #[sR o, sI q, sI (1 : Int32)] [(.ref o)])) rfl rfl (hb hby d5_22)
      refine OwnGo.pre (fun t k => st46 t k) ?_
      show OwnGo _ _ _ _ (T46.setTop (mkF m 25 #[sR o, sI q, sI (1 : Int32)] [(.ref av)]))
      refine OwnGo.pre (fun t k => XS.iloadN X46.here hx rfl (hb hby d5_25) rfl (own_daL X46 hx hZ e46 Av (j := (1 : Int32)) (by decide) (i := 1) (by decide) (x := ud1) rfl (g := (mkF m 26 #[sR o, sI q, sI (1 : Int32)] [(.int (1 : Int32)), (.ref av)])) rfl (rest := []) rfl (hb hby d5_26) k)) ?_
      show OwnGo _ _ _ _ (T46.setTop (mkF m 27 #[sR o, sI q, sI (1 : Int32)] [(.double ud1)]))
      exact own_retD X46 hx hk hrt (hb hby d5_27) ⟨_, rfl, by rw [if_neg hq0, if_pos hq1], N0, e46⟩ (by decide) (by decide)
    · skip
      refine OwnGo.pre (fun t k => XS.icmpYes X45.here hx rfl (pc0 := 18) (pc' := 28) rfl (hb hby d5_18) rfl (own_neT hq1) (by decide) (by decide) (XS.iinc X45.here hx rfl (hb hby d5_28) rfl (l' := #[sR o, sI q, sI (2 : Int32)]) rfl (XS.goto X45.here hx rfl (pc0 := 31) (pc' := 2) rfl (hb hby d5_31) (by decide) (by decide) (XS.iloadN X45.here hx rfl (hb hby d5_2) rfl (XS.aloadN X45.here hx rfl (hb hby d5_3) rfl rfl k))))) ?_
      show OwnGo _ _ _ _ (T45.setTop (mkF m 4 #[sR o, sI q, sI (2 : Int32)] [(.ref o), (.int (2 : Int32))]))
      obtain ⟨T47, X47, e47, st47⟩ := getF X45 hx hZ hown (host := "") (Or.inl (hw _ (List.mem_of_getElem? (i := 27) rfl))) Via.refl e45 F0 (g := (mkF m 4 #[sR o, sI q, sI (2 : Int32)] [(.ref o), (.int (2 : Int32))])) rfl rfl (hb hby d5_4)
      refine OwnGo.pre (fun t k => st47 t k) ?_
      show OwnGo _ _ _ _ (T47.setTop (mkF m 7 #[sR o, sI q, sI (2 : Int32)] [(.ref ac), (.int (2 : Int32))]))
      refine OwnGo.pre (fun t k => own_lenI X47 hx hZ e47 Ac (z := 3) rfl (g := (mkF m 7 #[sR o, sI q, sI (2 : Int32)] [(.ref ac), (.int (2 : Int32))])) rfl (rest := [(.int (2 : Int32))]) rfl (hb hby d5_7) (XS.icmpNo X47.here hx rfl (hb hby d5_8) rfl (by decide) (XS.aloadN X47.here hx rfl (hb hby d5_11) rfl rfl k))) ?_
      show OwnGo _ _ _ _ (T47.setTop (mkF m 12 #[sR o, sI q, sI (2 : Int32)] [(.ref o)]))
      obtain ⟨T48, X48, e48, st48⟩ := getF X47 hx hZ hown (host := "") (Or.inl (hw _ (List.mem_of_getElem? (i := 27) rfl))) Via.refl e47 F0 (g := (mkF m 12 #[sR o, sI q, sI (2 : Int32)] [(.ref o)])) rfl rfl (hb hby d5_12)
      refine OwnGo.pre (fun t k => st48 t k) ?_
      show OwnGo _ _ _ _ (T48.setTop (mkF m 15 #[sR o, sI q, sI (2 : Int32)] [(.ref ac)]))
      refine OwnGo.pre (fun t k => XS.iloadN X48.here hx rfl (hb hby d5_15) rfl (own_iaL X48 hx hZ e48 Ac (j := (2 : Int32)) (by decide) (i := 2) (by decide) (x := xc2) rfl (g := (mkF m 16 #[sR o, sI q, sI (2 : Int32)] [(.int (2 : Int32)), (.ref ac)])) rfl (rest := []) rfl (hb hby d5_16) (XS.iloadN X48.here hx rfl (hb hby d5_17) rfl k))) ?_
      show OwnGo _ _ _ _ (T48.setTop (mkF m 18 #[sR o, sI q, sI (2 : Int32)] [(.int q), (.int xc2)]))
      by_cases hq2 : xc2 = q
      · skip
        refine OwnGo.pre (fun t k => XS.icmpNo X48.here hx rfl (hb hby d5_18) rfl (own_neF hq2) (XS.aloadN X48.here hx rfl (hb hby d5_21) rfl rfl k)) ?_
        show OwnGo _ _ _ _ (T48.setTop (mkF m 22 #[sR o, sI q, sI (2 : Int32)] [(.ref o)]))
        obtain ⟨T49, X49, e49, st49⟩ := getF X48 hx hZ hown (host := "") (Or.inl (hw _ (List.mem_of_getElem? (i := 35) rfl))) Via.refl e48 F1 (g := (mkF m 22 #[sR o, sI q, sI (2 : Int32)] [(.ref o)])) rfl rfl (hb hby d5_22)
        refine OwnGo.pre (fun t k => st49 t k) ?_
        show OwnGo _ _ _ _ (T49.setTop (mkF m 25 #[sR o, sI q, sI (2 : Int32)] [(.ref av)]))
        refine OwnGo.pre (fun t k => XS.iloadN X49.here hx rfl (hb hby d5_25) rfl (own_daL X49 hx hZ e49 Av (j := (2 : Int32)) (by decide) (i := 2) (by decide) (x := ud2) rfl (g := (mkF m 26 #[sR o, sI q, sI (2 : Int32)] [(.int (2 : Int32)), (.ref av)])) rfl (rest := []) rfl (hb hby d5_26) k)) ?_
        show OwnGo _ _ _ _ (T49.setTop (mkF m 27 #[sR o, sI q, sI (2 : Int32)] [(.double ud2)]))
        exact own_retD X49 hx hk hrt (hb hby d5_27) ⟨_, rfl, by rw [if_neg hq0, if_neg hq1, if_pos hq2], N0, e49⟩ (by decide) (by decide)
      · skip
        refine OwnGo.pre (fun t k => XS.icmpYes X48.here hx rfl (pc0 := 18) (pc' := 28) rfl (hb hby d5_18) rfl (own_neT hq2) (by decide) (by decide) (XS.iinc X48.here hx rfl (hb hby d5_28) rfl (l' := #[sR o, sI q, sI (3 : Int32)]) rfl (XS.goto X48.here hx rfl (pc0 := 31) (pc' := 2) rfl (hb hby d5_31) (by decide) (by decide) (XS.iloadN X48.here hx rfl (hb hby d5_2) rfl (XS.aloadN X48.here hx rfl (hb hby d5_3) rfl rfl k))))) ?_
        show OwnGo _ _ _ _ (T48.setTop (mkF m 4 #[sR o, sI q, sI (3 : Int32)] [(.ref o), (.int (3 : Int32))]))
        obtain ⟨T50, X50, e50, st50⟩ := getF X48 hx hZ hown (host := "") (Or.inl (hw _ (List.mem_of_getElem? (i := 27) rfl))) Via.refl e48 F0 (g := (mkF m 4 #[sR o, sI q, sI (3 : Int32)] [(.ref o), (.int (3 : Int32))])) rfl rfl (hb hby d5_4)
        refine OwnGo.pre (fun t k => st50 t k) ?_
        show OwnGo _ _ _ _ (T50.setTop (mkF m 7 #[sR o, sI q, sI (3 : Int32)] [(.ref ac), (.int (3 : Int32))]))
        refine OwnGo.pre (fun t k => own_lenI X50 hx hZ e50 Ac (z := 3) rfl (g := (mkF m 7 #[sR o, sI q, sI (3 : Int32)] [(.ref ac), (.int (3 : Int32))])) rfl (rest := [(.int (3 : Int32))]) rfl (hb hby d5_7) (XS.icmpYes X50.here hx rfl (pc0 := 8) (pc' := 34) rfl (hb hby d5_8) rfl (by decide) (by decide) (by decide) (XS.dconst0 X50.here hx rfl (hb hby d5_34) rfl k))) ?_
        show OwnGo _ _ _ _ (T50.setTop (mkF m 35 #[sR o, sI q, sI (3 : Int32)] [(.double (0 : UInt64))]))
        exact own_retD X50 hx hk hrt (hb hby d5_35) ⟨_, rfl, by rw [if_neg hq0, if_neg hq1, if_neg hq2], N0, e50⟩ (by decide) (by decide)
theorem pn_rmL : plainName "com/example/clausewright/clausewright/learning/WeightsValueInPinLaw" = true := by first | (simp [plainName, overriddenIn]; done) | decide +kernel
theorem ef_rmL (m : MethodId) (p0 p1 p2 p3 : Int32) (p4 : Int64) (p5 : Int32) : entryFrame m #[(.int p0), (.int p1), (.int p2), (.int p3), (.long p4), (.int p5)] maxLocals = (mkF m 0 #[sI p0, sI p1, sI p2, sI p3, sJ p4, uS, sI p5, uU, uU, uU, uU, uU, uU, uU, uU, uU, uU, uU, uU, uU, uU, uU, uU, uU, uU, uU, uU, uU, uU] []) := by first | (simp [entryFrame, mkF, argsToLocals, Value.category, maxLocals]; done) | rfl
def Q_rmL (Z : State) (p0 p1 p2 p3 : Int32) (p4 : Int64) (p5 : Int32) (h0 : Heap) (n0 : Nat) (v : Option Value) (h : Heap) (L : List Loc) : Prop := v = some (.int 1) ∧ Fr n0 L
set_option maxRecDepth 65536 in
set_option maxHeartbeats 40000000 in
theorem rmL (l : Launch) (Z : State) (a0 : Array Value) (hw : ∀ d ∈ tables_1, d.before a0 Z = true) (ws : List Jvm.Cond) (p0 p1 p2 p3 : Int32) (p4 : Int64) (p5 : Int32) (h0 : Heap) (n0 : Nat) (Z0 : n0 ≤ h0.size)  :
    MetFree l x (head1 (Jvm.Cond.code x code maxLocals ret :: ws) room_1) (fun a U => a = #[(.int p0), (.int p1), (.int p2), (.int p3), (.long p4), (.int p5)] ∧ Z.Warmed39 U.vm ∧ U.heap = h0) (fun _ _ _ _ _ => True) (fun _ U oO U' => ∃ v L, oO = .returned v ∧ Q_rmL Z p0 p1 p2 p3 p4 p5 h0 n0 v U'.heap L ∧ FrameEnd U oO U' L room_1.cells room_1.slots) := by
  refine MetFree.of_bodySF (plainFor_of_name pn_rmL) hisR ?_
  intro p e s m args below meth c s₁ Bd hml0 hP hK
  obtain ⟨rfl, hZ, hh⟩ := hP
  have hx := Bd.exec
  have hby := Bd.bytes
  have hml : c.maxLocals = 29 := hml0
  have hown : s.vm.findClass "com/example/clausewright/clausewright/learning/WeightsValueInPinLaw" = some m.cls := findClass_of_methodNamed Bd.named
  have hnm := (name_of_methodNamed Bd.named Bd.method).1
  have hk := Bd.notSynchronized
  have hrt := Bd.returns
  have X0 : Stand p l e room_1 s m #[(.int p0), (.int p1), (.int p2), (.int p3), (.long p4), (.int p5)] below meth c s₁ [] 0 0 := Stand.of_body Bd
  have e0 : s₁.heap = h0 := by rw [← hh, Bd.state]; rfl
  have N0 := Fr.nil n0
  show OwnGo p.tables e below (OwnEnd s (Q_rmL Z p0 p1 p2 p3 p4 p5 h0 n0) room_1.cells room_1.slots) _
  refine OwnGo.pre (fun t k => castTop (ef_rmL m p0 p1 p2 p3 p4 p5) k) ?_
  show OwnGo _ _ _ _ (s₁.setTop (mkF m 0 #[sI p0, sI p1, sI p2, sI p3, sJ p4, uS, sI p5, uU, uU, uU, uU, uU, uU, uU, uU, uU, uU, uU, uU, uU, uU, uU, uU, uU, uU, uU, uU, uU, uU] []))
  obtain ⟨nn, hnn⟩ : ∃ v, p3 &&& (3 : Int32) = v := ⟨_, rfl⟩
  refine OwnGo.pre (fun t k => XS.iloadN X0.here hx rfl (hb hby at_0) rfl (XS.iconst X0.here hx rfl (hb hby at_1) (own_iand X0.here hx rfl (hb hby at_2) rfl hnn (XS.istore X0.here hx rfl (hb hby at_3) rfl (l' := #[sI p0, sI p1, sI p2, sI p3, sJ p4, uS, sI p5, sI nn, uU, uU, uU, uU, uU, uU, uU, uU, uU, uU, uU, uU, uU, uU, uU, uU, uU, uU, uU, uU, uU]) rfl (XS.iloadN X0.here hx rfl (hb hby at_5) rfl (XS.iconst X0.here hx rfl (hb hby at_6) (own_iushr X0.here hx rfl (hb hby at_7) rfl rfl (XS.iconst X0.here hx rfl (hb hby at_8) k)))))))) ?_
  show OwnGo _ _ _ _ (s₁.setTop (mkF m 9 #[sI p0, sI p1, sI p2, sI p3, sJ p4, uS, sI p5, sI nn, uU, uU, uU, uU, uU, uU, uU, uU, uU, uU, uU, uU, uU, uU, uU, uU, uU, uU, uU, uU, uU] [(.int (3 : Int32)), (.int (XT.ushr p3 (2 : Int32)))]))
  obtain ⟨sel, hsel⟩ : ∃ v, (XT.ushr p3 (2 : Int32)) &&& (3 : Int32) = v := ⟨_, rfl⟩
  obtain ⟨shf, hshf⟩ : ∃ v, (XT.ushr p3 (4 : Int32)) &&& (3 : Int32) = v := ⟨_, rfl⟩
  have cnn : nn = 0 ∨ nn = 1 ∨ nn = 2 ∨ nn = 3 := hnn ▸ own_and3 _
  have csel : sel = 0 ∨ sel = 1 ∨ sel = 2 ∨ sel = 3 := hsel ▸ own_and3 _
  refine OwnGo.pre (fun t k => own_iand X0.here hx rfl (hb hby at_9) rfl hsel (XS.istore X0.here hx rfl (hb hby at_10) rfl (l' := #[sI p0, sI p1, sI p2, sI p3, sJ p4, uS, sI p5, sI nn, sI sel, uU, uU, uU, uU, uU, uU, uU, uU, uU, uU, uU, uU, uU, uU, uU, uU, uU, uU, uU, uU]) rfl (XS.iloadN X0.here hx rfl (hb hby at_12) rfl (XS.iconst X0.here hx rfl (hb hby at_13) (own_iushr X0.here hx rfl (hb hby at_14) rfl rfl (XS.iconst X0.here hx rfl (hb hby at_15) (own_iand X0.here hx rfl (hb hby at_16) rfl hshf (XS.istore X0.here hx rfl (hb hby at_17) rfl (l' := #[sI p0, sI p1, sI p2, sI p3, sJ p4, uS, sI p5, sI nn, sI sel, sI shf, uU, uU, uU, uU, uU, uU, uU, uU, uU, uU, uU, uU, uU, uU, uU, uU, uU, uU, uU]) rfl k)))))))) ?_
  show OwnGo _ _ _ _ (s₁.setTop (mkF m 19 #[sI p0, sI p1, sI p2, sI p3, sJ p4, uS, sI p5, sI nn, sI sel, sI shf, uU, uU, uU, uU, uU, uU, uU, uU, uU, uU, uU, uU, uU, uU, uU, uU, uU, uU, uU] []))
  refine OwnGo.pre (fun t k => XS.iloadN X0.here hx rfl (hb hby at_19) rfl (XS.iloadN X0.here hx rfl (hb hby at_20) rfl k)) ?_
  show OwnGo _ _ _ _ (s₁.setTop (mkF m 21 #[sI p0, sI p1, sI p2, sI p3, sJ p4, uS, sI p5, sI nn, sI sel, sI shf, uU, uU, uU, uU, uU, uU, uU, uU, uU, uU, uU, uU, uU, uU, uU, uU, uU, uU, uU] [(.int p1), (.int p0)]))
  obtain ⟨_, _, ⟨T51, L51, k51, n51⟩, -, X51, ⟨Lc51, hQ51, l51, y51, z51⟩, st51⟩ := Jvm.LawKit.callS X0 hx (y := (⟨"java/lang/Math", "min", "(II)I"⟩ : MethodName)) hown (mvT hZ (hw _ (List.mem_of_getElem? (i := 0) rfl))) (mvT hZ (hw _ (List.mem_of_getElem? (i := 1) rfl))) (mvT hZ (hw _ (List.mem_of_getElem? (i := 2) rfl))) (mvT hZ (hw _ (List.mem_of_getElem? (i := 3) rfl))) (by decide) (backOf (W := 0) (rmMin l Z a0 hw [] p0 p1 h0 n0 Z0 ) hZ (hw _ (List.mem_of_getElem? (i := 3) rfl)) (hw _ (List.mem_of_getElem? (i := 2) rfl)) (by decide) (by decide)) (g := (mkF m 21 #[sI p0, sI p1, sI p2, sI p3, sJ p4, uS, sI p5, sI nn, sI sel, sI shf, uU, uU, uU, uU, uU, uU, uU, uU, uU, uU, uU, uU, uU, uU, uU, uU, uU, uU, uU] [(.int p1), (.int p0)])) rfl (by rw [hml]; rfl) (argsL := [(.int p0), (.int p1)]) (rest := []) (lenOf pd_rmMin rfl) rfl (by show 2 * 0 + _ ≤ _; exact Nat.le_of_eq rfl) (hb hby at_21) (fun _ _ => ⟨rfl, e0, (by decide : 0 + 0 ≤ _), (by decide : 0 + 0 ≤ _)⟩)
  dsimp only [Pt.U, Pt.locs, Pt.cells, Pt.slots] at X51 l51 y51 z51 st51 hQ51
  subst l51 y51 z51
  obtain ⟨lo1, rfl, -, N51, e51⟩ := hQ51
  refine OwnGo.pre (fun t k => st51 t k) ?_
  show OwnGo _ _ _ _ (T51.setTop (mkF m 24 #[sI p0, sI p1, sI p2, sI p3, sJ p4, uS, sI p5, sI nn, sI sel, sI shf, uU, uU, uU, uU, uU, uU, uU, uU, uU, uU, uU, uU, uU, uU, uU, uU, uU, uU, uU] [(.int lo1)]))
  have M51 := Fr.app N0 N51
  refine OwnGo.pre (fun t k => XS.iloadN X51.here hx rfl (hb hby at_24) rfl k) ?_
  show OwnGo _ _ _ _ (T51.setTop (mkF m 25 #[sI p0, sI p1, sI p2, sI p3, sJ p4, uS, sI p5, sI nn, sI sel, sI shf, uU, uU, uU, uU, uU, uU, uU, uU, uU, uU, uU, uU, uU, uU, uU, uU, uU, uU, uU] [(.int p2), (.int lo1)]))
  obtain ⟨_, _, ⟨T52, L52, k52, n52⟩, -, X52, ⟨Lc52, hQ52, l52, y52, z52⟩, st52⟩ := Jvm.LawKit.callS X51 hx (y := (⟨"java/lang/Math", "min", "(II)I"⟩ : MethodName)) hown (mvT hZ (hw _ (List.mem_of_getElem? (i := 0) rfl))) (mvT hZ (hw _ (List.mem_of_getElem? (i := 1) rfl))) (mvT hZ (hw _ (List.mem_of_getElem? (i := 2) rfl))) (mvT hZ (hw _ (List.mem_of_getElem? (i := 3) rfl))) (by decide) (backOf (W := 0) (rmMin l Z a0 hw [] lo1 p2 h0 n0 Z0 ) hZ (hw _ (List.mem_of_getElem? (i := 3) rfl)) (hw _ (List.mem_of_getElem? (i := 2) rfl)) (by decide) (by decide)) (g := (mkF m 25 #[sI p0, sI p1, sI p2, sI p3, sJ p4, uS, sI p5, sI nn, sI sel, sI shf, uU, uU, uU, uU, uU, uU, uU, uU, uU, uU, uU, uU, uU, uU, uU, uU, uU, uU, uU] [(.int p2), (.int lo1)])) rfl (by rw [hml]; rfl) (argsL := [(.int lo1), (.int p2)]) (rest := []) (lenOf pd_rmMin rfl) rfl (by show 2 * 0 + _ ≤ _; exact Nat.le_of_eq rfl) (hb hby at_25) (fun _ _ => ⟨rfl, e51, (by decide : 0 + 0 ≤ _), (by decide : 0 + 0 ≤ _)⟩)
  dsimp only [Pt.U, Pt.locs, Pt.cells, Pt.slots] at X52 l52 y52 z52 st52 hQ52
  subst l52 y52 z52
  obtain ⟨lo, rfl, -, N52, e52⟩ := hQ52
  refine OwnGo.pre (fun t k => st52 t k) ?_
  show OwnGo _ _ _ _ (T52.setTop (mkF m 28 #[sI p0, sI p1, sI p2, sI p3, sJ p4, uS, sI p5, sI nn, sI sel, sI shf, uU, uU, uU, uU, uU, uU, uU, uU, uU, uU, uU, uU, uU, uU, uU, uU, uU, uU, uU] [(.int lo)]))
  have M52 := Fr.app M51 N52
  refine OwnGo.pre (fun t k => XS.istore X52.here hx rfl (hb hby at_28) rfl (l' := #[sI p0, sI p1, sI p2, sI p3, sJ p4, uS, sI p5, sI nn, sI sel, sI shf, sI lo, uU, uU, uU, uU, uU, uU, uU, uU, uU, uU, uU, uU, uU, uU, uU, uU, uU, uU]) rfl (XS.iloadN X52.here hx rfl (hb hby at_30) rfl (XS.iloadN X52.here hx rfl (hb hby at_31) rfl k))) ?_
  show OwnGo _ _ _ _ (T52.setTop (mkF m 32 #[sI p0, sI p1, sI p2, sI p3, sJ p4, uS, sI p5, sI nn, sI sel, sI shf, sI lo, uU, uU, uU, uU, uU, uU, uU, uU, uU, uU, uU, uU, uU, uU, uU, uU, uU, uU] [(.int p1), (.int p0)]))
  obtain ⟨_, _, ⟨T53, L53, k53, n53⟩, -, X53, ⟨Lc53, hQ53, l53, y53, z53⟩, st53⟩ := Jvm.LawKit.callS X52 hx (y := (⟨"java/lang/Math", "max", "(II)I"⟩ : MethodName)) hown (mvT hZ (hw _ (List.mem_of_getElem? (i := 4) rfl))) (mvT hZ (hw _ (List.mem_of_getElem? (i := 5) rfl))) (mvT hZ (hw _ (List.mem_of_getElem? (i := 2) rfl))) (mvT hZ (hw _ (List.mem_of_getElem? (i := 6) rfl))) (by decide) (backOf (W := 0) (rmMax l Z a0 hw [] p0 p1 h0 n0 Z0 ) hZ (hw _ (List.mem_of_getElem? (i := 6) rfl)) (hw _ (List.mem_of_getElem? (i := 2) rfl)) (by decide) (by decide)) (g := (mkF m 32 #[sI p0, sI p1, sI p2, sI p3, sJ p4, uS, sI p5, sI nn, sI sel, sI shf, sI lo, uU, uU, uU, uU, uU, uU, uU, uU, uU, uU, uU, uU, uU, uU, uU, uU, uU, uU] [(.int p1), (.int p0)])) rfl (by rw [hml]; rfl) (argsL := [(.int p0), (.int p1)]) (rest := []) (lenOf pd_rmMax rfl) rfl (by show 2 * 0 + _ ≤ _; exact Nat.le_of_eq rfl) (hb hby at_32) (fun _ _ => ⟨rfl, e52, (by decide : 0 + 0 ≤ _), (by decide : 0 + 0 ≤ _)⟩)
  dsimp only [Pt.U, Pt.locs, Pt.cells, Pt.slots] at X53 l53 y53 z53 st53 hQ53
  subst l53 y53 z53
  obtain ⟨hi1, rfl, -, N53, e53⟩ := hQ53
  refine OwnGo.pre (fun t k => st53 t k) ?_
  show OwnGo _ _ _ _ (T53.setTop (mkF m 35 #[sI p0, sI p1, sI p2, sI p3, sJ p4, uS, sI p5, sI nn, sI sel, sI shf, sI lo, uU, uU, uU, uU, uU, uU, uU, uU, uU, uU, uU, uU, uU, uU, uU, uU, uU, uU] [(.int hi1)]))
  have M53 := Fr.app M52 N53
  refine OwnGo.pre (fun t k => XS.iloadN X53.here hx rfl (hb hby at_35) rfl k) ?_
  show OwnGo _ _ _ _ (T53.setTop (mkF m 36 #[sI p0, sI p1, sI p2, sI p3, sJ p4, uS, sI p5, sI nn, sI sel, sI shf, sI lo, uU, uU, uU, uU, uU, uU, uU, uU, uU, uU, uU, uU, uU, uU, uU, uU, uU, uU] [(.int p2), (.int hi1)]))
  obtain ⟨_, _, ⟨T54, L54, k54, n54⟩, -, X54, ⟨Lc54, hQ54, l54, y54, z54⟩, st54⟩ := Jvm.LawKit.callS X53 hx (y := (⟨"java/lang/Math", "max", "(II)I"⟩ : MethodName)) hown (mvT hZ (hw _ (List.mem_of_getElem? (i := 4) rfl))) (mvT hZ (hw _ (List.mem_of_getElem? (i := 5) rfl))) (mvT hZ (hw _ (List.mem_of_getElem? (i := 2) rfl))) (mvT hZ (hw _ (List.mem_of_getElem? (i := 6) rfl))) (by decide) (backOf (W := 0) (rmMax l Z a0 hw [] hi1 p2 h0 n0 Z0 ) hZ (hw _ (List.mem_of_getElem? (i := 6) rfl)) (hw _ (List.mem_of_getElem? (i := 2) rfl)) (by decide) (by decide)) (g := (mkF m 36 #[sI p0, sI p1, sI p2, sI p3, sJ p4, uS, sI p5, sI nn, sI sel, sI shf, sI lo, uU, uU, uU, uU, uU, uU, uU, uU, uU, uU, uU, uU, uU, uU, uU, uU, uU, uU] [(.int p2), (.int hi1)])) rfl (by rw [hml]; rfl) (argsL := [(.int hi1), (.int p2)]) (rest := []) (lenOf pd_rmMax rfl) rfl (by show 2 * 0 + _ ≤ _; exact Nat.le_of_eq rfl) (hb hby at_36) (fun _ _ => ⟨rfl, e53, (by decide : 0 + 0 ≤ _), (by decide : 0 + 0 ≤ _)⟩)
  dsimp only [Pt.U, Pt.locs, Pt.cells, Pt.slots] at X54 l54 y54 z54 st54 hQ54
  subst l54 y54 z54
  obtain ⟨hi, rfl, -, N54, e54⟩ := hQ54
  refine OwnGo.pre (fun t k => st54 t k) ?_
  show OwnGo _ _ _ _ (T54.setTop (mkF m 39 #[sI p0, sI p1, sI p2, sI p3, sJ p4, uS, sI p5, sI nn, sI sel, sI shf, sI lo, uU, uU, uU, uU, uU, uU, uU, uU, uU, uU, uU, uU, uU, uU, uU, uU, uU, uU] [(.int hi)]))
  have M54 := Fr.app M53 N54
  refine OwnGo.pre (fun t k => XS.istore X54.here hx rfl (hb hby at_39) rfl (l' := #[sI p0, sI p1, sI p2, sI p3, sJ p4, uS, sI p5, sI nn, sI sel, sI shf, sI lo, sI hi, uU, uU, uU, uU, uU, uU, uU, uU, uU, uU, uU, uU, uU, uU, uU, uU, uU]) rfl (XS.iloadN X54.here hx rfl (hb hby at_41) rfl (XS.iloadN X54.here hx rfl (hb hby at_42) rfl (own_iadd X54.here hx rfl (hb hby at_43) rfl rfl (XS.iloadN X54.here hx rfl (hb hby at_44) rfl (own_iadd X54.here hx rfl (hb hby at_45) rfl rfl (XS.iload X54.here hx rfl (hb hby at_46) rfl (own_isub X54.here hx rfl (hb hby at_48) rfl rfl k)))))))) ?_
  show OwnGo _ _ _ _ (T54.setTop (mkF m 49 #[sI p0, sI p1, sI p2, sI p3, sJ p4, uS, sI p5, sI nn, sI sel, sI shf, sI lo, sI hi, uU, uU, uU, uU, uU, uU, uU, uU, uU, uU, uU, uU, uU, uU, uU, uU, uU] [(.int (((p0 + p1) + p2) - lo))]))
  obtain ⟨mi, hmi⟩ : ∃ v, (((p0 + p1) + p2) - lo) - hi = v := ⟨_, rfl⟩
  refine OwnGo.pre (fun t k => XS.iload X54.here hx rfl (hb hby at_49) rfl (own_isub X54.here hx rfl (hb hby at_51) rfl hmi (XS.istore X54.here hx rfl (hb hby at_52) rfl (l' := #[sI p0, sI p1, sI p2, sI p3, sJ p4, uS, sI p5, sI nn, sI sel, sI shf, sI lo, sI hi, sI mi, uU, uU, uU, uU, uU, uU, uU, uU, uU, uU, uU, uU, uU, uU, uU, uU]) rfl (XS.iload X54.here hx rfl (hb hby at_54) rfl (XS.istore X54.here hx rfl (hb hby at_56) rfl (l' := #[sI p0, sI p1, sI p2, sI p3, sJ p4, uS, sI p5, sI nn, sI sel, sI shf, sI lo, sI hi, sI mi, sI lo, uU, uU, uU, uU, uU, uU, uU, uU, uU, uU, uU, uU, uU, uU, uU]) rfl (XS.iload X54.here hx rfl (hb hby at_58) rfl (XS.istore X54.here hx rfl (hb hby at_60) rfl (l' := #[sI p0, sI p1, sI p2, sI p3, sJ p4, uS, sI p5, sI nn, sI sel, sI shf, sI lo, sI hi, sI mi, sI lo, sI mi, uU, uU, uU, uU, uU, uU, uU, uU, uU, uU, uU, uU, uU, uU]) rfl (XS.iload X54.here hx rfl (hb hby at_62) rfl k)))))))) ?_
  show OwnGo _ _ _ _ (T54.setTop (mkF m 64 #[sI p0, sI p1, sI p2, sI p3, sJ p4, uS, sI p5, sI nn, sI sel, sI shf, sI lo, sI hi, sI mi, sI lo, sI mi, uU, uU, uU, uU, uU, uU, uU, uU, uU, uU, uU, uU, uU, uU] [(.int hi)]))
  refine OwnGo.pre (fun t k => XS.istore X54.here hx rfl (hb hby at_64) rfl (l' := #[sI p0, sI p1, sI p2, sI p3, sJ p4, uS, sI p5, sI nn, sI sel, sI shf, sI lo, sI hi, sI mi, sI lo, sI mi, sI hi, uU, uU, uU, uU, uU, uU, uU, uU, uU, uU, uU, uU, uU]) rfl (XS.iload X54.here hx rfl (hb hby at_66) rfl (XS.iconst X54.here hx rfl (hb hby at_68) k))) ?_
  show OwnGo _ _ _ _ (T54.setTop (mkF m 69 #[sI p0, sI p1, sI p2, sI p3, sJ p4, uS, sI p5, sI nn, sI sel, sI shf, sI lo, sI hi, sI mi, sI lo, sI mi, sI hi, uU, uU, uU, uU, uU, uU, uU, uU, uU, uU, uU, uU, uU] [(.int (2 : Int32)), (.int nn)]))
  rcases cnn with rfl | rfl | rfl | rfl
  · skip
    show OwnGo _ _ _ _ (T54.setTop (mkF m 69 #[sI p0, sI p1, sI p2, sI p3, sJ p4, uS, sI p5, sI (0 : Int32), sI sel, sI shf, sI lo, sI hi, sI mi, sI lo, sI mi, sI hi, uU, uU, uU, uU, uU, uU, uU, uU, uU, uU, uU, uU, uU] [(.int (2 : Int32)), (.int (0 : Int32))]))
    obtain ⟨dA, hdA⟩ : ∃ v, FP.i2d p4.toInt32 = v := ⟨_, rfl⟩
    refine OwnGo.pre (fun t k => XS.icmpYes X54.here hx rfl (pc0 := 69) (pc' := 81) rfl (hb hby at_69) rfl (by decide) (by decide) (by decide) (XS.iload X54.here hx rfl (hb hby at_81) rfl (XS.iconst X54.here hx rfl (hb hby at_83) (XS.icmpYes X54.here hx rfl (pc0 := 84) (pc' := 96) rfl (hb hby at_84) rfl (by decide) (by decide) (by decide) (XT.lload X54.here hx rfl (hb hby at_96) rfl (own_l2i X54.here hx rfl (hb hby at_98) rfl rfl (XS.i2dS X54.here hx rfl (hb hby at_99) rfl hdA (XS.dstore X54.here hx rfl (hb hby at_100) rfl (l' := #[sI p0, sI p1, sI p2, sI p3, sJ p4, uS, sI p5, sI (0 : Int32), sI sel, sI shf, sI lo, sI hi, sI mi, sI lo, sI mi, sI hi, sD dA, uS, uU, uU, uU, uU, uU, uU, uU, uU, uU, uU, uU]) rfl k)))))))) ?_
    show OwnGo _ _ _ _ (T54.setTop (mkF m 102 #[sI p0, sI p1, sI p2, sI p3, sJ p4, uS, sI p5, sI (0 : Int32), sI sel, sI shf, sI lo, sI hi, sI mi, sI lo, sI mi, sI hi, sD dA, uS, uU, uU, uU, uU, uU, uU, uU, uU, uU, uU, uU] []))
    obtain ⟨dB, hdB⟩ : ∃ v, FP.i2d ((XT.ushrL p4 (32 : Int32)).toInt32) = v := ⟨_, rfl⟩
    obtain ⟨dC, hdC⟩ : ∃ v, FP.i2d p5 = v := ⟨_, rfl⟩
    refine OwnGo.pre (fun t k => XT.lload X54.here hx rfl (hb hby at_102) rfl (XS.bipush X54.here hx rfl (hb hby at_104) (own_lushr X54.here hx rfl (hb hby at_106) rfl rfl (own_l2i X54.here hx rfl (hb hby at_107) rfl rfl (XS.i2dS X54.here hx rfl (hb hby at_108) rfl hdB (XS.dstore X54.here hx rfl (hb hby at_109) rfl (l' := #[sI p0, sI p1, sI p2, sI p3, sJ p4, uS, sI p5, sI (0 : Int32), sI sel, sI shf, sI lo, sI hi, sI mi, sI lo, sI mi, sI hi, sD dA, uS, sD dB, uS, uU, uU, uU, uU, uU, uU, uU, uU, uU]) rfl (XS.iload X54.here hx rfl (hb hby at_111) rfl (XS.i2dS X54.here hx rfl (hb hby at_113) rfl hdC k)))))))) ?_
    show OwnGo _ _ _ _ (T54.setTop (mkF m 114 #[sI p0, sI p1, sI p2, sI p3, sJ p4, uS, sI p5, sI (0 : Int32), sI sel, sI shf, sI lo, sI hi, sI mi, sI lo, sI mi, sI hi, sD dA, uS, sD dB, uS, uU, uU, uU, uU, uU, uU, uU, uU, uU] [(.double dC)]))
    have nA : Jvm.Free.Fl.NoNaN64 dA := hdA ▸ own_nn (own_i2d _)
    have nB : Jvm.Free.Fl.NoNaN64 dB := hdB ▸ own_nn (own_i2d _)
    have nC : Jvm.Free.Fl.NoNaN64 dC := hdC ▸ own_nn (own_i2d _)
    refine OwnGo.pre (fun t k => XS.dstore X54.here hx rfl (hb hby at_114) rfl (l' := #[sI p0, sI p1, sI p2, sI p3, sJ p4, uS, sI p5, sI (0 : Int32), sI sel, sI shf, sI lo, sI hi, sI mi, sI lo, sI mi, sI hi, sD dA, uS, sD dB, uS, sD dC, uS, uU, uU, uU, uU, uU, uU, uU]) rfl (XS.iload X54.here hx rfl (hb hby at_116) rfl k)) ?_
    show OwnGo _ _ _ _ (T54.setTop (mkF m 118 #[sI p0, sI p1, sI p2, sI p3, sJ p4, uS, sI p5, sI (0 : Int32), sI sel, sI shf, sI lo, sI hi, sI mi, sI lo, sI mi, sI hi, sD dA, uS, sD dB, uS, sD dC, uS, uU, uU, uU, uU, uU, uU, uU] [(.int (0 : Int32))]))
    obtain ⟨T55, h55, X55, e55, E55, A55, Q55, st55⟩ := own_newIX X54 hx hZ (hw _ (List.mem_of_getElem? (i := 7) rfl)) e54 (g := (mkF m 118 #[sI p0, sI p1, sI p2, sI p3, sJ p4, uS, sI p5, sI (0 : Int32), sI sel, sI shf, sI lo, sI hi, sI mi, sI lo, sI mi, sI hi, sD dA, uS, sD dB, uS, sD dC, uS, uU, uU, uU, uU, uU, uU, uU] [(.int (0 : Int32))])) rfl (hb hby at_118) rfl (by decide) (n := 0) (by decide) (by decide) (by decide) (by decide)
    obtain ⟨a55, g55⟩ : ∃ z, z = h0.size := ⟨_, rfl⟩
    rw [← g55] at A55 Q55 st55
    have G55 : n0 ≤ a55 := Nat.le_trans Z0 (Nat.le_of_eq g55.symm)
    have Z55 : n0 ≤ h55.size := Nat.le_trans Z0 E55.1
    refine OwnGo.pre (fun t k => st55 t k) ?_
    show OwnGo _ _ _ _ (T55.setTop (mkF m 120 #[sI p0, sI p1, sI p2, sI p3, sJ p4, uS, sI p5, sI (0 : Int32), sI sel, sI shf, sI lo, sI hi, sI mi, sI lo, sI mi, sI hi, sD dA, uS, sD dB, uS, sD dC, uS, uU, uU, uU, uU, uU, uU, uU] [(.ref a55)]))
    have A55n : OwnIA Z h55 a55 [] := A55
    refine OwnGo.pre (fun t k => XS.astore X55.here hx rfl (hb hby at_120) rfl rfl (l' := #[sI p0, sI p1, sI p2, sI p3, sJ p4, uS, sI p5, sI (0 : Int32), sI sel, sI shf, sI lo, sI hi, sI mi, sI lo, sI mi, sI hi, sD dA, uS, sD dB, uS, sD dC, uS, sR a55, uU, uU, uU, uU, uU, uU]) rfl (XS.iload X55.here hx rfl (hb hby at_122) rfl k)) ?_
    show OwnGo _ _ _ _ (T55.setTop (mkF m 124 #[sI p0, sI p1, sI p2, sI p3, sJ p4, uS, sI p5, sI (0 : Int32), sI sel, sI shf, sI lo, sI hi, sI mi, sI lo, sI mi, sI hi, sD dA, uS, sD dB, uS, sD dC, uS, sR a55, uU, uU, uU, uU, uU, uU] [(.int (0 : Int32))]))
    obtain ⟨T56, h56, X56, e56, E56, A56, Q56, st56⟩ := own_newDX X55 hx hZ (hw _ (List.mem_of_getElem? (i := 8) rfl)) e55 (g := (mkF m 124 #[sI p0, sI p1, sI p2, sI p3, sJ p4, uS, sI p5, sI (0 : Int32), sI sel, sI shf, sI lo, sI hi, sI mi, sI lo, sI mi, sI hi, sD dA, uS, sD dB, uS, sD dC, uS, sR a55, uU, uU, uU, uU, uU, uU] [(.int (0 : Int32))])) rfl (hb hby at_124) rfl (by decide) (n := 0) (by decide) (by decide) (by decide) (by decide)
    obtain ⟨a56, g56⟩ : ∃ z, z = h55.size := ⟨_, rfl⟩
    rw [← g56] at A56 Q56 st56
    have G56 : n0 ≤ a56 := Nat.le_trans Z55 (Nat.le_of_eq g56.symm)
    have Z56 : n0 ≤ h56.size := Nat.le_trans Z55 E56.1
    refine OwnGo.pre (fun t k => st56 t k) ?_
    show OwnGo _ _ _ _ (T56.setTop (mkF m 126 #[sI p0, sI p1, sI p2, sI p3, sJ p4, uS, sI p5, sI (0 : Int32), sI sel, sI shf, sI lo, sI hi, sI mi, sI lo, sI mi, sI hi, sD dA, uS, sD dB, uS, sD dC, uS, sR a55, uU, uU, uU, uU, uU, uU] [(.ref a56)]))
    have A56n : OwnDA Z h56 a56 [] := A56
    have ne12 : a55 ≠ a56 := (Nat.ne_of_lt (Nat.lt_of_lt_of_le A55.lt (Nat.le_of_eq g56.symm)))
    have Ai := A55n.ex E56
    have Qi := Q55.ext E56
    refine OwnGo.pre (fun t k => XS.astore X56.here hx rfl (hb hby at_126) rfl rfl (l' := #[sI p0, sI p1, sI p2, sI p3, sJ p4, uS, sI p5, sI (0 : Int32), sI sel, sI shf, sI lo, sI hi, sI mi, sI lo, sI mi, sI hi, sD dA, uS, sD dB, uS, sD dC, uS, sR a55, sR a56, uU, uU, uU, uU, uU]) rfl (XS.iload X56.here hx rfl (hb hby at_128) rfl (XS.ifYes X56.here hx rfl (pc0 := 130) (pc' := 145) rfl (hb hby at_130) rfl (by decide) (by decide) (by decide) (XS.iload X56.here hx rfl (hb hby at_145) rfl (XS.iconst X56.here hx rfl (hb hby at_147) (XS.icmpYes X56.here hx rfl (pc0 := 148) (pc' := 163) rfl (hb hby at_148) rfl (by decide) (by decide) (by decide) (XS.iload X56.here hx rfl (hb hby at_163) rfl (XS.iconst X56.here hx rfl (hb hby at_165) k)))))))) ?_
    show OwnGo _ _ _ _ (T56.setTop (mkF m 166 #[sI p0, sI p1, sI p2, sI p3, sJ p4, uS, sI p5, sI (0 : Int32), sI sel, sI shf, sI lo, sI hi, sI mi, sI lo, sI mi, sI hi, sD dA, uS, sD dB, uS, sD dC, uS, sR a55, sR a56, uU, uU, uU, uU, uU] [(.int (2 : Int32)), (.int (0 : Int32))]))
    refine OwnGo.pre (fun t k => XS.icmpYes X56.here hx rfl (pc0 := 166) (pc' := 181) rfl (hb hby at_166) rfl (by decide) (by decide) (by decide) k) ?_
    show OwnGo _ _ _ _ (T56.setTop (mkF m 181 #[sI p0, sI p1, sI p2, sI p3, sJ p4, uS, sI p5, sI (0 : Int32), sI sel, sI shf, sI lo, sI hi, sI mi, sI lo, sI mi, sI hi, sD dA, uS, sD dB, uS, sD dC, uS, sR a55, sR a56, uU, uU, uU, uU, uU] []))
    obtain ⟨T57, h57, X57, e57, E57, A57, D57, -, st57⟩ := newO X56 hx hZ hown (hw _ (List.mem_of_getElem? (i := 9) rfl)) (hw _ (List.mem_of_getElem? (i := 10) rfl)) (hw _ (List.mem_of_getElem? (i := 11) rfl)) e56 (g := (mkF m 181 #[sI p0, sI p1, sI p2, sI p3, sJ p4, uS, sI p5, sI (0 : Int32), sI sel, sI shf, sI lo, sI hi, sI mi, sI lo, sI mi, sI hi, sD dA, uS, sD dB, uS, sD dC, uS, sR a55, sR a56, uU, uU, uU, uU, uU] [])) rfl (hb hby at_181) (by decide) (by decide)
    obtain ⟨a57, g57⟩ : ∃ z, z = h56.size := ⟨_, rfl⟩
    rw [← g57] at A57 D57 st57
    have G57 : n0 ≤ a57 := Nat.le_trans Z56 (Nat.le_of_eq g57.symm)
    have Z57 : n0 ≤ h57.size := Nat.le_trans Z56 E57.1
    refine OwnGo.pre (fun t k => st57 t k) ?_
    show OwnGo _ _ _ _ (T57.setTop (mkF m 184 #[sI p0, sI p1, sI p2, sI p3, sJ p4, uS, sI p5, sI (0 : Int32), sI sel, sI shf, sI lo, sI hi, sI mi, sI lo, sI mi, sI hi, sD dA, uS, sD dB, uS, sD dC, uS, sR a55, sR a56, uU, uU, uU, uU, uU] [(.ref a57)]))
    have Ai9 := Ai.ex E57
    have Qi9 := Qi.ext E57
    have Ad9 := A56n.ex E57
    have Qd9 := Q56.ext E57
    have nio : a55 ≠ a57 := (Nat.ne_of_lt (Nat.lt_of_lt_of_le Ai.lt (Nat.le_of_eq g57.symm)))
    have ndo : a56 ≠ a57 := (Nat.ne_of_lt (Nat.lt_of_lt_of_le A56n.lt (Nat.le_of_eq g57.symm)))
    refine OwnGo.pre (fun t k => XS.dup X57.here hx rfl (hb hby at_184) rfl rfl (XS.aload X57.here hx rfl (hb hby at_185) rfl rfl (XS.aload X57.here hx rfl (hb hby at_187) rfl rfl k))) ?_
    show OwnGo _ _ _ _ (T57.setTop (mkF m 189 #[sI p0, sI p1, sI p2, sI p3, sJ p4, uS, sI p5, sI (0 : Int32), sI sel, sI shf, sI lo, sI hi, sI mi, sI lo, sI mi, sI hi, sD dA, uS, sD dB, uS, sD dC, uS, sR a55, sR a56, uU, uU, uU, uU, uU] [(.ref a56), (.ref a55), (.ref a57), (.ref a57)]))
    obtain ⟨_, _, ⟨T58, L58, k58, n58⟩, -, X58, ⟨Lc58, hQ58, l58, y58, z58⟩, st58⟩ := X57.specialBack hx (y := (⟨"com/example/clausewright/clausewright/learning/ClauseModel$Weights", "<init>", "([I[D)V"⟩ : MethodName)) rfl hown (mvT hZ (hw _ (List.mem_of_getElem? (i := 12) rfl))) (mvT hZ (hw _ (List.mem_of_getElem? (i := 13) rfl))) (mvT hZ (hw _ (List.mem_of_getElem? (i := 14) rfl))) (by decide) (backOf (W := 1) (rmI0 l Z a0 hw [] a57 a55 a56  h57 n0 Z57 A57 (D57 (Or.inr (hw _ (List.mem_of_getElem? (i := 28) rfl))) (ty := (.array .int)) (by decide)) (D57 (Or.inr (hw _ (List.mem_of_getElem? (i := 36) rfl))) (ty := (.array .double)) (by decide)) G57 Ai9 Qi9 Ad9 Qd9 ndo) hZ (hw _ (List.mem_of_getElem? (i := 14) rfl)) (hw _ (List.mem_of_getElem? (i := 11) rfl)) (by decide) (by decide)) (g := (mkF m 189 #[sI p0, sI p1, sI p2, sI p3, sJ p4, uS, sI p5, sI (0 : Int32), sI sel, sI shf, sI lo, sI hi, sI mi, sI lo, sI mi, sI hi, sD dA, uS, sD dB, uS, sD dC, uS, sR a55, sR a56, uU, uU, uU, uU, uU] [(.ref a56), (.ref a55), (.ref a57), (.ref a57)])) rfl (by rw [hml]; rfl) (Steps.refl _) (a := a57) (argsL := [(.ref a55), (.ref a56)]) (rest := [(.ref a57)]) (lenOf pd_rmI0 rfl) rfl (by show 2 * 0 + _ ≤ _; exact Nat.le_of_eq rfl) (hb hby at_189) (fun _ _ => ⟨rfl, e57, (by decide : 3 + 2 ≤ _), (by decide : 2 + 0 ≤ _)⟩)
    dsimp only [Pt.U, Pt.locs, Pt.cells, Pt.slots] at X58 l58 y58 z58 st58 hQ58
    subst l58 y58 z58
    obtain ⟨ac, av, rfl, N58, K58, Z58, E58, F0, F1, Ac, Av⟩ := hQ58
    refine OwnGo.pre (fun t k => st58.trans k) ?_
    show OwnGo _ _ _ _ (T58.setTop (mkF m 192 #[sI p0, sI p1, sI p2, sI p3, sJ p4, uS, sI p5, sI (0 : Int32), sI sel, sI shf, sI lo, sI hi, sI mi, sI lo, sI mi, sI hi, sD dA, uS, sD dB, uS, sD dC, uS, sR a55, sR a56, uU, uU, uU, uU, uU] [(.ref a57)]))
    have M58 := Fr.app M54 N58
    have Aj := Ai9.kp K58 (ninS nio nin0)
    refine OwnGo.pre (fun t k => XS.astore X58.here hx rfl (hb hby at_192) rfl rfl (l' := #[sI p0, sI p1, sI p2, sI p3, sJ p4, uS, sI p5, sI (0 : Int32), sI sel, sI shf, sI lo, sI hi, sI mi, sI lo, sI mi, sI hi, sD dA, uS, sD dB, uS, sD dC, uS, sR a55, sR a56, sR a57, uU, uU, uU, uU]) rfl (XS.iload X58.here hx rfl (hb hby at_194) rfl (XS.iload X58.here hx rfl (hb hby at_196) rfl k))) ?_
    show OwnGo _ _ _ _ (T58.setTop (mkF m 198 #[sI p0, sI p1, sI p2, sI p3, sJ p4, uS, sI p5, sI (0 : Int32), sI sel, sI shf, sI lo, sI hi, sI mi, sI lo, sI mi, sI hi, sD dA, uS, sD dB, uS, sD dC, uS, sR a55, sR a56, sR a57, uU, uU, uU, uU] [(.int (0 : Int32)), (.int sel)]))
    have K240 : ∀ (se ba q : Int32), OwnGo p.tables e below (OwnEnd s (Q_rmL Z p0 p1 p2 p3 p4 p5 h0 n0) room_1.cells room_1.slots) (T58.setTop (mkF m 240 #[sI p0, sI p1, sI p2, sI p3, sJ p4, uS, sI p5, sI (0 : Int32), sI se, sI shf, sI lo, sI hi, sI mi, sI lo, sI mi, sI hi, sD dA, uS, sD dB, uS, sD dC, uS, sR a55, sR a56, sR a57, sI ba, uU, uU, uU] [(.int q)])) := by
      intro se ba q
      refine OwnGo.pre (fun t k => XS.istore X58.here hx rfl (hb hby at_240) rfl (l' := #[sI p0, sI p1, sI p2, sI p3, sJ p4, uS, sI p5, sI (0 : Int32), sI se, sI shf, sI lo, sI hi, sI mi, sI lo, sI mi, sI hi, sD dA, uS, sD dB, uS, sD dC, uS, sR a55, sR a56, sR a57, sI ba, sI q, uU, uU]) rfl (XS.dconst0 X58.here hx rfl (hb hby at_242) rfl (XS.dstore X58.here hx rfl (hb hby at_243) rfl (l' := #[sI p0, sI p1, sI p2, sI p3, sJ p4, uS, sI p5, sI (0 : Int32), sI se, sI shf, sI lo, sI hi, sI mi, sI lo, sI mi, sI hi, sD dA, uS, sD dB, uS, sD dC, uS, sR a55, sR a56, sR a57, sI ba, sI q, sD (0 : UInt64), uS]) rfl (XS.iload X58.here hx rfl (hb hby at_245) rfl (XS.iconst X58.here hx rfl (hb hby at_247) (XS.icmpYes X58.here hx rfl (pc0 := 248) (pc' := 262) rfl (hb hby at_248) rfl (by decide) (by decide) (by decide) (XS.iload X58.here hx rfl (hb hby at_262) rfl (XS.iconst X58.here hx rfl (hb hby at_264) k)))))))) ?_
      show OwnGo _ _ _ _ (T58.setTop (mkF m 265 #[sI p0, sI p1, sI p2, sI p3, sJ p4, uS, sI p5, sI (0 : Int32), sI se, sI shf, sI lo, sI hi, sI mi, sI lo, sI mi, sI hi, sD dA, uS, sD dB, uS, sD dC, uS, sR a55, sR a56, sR a57, sI ba, sI q, sD (0 : UInt64), uS] [(.int (1 : Int32)), (.int (0 : Int32))]))
      refine OwnGo.pre (fun t k => XS.icmpYes X58.here hx rfl (pc0 := 265) (pc' := 279) rfl (hb hby at_265) rfl (by decide) (by decide) (by decide) (XS.iload X58.here hx rfl (hb hby at_279) rfl (XS.ifYes X58.here hx rfl (pc0 := 281) (pc' := 295) rfl (hb hby at_281) rfl (by decide) (by decide) (by decide) (XS.aload X58.here hx rfl (hb hby at_295) rfl rfl (XS.iload X58.here hx rfl (hb hby at_297) rfl k))))) ?_
      show OwnGo _ _ _ _ (T58.setTop (mkF m 299 #[sI p0, sI p1, sI p2, sI p3, sJ p4, uS, sI p5, sI (0 : Int32), sI se, sI shf, sI lo, sI hi, sI mi, sI lo, sI mi, sI hi, sD dA, uS, sD dB, uS, sD dC, uS, sR a55, sR a56, sR a57, sI ba, sI q, sD (0 : UInt64), uS] [(.int q), (.ref a57)]))
      obtain ⟨cq59, kq59, qa59, qb59, qc59⟩ := isOf hZ rfl E58
      obtain ⟨_, _, ⟨T59, L59, k59, n59⟩, -, X59, ⟨Lc59, hQ59, l59, y59, z59⟩, st59⟩ := X58.virtualBack hx (y := (⟨"com/example/clausewright/clausewright/learning/ClauseModel$Weights", "valueIn", "(I)D"⟩ : MethodName)) (z := (⟨"com/example/clausewright/clausewright/learning/ClauseModel$Weights", "valueIn", "(I)D"⟩ : MethodName)) hown (mvT hZ (hw _ (List.mem_of_getElem? (i := 37) rfl))) (mvT hZ (hw _ (List.mem_of_getElem? (i := 38) rfl))) (notFace_of_selects (args := #[]) (mvT hZ (hw _ (List.mem_of_getElem? (i := 40) rfl)))) (mvT hZ (hw _ (List.mem_of_getElem? (i := 40) rfl))) (mvT hZ (hw _ (List.mem_of_getElem? (i := 39) rfl))) (by decide) (backOf (W := 0) (rmV0 l Z a0 hw [] a57 ac av  q T58.heap n0 Z58 F0 F1 Ac Av) hZ (hw _ (List.mem_of_getElem? (i := 41) rfl)) (hw _ (List.mem_of_getElem? (i := 11) rfl)) (by decide) (by decide)) qa59 qc59 (g := (mkF m 299 #[sI p0, sI p1, sI p2, sI p3, sJ p4, uS, sI p5, sI (0 : Int32), sI se, sI shf, sI lo, sI hi, sI mi, sI lo, sI mi, sI hi, sD dA, uS, sD dB, uS, sD dC, uS, sR a55, sR a56, sR a57, sI ba, sI q, sD (0 : UInt64), uS] [(.int q), (.ref a57)])) rfl (by rw [hml]; rfl) (Steps.refl _) (argsL := [(.int q)]) (rest := []) (lenOf pd_rmV0 rfl) rfl (by show 2 * 0 + _ ≤ _; exact Nat.le_of_eq rfl) (hb hby at_299) (fun _ _ => ⟨rfl, rfl, (by decide : 5 + 0 ≤ _), (by decide : 2 + 0 ≤ _)⟩)
      dsimp only [Pt.U, Pt.locs, Pt.cells, Pt.slots] at X59 l59 y59 z59 st59 hQ59
      subst l59 y59 z59
      obtain ⟨rr, rfl, hr, N59, e59⟩ := hQ59
      refine OwnGo.pre (fun t k => st59.trans k) ?_
      show OwnGo _ _ _ _ (T59.setTop (mkF m 302 #[sI p0, sI p1, sI p2, sI p3, sJ p4, uS, sI p5, sI (0 : Int32), sI se, sI shf, sI lo, sI hi, sI mi, sI lo, sI mi, sI hi, sD dA, uS, sD dB, uS, sD dC, uS, sR a55, sR a56, sR a57, sI ba, sI q, sD (0 : UInt64), uS] [(.double rr)]))
      have M59 := Fr.app M58 N59
      have er : rr = 0 := hr
      refine OwnGo.pre (fun t k => XS.dload X59.here hx rfl (hb hby at_302) rfl (XS.dcmpS X59.here hx rfl (hb hby at_304) rfl rfl (XS.ifNo X59.here hx rfl (hb hby at_305) rfl (by rw [er, dcmpV_self own_nn0]; rfl) (XS.iconst X59.here hx rfl (hb hby at_308) (XS.goto X59.here hx rfl (pc0 := 309) (pc' := 313) rfl (hb hby at_309) (by decide) (by decide) k))))) ?_
      show OwnGo _ _ _ _ (T59.setTop (mkF m 313 #[sI p0, sI p1, sI p2, sI p3, sJ p4, uS, sI p5, sI (0 : Int32), sI se, sI shf, sI lo, sI hi, sI mi, sI lo, sI mi, sI hi, sD dA, uS, sD dB, uS, sD dC, uS, sR a55, sR a56, sR a57, sI ba, sI q, sD (0 : UInt64), uS] [(.int (1 : Int32))]))
      exact own_retZ X59 hx hk hrt (hb hby at_313) ⟨rfl, M59⟩ (by decide) (by decide)
    rcases csel with rfl | rfl | rfl | rfl
    · skip
      show OwnGo _ _ _ _ (T58.setTop (mkF m 198 #[sI p0, sI p1, sI p2, sI p3, sJ p4, uS, sI p5, sI (0 : Int32), sI (0 : Int32), sI shf, sI lo, sI hi, sI mi, sI lo, sI mi, sI hi, sD dA, uS, sD dB, uS, sD dC, uS, sR a55, sR a56, sR a57, uU, uU, uU, uU] [(.int (0 : Int32)), (.int (0 : Int32))]))
      refine OwnGo.pre (fun t k => XS.icmpYes X58.here hx rfl (pc0 := 198) (pc' := 209) rfl (hb hby at_198) rfl (by decide) (by decide) (by decide) (XS.iloadN X58.here hx rfl (hb hby at_209) rfl (XS.istore X58.here hx rfl (hb hby at_210) rfl (l' := #[sI p0, sI p1, sI p2, sI p3, sJ p4, uS, sI p5, sI (0 : Int32), sI (0 : Int32), sI shf, sI lo, sI hi, sI mi, sI lo, sI mi, sI hi, sD dA, uS, sD dB, uS, sD dC, uS, sR a55, sR a56, sR a57, sI p0, uU, uU, uU]) rfl (XS.iload X58.here hx rfl (hb hby at_212) rfl (XS.iconst X58.here hx rfl (hb hby at_214) k))))) ?_
      show OwnGo _ _ _ _ (T58.setTop (mkF m 215 #[sI p0, sI p1, sI p2, sI p3, sJ p4, uS, sI p5, sI (0 : Int32), sI (0 : Int32), sI shf, sI lo, sI hi, sI mi, sI lo, sI mi, sI hi, sD dA, uS, sD dB, uS, sD dC, uS, sR a55, sR a56, sR a57, sI p0, uU, uU, uU] [(.int (1 : Int32)), (.int shf)]))
      by_cases hs1 : if_icmp.holds .ne shf 1 = true
      · skip
        refine OwnGo.pre (fun t k => XS.icmpYes X58.here hx rfl (pc0 := 215) (pc' := 225) rfl (hb hby at_215) rfl hs1 (by decide) (by decide) (XS.iload X58.here hx rfl (hb hby at_225) rfl (XS.iconst X58.here hx rfl (hb hby at_227) k))) ?_
        show OwnGo _ _ _ _ (T58.setTop (mkF m 228 #[sI p0, sI p1, sI p2, sI p3, sJ p4, uS, sI p5, sI (0 : Int32), sI (0 : Int32), sI shf, sI lo, sI hi, sI mi, sI lo, sI mi, sI hi, sD dA, uS, sD dB, uS, sD dC, uS, sR a55, sR a56, sR a57, sI p0, uU, uU, uU] [(.int (2 : Int32)), (.int shf)]))
        by_cases hs2 : if_icmp.holds .ne shf 2 = true
        · skip
          refine OwnGo.pre (fun t k => XS.icmpYes X58.here hx rfl (pc0 := 228) (pc' := 238) rfl (hb hby at_228) rfl hs2 (by decide) (by decide) (XS.iload X58.here hx rfl (hb hby at_238) rfl k)) ?_
          show OwnGo _ _ _ _ (T58.setTop (mkF m 240 #[sI p0, sI p1, sI p2, sI p3, sJ p4, uS, sI p5, sI (0 : Int32), sI (0 : Int32), sI shf, sI lo, sI hi, sI mi, sI lo, sI mi, sI hi, sD dA, uS, sD dB, uS, sD dC, uS, sR a55, sR a56, sR a57, sI p0, uU, uU, uU] [(.int p0)]))
          exact K240 _ _ _
        · skip
          refine OwnGo.pre (fun t k => XS.icmpNo X58.here hx rfl (hb hby at_228) rfl (eq_false_of_ne_true hs2) (XS.iload X58.here hx rfl (hb hby at_231) rfl (XS.iconst X58.here hx rfl (hb hby at_233) (own_isub X58.here hx rfl (hb hby at_234) rfl rfl (XS.goto X58.here hx rfl (pc0 := 235) (pc' := 240) rfl (hb hby at_235) (by decide) (by decide) k))))) ?_
          show OwnGo _ _ _ _ (T58.setTop (mkF m 240 #[sI p0, sI p1, sI p2, sI p3, sJ p4, uS, sI p5, sI (0 : Int32), sI (0 : Int32), sI shf, sI lo, sI hi, sI mi, sI lo, sI mi, sI hi, sD dA, uS, sD dB, uS, sD dC, uS, sR a55, sR a56, sR a57, sI p0, uU, uU, uU] [(.int (p0 - (1 : Int32)))]))
          exact K240 _ _ _
      · skip
        refine OwnGo.pre (fun t k => XS.icmpNo X58.here hx rfl (hb hby at_215) rfl (eq_false_of_ne_true hs1) (XS.iload X58.here hx rfl (hb hby at_218) rfl (XS.iconst X58.here hx rfl (hb hby at_220) (own_iadd X58.here hx rfl (hb hby at_221) rfl rfl (XS.goto X58.here hx rfl (pc0 := 222) (pc' := 240) rfl (hb hby at_222) (by decide) (by decide) k))))) ?_
        show OwnGo _ _ _ _ (T58.setTop (mkF m 240 #[sI p0, sI p1, sI p2, sI p3, sJ p4, uS, sI p5, sI (0 : Int32), sI (0 : Int32), sI shf, sI lo, sI hi, sI mi, sI lo, sI mi, sI hi, sD dA, uS, sD dB, uS, sD dC, uS, sR a55, sR a56, sR a57, sI p0, uU, uU, uU] [(.int (p0 + (1 : Int32)))]))
        exact K240 _ _ _
    · skip
      show OwnGo _ _ _ _ (T58.setTop (mkF m 198 #[sI p0, sI p1, sI p2, sI p3, sJ p4, uS, sI p5, sI (0 : Int32), sI (1 : Int32), sI shf, sI lo, sI hi, sI mi, sI lo, sI mi, sI hi, sD dA, uS, sD dB, uS, sD dC, uS, sR a55, sR a56, sR a57, uU, uU, uU, uU] [(.int (0 : Int32)), (.int (1 : Int32))]))
      refine OwnGo.pre (fun t k => XS.icmpYes X58.here hx rfl (pc0 := 198) (pc' := 209) rfl (hb hby at_198) rfl (by decide) (by decide) (by decide) (XS.iloadN X58.here hx rfl (hb hby at_209) rfl (XS.istore X58.here hx rfl (hb hby at_210) rfl (l' := #[sI p0, sI p1, sI p2, sI p3, sJ p4, uS, sI p5, sI (0 : Int32), sI (1 : Int32), sI shf, sI lo, sI hi, sI mi, sI lo, sI mi, sI hi, sD dA, uS, sD dB, uS, sD dC, uS, sR a55, sR a56, sR a57, sI p0, uU, uU, uU]) rfl (XS.iload X58.here hx rfl (hb hby at_212) rfl (XS.iconst X58.here hx rfl (hb hby at_214) k))))) ?_
      show OwnGo _ _ _ _ (T58.setTop (mkF m 215 #[sI p0, sI p1, sI p2, sI p3, sJ p4, uS, sI p5, sI (0 : Int32), sI (1 : Int32), sI shf, sI lo, sI hi, sI mi, sI lo, sI mi, sI hi, sD dA, uS, sD dB, uS, sD dC, uS, sR a55, sR a56, sR a57, sI p0, uU, uU, uU] [(.int (1 : Int32)), (.int shf)]))
      by_cases hs1 : if_icmp.holds .ne shf 1 = true
      · skip
        refine OwnGo.pre (fun t k => XS.icmpYes X58.here hx rfl (pc0 := 215) (pc' := 225) rfl (hb hby at_215) rfl hs1 (by decide) (by decide) (XS.iload X58.here hx rfl (hb hby at_225) rfl (XS.iconst X58.here hx rfl (hb hby at_227) k))) ?_
        show OwnGo _ _ _ _ (T58.setTop (mkF m 228 #[sI p0, sI p1, sI p2, sI p3, sJ p4, uS, sI p5, sI (0 : Int32), sI (1 : Int32), sI shf, sI lo, sI hi, sI mi, sI lo, sI mi, sI hi, sD dA, uS, sD dB, uS, sD dC, uS, sR a55, sR a56, sR a57, sI p0, uU, uU, uU] [(.int (2 : Int32)), (.int shf)]))
        by_cases hs2 : if_icmp.holds .ne shf 2 = true
        · skip
          refine OwnGo.pre (fun t k => XS.icmpYes X58.here hx rfl (pc0 := 228) (pc' := 238) rfl (hb hby at_228) rfl hs2 (by decide) (by decide) (XS.iload X58.here hx rfl (hb hby at_238) rfl k)) ?_
          show OwnGo _ _ _ _ (T58.setTop (mkF m 240 #[sI p0, sI p1, sI p2, sI p3, sJ p4, uS, sI p5, sI (0 : Int32), sI (1 : Int32), sI shf, sI lo, sI hi, sI mi, sI lo, sI mi, sI hi, sD dA, uS, sD dB, uS, sD dC, uS, sR a55, sR a56, sR a57, sI p0, uU, uU, uU] [(.int p0)]))
          exact K240 _ _ _
        · skip
          refine OwnGo.pre (fun t k => XS.icmpNo X58.here hx rfl (hb hby at_228) rfl (eq_false_of_ne_true hs2) (XS.iload X58.here hx rfl (hb hby at_231) rfl (XS.iconst X58.here hx rfl (hb hby at_233) (own_isub X58.here hx rfl (hb hby at_234) rfl rfl (XS.goto X58.here hx rfl (pc0 := 235) (pc' := 240) rfl (hb hby at_235) (by decide) (by decide) k))))) ?_
          show OwnGo _ _ _ _ (T58.setTop (mkF m 240 #[sI p0, sI p1, sI p2, sI p3, sJ p4, uS, sI p5, sI (0 : Int32), sI (1 : Int32), sI shf, sI lo, sI hi, sI mi, sI lo, sI mi, sI hi, sD dA, uS, sD dB, uS, sD dC, uS, sR a55, sR a56, sR a57, sI p0, uU, uU, uU] [(.int (p0 - (1 : Int32)))]))
          exact K240 _ _ _
      · skip
        refine OwnGo.pre (fun t k => XS.icmpNo X58.here hx rfl (hb hby at_215) rfl (eq_false_of_ne_true hs1) (XS.iload X58.here hx rfl (hb hby at_218) rfl (XS.iconst X58.here hx rfl (hb hby at_220) (own_iadd X58.here hx rfl (hb hby at_221) rfl rfl (XS.goto X58.here hx rfl (pc0 := 222) (pc' := 240) rfl (hb hby at_222) (by decide) (by decide) k))))) ?_
        show OwnGo _ _ _ _ (T58.setTop (mkF m 240 #[sI p0, sI p1, sI p2, sI p3, sJ p4, uS, sI p5, sI (0 : Int32), sI (1 : Int32), sI shf, sI lo, sI hi, sI mi, sI lo, sI mi, sI hi, sD dA, uS, sD dB, uS, sD dC, uS, sR a55, sR a56, sR a57, sI p0, uU, uU, uU] [(.int (p0 + (1 : Int32)))]))
        exact K240 _ _ _
    · skip
      show OwnGo _ _ _ _ (T58.setTop (mkF m 198 #[sI p0, sI p1, sI p2, sI p3, sJ p4, uS, sI p5, sI (0 : Int32), sI (2 : Int32), sI shf, sI lo, sI hi, sI mi, sI lo, sI mi, sI hi, sD dA, uS, sD dB, uS, sD dC, uS, sR a55, sR a56, sR a57, uU, uU, uU, uU] [(.int (0 : Int32)), (.int (2 : Int32))]))
      refine OwnGo.pre (fun t k => XS.icmpYes X58.here hx rfl (pc0 := 198) (pc' := 209) rfl (hb hby at_198) rfl (by decide) (by decide) (by decide) (XS.iloadN X58.here hx rfl (hb hby at_209) rfl (XS.istore X58.here hx rfl (hb hby at_210) rfl (l' := #[sI p0, sI p1, sI p2, sI p3, sJ p4, uS, sI p5, sI (0 : Int32), sI (2 : Int32), sI shf, sI lo, sI hi, sI mi, sI lo, sI mi, sI hi, sD dA, uS, sD dB, uS, sD dC, uS, sR a55, sR a56, sR a57, sI p0, uU, uU, uU]) rfl (XS.iload X58.here hx rfl (hb hby at_212) rfl (XS.iconst X58.here hx rfl (hb hby at_214) k))))) ?_
      show OwnGo _ _ _ _ (T58.setTop (mkF m 215 #[sI p0, sI p1, sI p2, sI p3, sJ p4, uS, sI p5, sI (0 : Int32), sI (2 : Int32), sI shf, sI lo, sI hi, sI mi, sI lo, sI mi, sI hi, sD dA, uS, sD dB, uS, sD dC, uS, sR a55, sR a56, sR a57, sI p0, uU, uU, uU] [(.int (1 : Int32)), (.int shf)]))
      by_cases hs1 : if_icmp.holds .ne shf 1 = true
      · skip
        refine OwnGo.pre (fun t k => XS.icmpYes X58.here hx rfl (pc0 := 215) (pc' := 225) rfl (hb hby at_215) rfl hs1 (by decide) (by decide) (XS.iload X58.here hx rfl (hb hby at_225) rfl (XS.iconst X58.here hx rfl (hb hby at_227) k))) ?_
        show OwnGo _ _ _ _ (T58.setTop (mkF m 228 #[sI p0, sI p1, sI p2, sI p3, sJ p4, uS, sI p5, sI (0 : Int32), sI (2 : Int32), sI shf, sI lo, sI hi, sI mi, sI lo, sI mi, sI hi, sD dA, uS, sD dB, uS, sD dC, uS, sR a55, sR a56, sR a57, sI p0, uU, uU, uU] [(.int (2 : Int32)), (.int shf)]))
        by_cases hs2 : if_icmp.holds .ne shf 2 = true
        · skip
          refine OwnGo.pre (fun t k => XS.icmpYes X58.here hx rfl (pc0 := 228) (pc' := 238) rfl (hb hby at_228) rfl hs2 (by decide) (by decide) (XS.iload X58.here hx rfl (hb hby at_238) rfl k)) ?_
          show OwnGo _ _ _ _ (T58.setTop (mkF m 240 #[sI p0, sI p1, sI p2, sI p3, sJ p4, uS, sI p5, sI (0 : Int32), sI (2 : Int32), sI shf, sI lo, sI hi, sI mi, sI lo, sI mi, sI hi, sD dA, uS, sD dB, uS, sD dC, uS, sR a55, sR a56, sR a57, sI p0, uU, uU, uU] [(.int p0)]))
          exact K240 _ _ _
        · skip
          refine OwnGo.pre (fun t k => XS.icmpNo X58.here hx rfl (hb hby at_228) rfl (eq_false_of_ne_true hs2) (XS.iload X58.here hx rfl (hb hby at_231) rfl (XS.iconst X58.here hx rfl (hb hby at_233) (own_isub X58.here hx rfl (hb hby at_234) rfl rfl (XS.goto X58.here hx rfl (pc0 := 235) (pc' := 240) rfl (hb hby at_235) (by decide) (by decide) k))))) ?_
          show OwnGo _ _ _ _ (T58.setTop (mkF m 240 #[sI p0, sI p1, sI p2, sI p3, sJ p4, uS, sI p5, sI (0 : Int32), sI (2 : Int32), sI shf, sI lo, sI hi, sI mi, sI lo, sI mi, sI hi, sD dA, uS, sD dB, uS, sD dC, uS, sR a55, sR a56, sR a57, sI p0, uU, uU, uU] [(.int (p0 - (1 : Int32)))]))
          exact K240 _ _ _
      · skip
        refine OwnGo.pre (fun t k => XS.icmpNo X58.here hx rfl (hb hby at_215) rfl (eq_false_of_ne_true hs1) (XS.iload X58.here hx rfl (hb hby at_218) rfl (XS.iconst X58.here hx rfl (hb hby at_220) (own_iadd X58.here hx rfl (hb hby at_221) rfl rfl (XS.goto X58.here hx rfl (pc0 := 222) (pc' := 240) rfl (hb hby at_222) (by decide) (by decide) k))))) ?_
        show OwnGo _ _ _ _ (T58.setTop (mkF m 240 #[sI p0, sI p1, sI p2, sI p3, sJ p4, uS, sI p5, sI (0 : Int32), sI (2 : Int32), sI shf, sI lo, sI hi, sI mi, sI lo, sI mi, sI hi, sD dA, uS, sD dB, uS, sD dC, uS, sR a55, sR a56, sR a57, sI p0, uU, uU, uU] [(.int (p0 + (1 : Int32)))]))
        exact K240 _ _ _
    · skip
      show OwnGo _ _ _ _ (T58.setTop (mkF m 198 #[sI p0, sI p1, sI p2, sI p3, sJ p4, uS, sI p5, sI (0 : Int32), sI (3 : Int32), sI shf, sI lo, sI hi, sI mi, sI lo, sI mi, sI hi, sD dA, uS, sD dB, uS, sD dC, uS, sR a55, sR a56, sR a57, uU, uU, uU, uU] [(.int (0 : Int32)), (.int (3 : Int32))]))
      refine OwnGo.pre (fun t k => XS.icmpYes X58.here hx rfl (pc0 := 198) (pc' := 209) rfl (hb hby at_198) rfl (by decide) (by decide) (by decide) (XS.iloadN X58.here hx rfl (hb hby at_209) rfl (XS.istore X58.here hx rfl (hb hby at_210) rfl (l' := #[sI p0, sI p1, sI p2, sI p3, sJ p4, uS, sI p5, sI (0 : Int32), sI (3 : Int32), sI shf, sI lo, sI hi, sI mi, sI lo, sI mi, sI hi, sD dA, uS, sD dB, uS, sD dC, uS, sR a55, sR a56, sR a57, sI p0, uU, uU, uU]) rfl (XS.iload X58.here hx rfl (hb hby at_212) rfl (XS.iconst X58.here hx rfl (hb hby at_214) k))))) ?_
      show OwnGo _ _ _ _ (T58.setTop (mkF m 215 #[sI p0, sI p1, sI p2, sI p3, sJ p4, uS, sI p5, sI (0 : Int32), sI (3 : Int32), sI shf, sI lo, sI hi, sI mi, sI lo, sI mi, sI hi, sD dA, uS, sD dB, uS, sD dC, uS, sR a55, sR a56, sR a57, sI p0, uU, uU, uU] [(.int (1 : Int32)), (.int shf)]))
      by_cases hs1 : if_icmp.holds .ne shf 1 = true
      · skip
        refine OwnGo.pre (fun t k => XS.icmpYes X58.here hx rfl (pc0 := 215) (pc' := 225) rfl (hb hby at_215) rfl hs1 (by decide) (by decide) (XS.iload X58.here hx rfl (hb hby at_225) rfl (XS.iconst X58.here hx rfl (hb hby at_227) k))) ?_
        show OwnGo _ _ _ _ (T58.setTop (mkF m 228 #[sI p0, sI p1, sI p2, sI p3, sJ p4, uS, sI p5, sI (0 : Int32), sI (3 : Int32), sI shf, sI lo, sI hi, sI mi, sI lo, sI mi, sI hi, sD dA, uS, sD dB, uS, sD dC, uS, sR a55, sR a56, sR a57, sI p0, uU, uU, uU] [(.int (2 : Int32)), (.int shf)]))
        by_cases hs2 : if_icmp.holds .ne shf 2 = true
        · skip
          refine OwnGo.pre (fun t k => XS.icmpYes X58.here hx rfl (pc0 := 228) (pc' := 238) rfl (hb hby at_228) rfl hs2 (by decide) (by decide) (XS.iload X58.here hx rfl (hb hby at_238) rfl k)) ?_
          show OwnGo _ _ _ _ (T58.setTop (mkF m 240 #[sI p0, sI p1, sI p2, sI p3, sJ p4, uS, sI p5, sI (0 : Int32), sI (3 : Int32), sI shf, sI lo, sI hi, sI mi, sI lo, sI mi, sI hi, sD dA, uS, sD dB, uS, sD dC, uS, sR a55, sR a56, sR a57, sI p0, uU, uU, uU] [(.int p0)]))
          exact K240 _ _ _
        · skip
          refine OwnGo.pre (fun t k => XS.icmpNo X58.here hx rfl (hb hby at_228) rfl (eq_false_of_ne_true hs2) (XS.iload X58.here hx rfl (hb hby at_231) rfl (XS.iconst X58.here hx rfl (hb hby at_233) (own_isub X58.here hx rfl (hb hby at_234) rfl rfl (XS.goto X58.here hx rfl (pc0 := 235) (pc' := 240) rfl (hb hby at_235) (by decide) (by decide) k))))) ?_
          show OwnGo _ _ _ _ (T58.setTop (mkF m 240 #[sI p0, sI p1, sI p2, sI p3, sJ p4, uS, sI p5, sI (0 : Int32), sI (3 : Int32), sI shf, sI lo, sI hi, sI mi, sI lo, sI mi, sI hi, sD dA, uS, sD dB, uS, sD dC, uS, sR a55, sR a56, sR a57, sI p0, uU, uU, uU] [(.int (p0 - (1 : Int32)))]))
          exact K240 _ _ _
      · skip
        refine OwnGo.pre (fun t k => XS.icmpNo X58.here hx rfl (hb hby at_215) rfl (eq_false_of_ne_true hs1) (XS.iload X58.here hx rfl (hb hby at_218) rfl (XS.iconst X58.here hx rfl (hb hby at_220) (own_iadd X58.here hx rfl (hb hby at_221) rfl rfl (XS.goto X58.here hx rfl (pc0 := 222) (pc' := 240) rfl (hb hby at_222) (by decide) (by decide) k))))) ?_
        show OwnGo _ _ _ _ (T58.setTop (mkF m 240 #[sI p0, sI p1, sI p2, sI p3, sJ p4, uS, sI p5, sI (0 : Int32), sI (3 : Int32), sI shf, sI lo, sI hi, sI mi, sI lo, sI mi, sI hi, sD dA, uS, sD dB, uS, sD dC, uS, sR a55, sR a56, sR a57, sI p0, uU, uU, uU] [(.int (p0 + (1 : Int32)))]))
        exact K240 _ _ _
  · skip
    show OwnGo _ _ _ _ (T54.setTop (mkF m 69 #[sI p0, sI p1, sI p2, sI p3, sJ p4, uS, sI p5, sI (1 : Int32), sI sel, sI shf, sI lo, sI hi, sI mi, sI lo, sI mi, sI hi, uU, uU, uU, uU, uU, uU, uU, uU, uU, uU, uU, uU, uU] [(.int (2 : Int32)), (.int (1 : Int32))]))
    obtain ⟨dA, hdA⟩ : ∃ v, FP.i2d p4.toInt32 = v := ⟨_, rfl⟩
    refine OwnGo.pre (fun t k => XS.icmpYes X54.here hx rfl (pc0 := 69) (pc' := 81) rfl (hb hby at_69) rfl (by decide) (by decide) (by decide) (XS.iload X54.here hx rfl (hb hby at_81) rfl (XS.iconst X54.here hx rfl (hb hby at_83) (XS.icmpYes X54.here hx rfl (pc0 := 84) (pc' := 96) rfl (hb hby at_84) rfl (by decide) (by decide) (by decide) (XT.lload X54.here hx rfl (hb hby at_96) rfl (own_l2i X54.here hx rfl (hb hby at_98) rfl rfl (XS.i2dS X54.here hx rfl (hb hby at_99) rfl hdA (XS.dstore X54.here hx rfl (hb hby at_100) rfl (l' := #[sI p0, sI p1, sI p2, sI p3, sJ p4, uS, sI p5, sI (1 : Int32), sI sel, sI shf, sI lo, sI hi, sI mi, sI lo, sI mi, sI hi, sD dA, uS, uU, uU, uU, uU, uU, uU, uU, uU, uU, uU, uU]) rfl k)))))))) ?_
    show OwnGo _ _ _ _ (T54.setTop (mkF m 102 #[sI p0, sI p1, sI p2, sI p3, sJ p4, uS, sI p5, sI (1 : Int32), sI sel, sI shf, sI lo, sI hi, sI mi, sI lo, sI mi, sI hi, sD dA, uS, uU, uU, uU, uU, uU, uU, uU, uU, uU, uU, uU] []))
    obtain ⟨dB, hdB⟩ : ∃ v, FP.i2d ((XT.ushrL p4 (32 : Int32)).toInt32) = v := ⟨_, rfl⟩
    obtain ⟨dC, hdC⟩ : ∃ v, FP.i2d p5 = v := ⟨_, rfl⟩
    refine OwnGo.pre (fun t k => XT.lload X54.here hx rfl (hb hby at_102) rfl (XS.bipush X54.here hx rfl (hb hby at_104) (own_lushr X54.here hx rfl (hb hby at_106) rfl rfl (own_l2i X54.here hx rfl (hb hby at_107) rfl rfl (XS.i2dS X54.here hx rfl (hb hby at_108) rfl hdB (XS.dstore X54.here hx rfl (hb hby at_109) rfl (l' := #[sI p0, sI p1, sI p2, sI p3, sJ p4, uS, sI p5, sI (1 : Int32), sI sel, sI shf, sI lo, sI hi, sI mi, sI lo, sI mi, sI hi, sD dA, uS, sD dB, uS, uU, uU, uU, uU, uU, uU, uU, uU, uU]) rfl (XS.iload X54.here hx rfl (hb hby at_111) rfl (XS.i2dS X54.here hx rfl (hb hby at_113) rfl hdC k)))))))) ?_
    show OwnGo _ _ _ _ (T54.setTop (mkF m 114 #[sI p0, sI p1, sI p2, sI p3, sJ p4, uS, sI p5, sI (1 : Int32), sI sel, sI shf, sI lo, sI hi, sI mi, sI lo, sI mi, sI hi, sD dA, uS, sD dB, uS, uU, uU, uU, uU, uU, uU, uU, uU, uU] [(.double dC)]))
    have nA : Jvm.Free.Fl.NoNaN64 dA := hdA ▸ own_nn (own_i2d _)
    have nB : Jvm.Free.Fl.NoNaN64 dB := hdB ▸ own_nn (own_i2d _)
    have nC : Jvm.Free.Fl.NoNaN64 dC := hdC ▸ own_nn (own_i2d _)
    refine OwnGo.pre (fun t k => XS.dstore X54.here hx rfl (hb hby at_114) rfl (l' := #[sI p0, sI p1, sI p2, sI p3, sJ p4, uS, sI p5, sI (1 : Int32), sI sel, sI shf, sI lo, sI hi, sI mi, sI lo, sI mi, sI hi, sD dA, uS, sD dB, uS, sD dC, uS, uU, uU, uU, uU, uU, uU, uU]) rfl (XS.iload X54.here hx rfl (hb hby at_116) rfl k)) ?_
    show OwnGo _ _ _ _ (T54.setTop (mkF m 118 #[sI p0, sI p1, sI p2, sI p3, sJ p4, uS, sI p5, sI (1 : Int32), sI sel, sI shf, sI lo, sI hi, sI mi, sI lo, sI mi, sI hi, sD dA, uS, sD dB, uS, sD dC, uS, uU, uU, uU, uU, uU, uU, uU] [(.int (1 : Int32))]))
    obtain ⟨T60, h60, X60, e60, E60, A60, Q60, st60⟩ := own_newIX X54 hx hZ (hw _ (List.mem_of_getElem? (i := 7) rfl)) e54 (g := (mkF m 118 #[sI p0, sI p1, sI p2, sI p3, sJ p4, uS, sI p5, sI (1 : Int32), sI sel, sI shf, sI lo, sI hi, sI mi, sI lo, sI mi, sI hi, sD dA, uS, sD dB, uS, sD dC, uS, uU, uU, uU, uU, uU, uU, uU] [(.int (1 : Int32))])) rfl (hb hby at_118) rfl (by decide) (n := 1) (by decide) (by decide) (by decide) (by decide)
    obtain ⟨a60, g60⟩ : ∃ z, z = h0.size := ⟨_, rfl⟩
    rw [← g60] at A60 Q60 st60
    have G60 : n0 ≤ a60 := Nat.le_trans Z0 (Nat.le_of_eq g60.symm)
    have Z60 : n0 ≤ h60.size := Nat.le_trans Z0 E60.1
    refine OwnGo.pre (fun t k => st60 t k) ?_
    show OwnGo _ _ _ _ (T60.setTop (mkF m 120 #[sI p0, sI p1, sI p2, sI p3, sJ p4, uS, sI p5, sI (1 : Int32), sI sel, sI shf, sI lo, sI hi, sI mi, sI lo, sI mi, sI hi, sD dA, uS, sD dB, uS, sD dC, uS, uU, uU, uU, uU, uU, uU, uU] [(.ref a60)]))
    have A60n : OwnIA Z h60 a60 [0] := A60
    refine OwnGo.pre (fun t k => XS.astore X60.here hx rfl (hb hby at_120) rfl rfl (l' := #[sI p0, sI p1, sI p2, sI p3, sJ p4, uS, sI p5, sI (1 : Int32), sI sel, sI shf, sI lo, sI hi, sI mi, sI lo, sI mi, sI hi, sD dA, uS, sD dB, uS, sD dC, uS, sR a60, uU, uU, uU, uU, uU, uU]) rfl (XS.iload X60.here hx rfl (hb hby at_122) rfl k)) ?_
    show OwnGo _ _ _ _ (T60.setTop (mkF m 124 #[sI p0, sI p1, sI p2, sI p3, sJ p4, uS, sI p5, sI (1 : Int32), sI sel, sI shf, sI lo, sI hi, sI mi, sI lo, sI mi, sI hi, sD dA, uS, sD dB, uS, sD dC, uS, sR a60, uU, uU, uU, uU, uU, uU] [(.int (1 : Int32))]))
    obtain ⟨T61, h61, X61, e61, E61, A61, Q61, st61⟩ := own_newDX X60 hx hZ (hw _ (List.mem_of_getElem? (i := 8) rfl)) e60 (g := (mkF m 124 #[sI p0, sI p1, sI p2, sI p3, sJ p4, uS, sI p5, sI (1 : Int32), sI sel, sI shf, sI lo, sI hi, sI mi, sI lo, sI mi, sI hi, sD dA, uS, sD dB, uS, sD dC, uS, sR a60, uU, uU, uU, uU, uU, uU] [(.int (1 : Int32))])) rfl (hb hby at_124) rfl (by decide) (n := 1) (by decide) (by decide) (by decide) (by decide)
    obtain ⟨a61, g61⟩ : ∃ z, z = h60.size := ⟨_, rfl⟩
    rw [← g61] at A61 Q61 st61
    have G61 : n0 ≤ a61 := Nat.le_trans Z60 (Nat.le_of_eq g61.symm)
    have Z61 : n0 ≤ h61.size := Nat.le_trans Z60 E61.1
    refine OwnGo.pre (fun t k => st61 t k) ?_
    show OwnGo _ _ _ _ (T61.setTop (mkF m 126 #[sI p0, sI p1, sI p2, sI p3, sJ p4, uS, sI p5, sI (1 : Int32), sI sel, sI shf, sI lo, sI hi, sI mi, sI lo, sI mi, sI hi, sD dA, uS, sD dB, uS, sD dC, uS, sR a60, uU, uU, uU, uU, uU, uU] [(.ref a61)]))
    have A61n : OwnDA Z h61 a61 [0] := A61
    have ne12 : a60 ≠ a61 := (Nat.ne_of_lt (Nat.lt_of_lt_of_le A60.lt (Nat.le_of_eq g61.symm)))
    have Ai := A60n.ex E61
    have Qi := Q60.ext E61
    refine OwnGo.pre (fun t k => XS.astore X61.here hx rfl (hb hby at_126) rfl rfl (l' := #[sI p0, sI p1, sI p2, sI p3, sJ p4, uS, sI p5, sI (1 : Int32), sI sel, sI shf, sI lo, sI hi, sI mi, sI lo, sI mi, sI hi, sD dA, uS, sD dB, uS, sD dC, uS, sR a60, sR a61, uU, uU, uU, uU, uU]) rfl (XS.iload X61.here hx rfl (hb hby at_128) rfl (XS.ifNo X61.here hx rfl (hb hby at_130) rfl (by decide) (XS.aload X61.here hx rfl (hb hby at_133) rfl rfl (XS.iconst X61.here hx rfl (hb hby at_135) (XS.iload X61.here hx rfl (hb hby at_136) rfl k)))))) ?_
    show OwnGo _ _ _ _ (T61.setTop (mkF m 138 #[sI p0, sI p1, sI p2, sI p3, sJ p4, uS, sI p5, sI (1 : Int32), sI sel, sI shf, sI lo, sI hi, sI mi, sI lo, sI mi, sI hi, sD dA, uS, sD dB, uS, sD dC, uS, sR a60, sR a61, uU, uU, uU, uU, uU] [(.int lo), (.int (0 : Int32)), (.ref a60)]))
    obtain ⟨T62, h62, X62, e62, W62, A62, st62⟩ := own_iaS X61 hx hZ e61 Ai (by decide) (i := 0) (by decide) (by show 0 < 1; decide) (g := (mkF m 138 #[sI p0, sI p1, sI p2, sI p3, sJ p4, uS, sI p5, sI (1 : Int32), sI sel, sI shf, sI lo, sI hi, sI mi, sI lo, sI mi, sI hi, sD dA, uS, sD dB, uS, sD dC, uS, sR a60, sR a61, uU, uU, uU, uU, uU] [(.int lo), (.int (0 : Int32)), (.ref a60)])) rfl rfl (hb hby at_138)
    have A62n : OwnIA Z h62 a60 [lo] := A62
    have N62 := Fr.snoc X62 M54 G60
    have Z62 : n0 ≤ h62.size := by rw [W62.size]; exact Z61
    refine OwnGo.pre (fun t k => st62 t k) ?_
    show OwnGo _ _ _ _ (T62.setTop (mkF m 139 #[sI p0, sI p1, sI p2, sI p3, sJ p4, uS, sI p5, sI (1 : Int32), sI sel, sI shf, sI lo, sI hi, sI mi, sI lo, sI mi, sI hi, sD dA, uS, sD dB, uS, sD dC, uS, sR a60, sR a61, uU, uU, uU, uU, uU] []))
    have Qi62 := Qi.wr W62
    have Ad62 := A61n.ot W62 ne12.symm
    have Qd62 := Q61.wr W62
    refine OwnGo.pre (fun t k => XS.aload X62.here hx rfl (hb hby at_139) rfl rfl (XS.iconst X62.here hx rfl (hb hby at_141) (XS.dload X62.here hx rfl (hb hby at_142) rfl k))) ?_
    show OwnGo _ _ _ _ (T62.setTop (mkF m 144 #[sI p0, sI p1, sI p2, sI p3, sJ p4, uS, sI p5, sI (1 : Int32), sI sel, sI shf, sI lo, sI hi, sI mi, sI lo, sI mi, sI hi, sD dA, uS, sD dB, uS, sD dC, uS, sR a60, sR a61, uU, uU, uU, uU, uU] [(.double dA), (.int (0 : Int32)), (.ref a61)]))
    obtain ⟨T63, h63, X63, e63, W63, A63, st63⟩ := own_daS X62 hx hZ e62 Ad62 (by decide) (i := 0) (by decide) (by show 0 < 1; decide) (g := (mkF m 144 #[sI p0, sI p1, sI p2, sI p3, sJ p4, uS, sI p5, sI (1 : Int32), sI sel, sI shf, sI lo, sI hi, sI mi, sI lo, sI mi, sI hi, sD dA, uS, sD dB, uS, sD dC, uS, sR a60, sR a61, uU, uU, uU, uU, uU] [(.double dA), (.int (0 : Int32)), (.ref a61)])) rfl rfl (hb hby at_144)
    have A63n : OwnDA Z h63 a61 [dA] := A63
    have N63 := Fr.snoc X63 N62 G61
    have Z63 : n0 ≤ h63.size := by rw [W63.size]; exact Z62
    refine OwnGo.pre (fun t k => st63 t k) ?_
    show OwnGo _ _ _ _ (T63.setTop (mkF m 145 #[sI p0, sI p1, sI p2, sI p3, sJ p4, uS, sI p5, sI (1 : Int32), sI sel, sI shf, sI lo, sI hi, sI mi, sI lo, sI mi, sI hi, sD dA, uS, sD dB, uS, sD dC, uS, sR a60, sR a61, uU, uU, uU, uU, uU] []))
    have Qi63 := Qi62.wr W63
    have Ai63 := A62n.ot W63 ne12
    have Qd63 := Qd62.wr W63
    refine OwnGo.pre (fun t k => XS.iload X63.here hx rfl (hb hby at_145) rfl (XS.iconst X63.here hx rfl (hb hby at_147) (XS.icmpYes X63.here hx rfl (pc0 := 148) (pc' := 163) rfl (hb hby at_148) rfl (by decide) (by decide) (by decide) (XS.iload X63.here hx rfl (hb hby at_163) rfl (XS.iconst X63.here hx rfl (hb hby at_165) (XS.icmpYes X63.here hx rfl (pc0 := 166) (pc' := 181) rfl (hb hby at_166) rfl (by decide) (by decide) (by decide) k)))))) ?_
    show OwnGo _ _ _ _ (T63.setTop (mkF m 181 #[sI p0, sI p1, sI p2, sI p3, sJ p4, uS, sI p5, sI (1 : Int32), sI sel, sI shf, sI lo, sI hi, sI mi, sI lo, sI mi, sI hi, sD dA, uS, sD dB, uS, sD dC, uS, sR a60, sR a61, uU, uU, uU, uU, uU] []))
    obtain ⟨T64, h64, X64, e64, E64, A64, D64, -, st64⟩ := newO X63 hx hZ hown (hw _ (List.mem_of_getElem? (i := 9) rfl)) (hw _ (List.mem_of_getElem? (i := 10) rfl)) (hw _ (List.mem_of_getElem? (i := 11) rfl)) e63 (g := (mkF m 181 #[sI p0, sI p1, sI p2, sI p3, sJ p4, uS, sI p5, sI (1 : Int32), sI sel, sI shf, sI lo, sI hi, sI mi, sI lo, sI mi, sI hi, sD dA, uS, sD dB, uS, sD dC, uS, sR a60, sR a61, uU, uU, uU, uU, uU] [])) rfl (hb hby at_181) (by decide) (by decide)
    obtain ⟨a64, g64⟩ : ∃ z, z = h63.size := ⟨_, rfl⟩
    rw [← g64] at A64 D64 st64
    have G64 : n0 ≤ a64 := Nat.le_trans Z63 (Nat.le_of_eq g64.symm)
    have Z64 : n0 ≤ h64.size := Nat.le_trans Z63 E64.1
    refine OwnGo.pre (fun t k => st64 t k) ?_
    show OwnGo _ _ _ _ (T64.setTop (mkF m 184 #[sI p0, sI p1, sI p2, sI p3, sJ p4, uS, sI p5, sI (1 : Int32), sI sel, sI shf, sI lo, sI hi, sI mi, sI lo, sI mi, sI hi, sD dA, uS, sD dB, uS, sD dC, uS, sR a60, sR a61, uU, uU, uU, uU, uU] [(.ref a64)]))
    have Ai9 := Ai63.ex E64
    have Qi9 := Qi63.ext E64
    have Ad9 := A63n.ex E64
    have Qd9 := Qd63.ext E64
    have nio : a60 ≠ a64 := (Nat.ne_of_lt (Nat.lt_of_lt_of_le Ai63.lt (Nat.le_of_eq g64.symm)))
    have ndo : a61 ≠ a64 := (Nat.ne_of_lt (Nat.lt_of_lt_of_le A63n.lt (Nat.le_of_eq g64.symm)))
    refine OwnGo.pre (fun t k => XS.dup X64.here hx rfl (hb hby at_184) rfl rfl (XS.aload X64.here hx rfl (hb hby at_185) rfl rfl (XS.aload X64.here hx rfl (hb hby at_187) rfl rfl k))) ?_
    show OwnGo _ _ _ _ (T64.setTop (mkF m 189 #[sI p0, sI p1, sI p2, sI p3, sJ p4, uS, sI p5, sI (1 : Int32), sI sel, sI shf, sI lo, sI hi, sI mi, sI lo, sI mi, sI hi, sD dA, uS, sD dB, uS, sD dC, uS, sR a60, sR a61, uU, uU, uU, uU, uU] [(.ref a61), (.ref a60), (.ref a64), (.ref a64)]))
    obtain ⟨_, _, ⟨T65, L65, k65, n65⟩, -, X65, ⟨Lc65, hQ65, l65, y65, z65⟩, st65⟩ := X64.specialBack hx (y := (⟨"com/example/clausewright/clausewright/learning/ClauseModel$Weights", "<init>", "([I[D)V"⟩ : MethodName)) rfl hown (mvT hZ (hw _ (List.mem_of_getElem? (i := 12) rfl))) (mvT hZ (hw _ (List.mem_of_getElem? (i := 13) rfl))) (mvT hZ (hw _ (List.mem_of_getElem? (i := 14) rfl))) (by decide) (backOf (W := 1) (rmI1 l Z a0 hw [] a64 a60 a61 lo dA h64 n0 Z64 A64 (D64 (Or.inr (hw _ (List.mem_of_getElem? (i := 28) rfl))) (ty := (.array .int)) (by decide)) (D64 (Or.inr (hw _ (List.mem_of_getElem? (i := 36) rfl))) (ty := (.array .double)) (by decide)) G64 Ai9 Qi9 Ad9 Qd9 ndo) hZ (hw _ (List.mem_of_getElem? (i := 14) rfl)) (hw _ (List.mem_of_getElem? (i := 11) rfl)) (by decide) (by decide)) (g := (mkF m 189 #[sI p0, sI p1, sI p2, sI p3, sJ p4, uS, sI p5, sI (1 : Int32), sI sel, sI shf, sI lo, sI hi, sI mi, sI lo, sI mi, sI hi, sD dA, uS, sD dB, uS, sD dC, uS, sR a60, sR a61, uU, uU, uU, uU, uU] [(.ref a61), (.ref a60), (.ref a64), (.ref a64)])) rfl (by rw [hml]; rfl) (Steps.refl _) (a := a64) (argsL := [(.ref a60), (.ref a61)]) (rest := [(.ref a64)]) (lenOf pd_rmI1 rfl) rfl (by show 2 * 0 + _ ≤ _; exact Nat.le_of_eq rfl) (hb hby at_189) (fun _ _ => ⟨rfl, e64, (by decide : 3 + 2 ≤ _), (by decide : 4 + 2 ≤ _)⟩)
    dsimp only [Pt.U, Pt.locs, Pt.cells, Pt.slots] at X65 l65 y65 z65 st65 hQ65
    subst l65 y65 z65
    obtain ⟨ac, av, rfl, N65, K65, Z65, E65, F0, F1, Ac, Av⟩ := hQ65
    refine OwnGo.pre (fun t k => st65.trans k) ?_
    show OwnGo _ _ _ _ (T65.setTop (mkF m 192 #[sI p0, sI p1, sI p2, sI p3, sJ p4, uS, sI p5, sI (1 : Int32), sI sel, sI shf, sI lo, sI hi, sI mi, sI lo, sI mi, sI hi, sD dA, uS, sD dB, uS, sD dC, uS, sR a60, sR a61, uU, uU, uU, uU, uU] [(.ref a64)]))
    have M65 := Fr.app N63 N65
    have Aj := Ai9.kp K65 (ninS nio nin0)
    refine OwnGo.pre (fun t k => XS.astore X65.here hx rfl (hb hby at_192) rfl rfl (l' := #[sI p0, sI p1, sI p2, sI p3, sJ p4, uS, sI p5, sI (1 : Int32), sI sel, sI shf, sI lo, sI hi, sI mi, sI lo, sI mi, sI hi, sD dA, uS, sD dB, uS, sD dC, uS, sR a60, sR a61, sR a64, uU, uU, uU, uU]) rfl (XS.iload X65.here hx rfl (hb hby at_194) rfl (XS.iload X65.here hx rfl (hb hby at_196) rfl k))) ?_
    show OwnGo _ _ _ _ (T65.setTop (mkF m 198 #[sI p0, sI p1, sI p2, sI p3, sJ p4, uS, sI p5, sI (1 : Int32), sI sel, sI shf, sI lo, sI hi, sI mi, sI lo, sI mi, sI hi, sD dA, uS, sD dB, uS, sD dC, uS, sR a60, sR a61, sR a64, uU, uU, uU, uU] [(.int (1 : Int32)), (.int sel)]))
    have K240 : ∀ (se ba q : Int32), OwnGo p.tables e below (OwnEnd s (Q_rmL Z p0 p1 p2 p3 p4 p5 h0 n0) room_1.cells room_1.slots) (T65.setTop (mkF m 240 #[sI p0, sI p1, sI p2, sI p3, sJ p4, uS, sI p5, sI (1 : Int32), sI se, sI shf, sI lo, sI hi, sI mi, sI lo, sI mi, sI hi, sD dA, uS, sD dB, uS, sD dC, uS, sR a60, sR a61, sR a64, sI ba, uU, uU, uU] [(.int q)])) := by
      intro se ba q
      refine OwnGo.pre (fun t k => XS.istore X65.here hx rfl (hb hby at_240) rfl (l' := #[sI p0, sI p1, sI p2, sI p3, sJ p4, uS, sI p5, sI (1 : Int32), sI se, sI shf, sI lo, sI hi, sI mi, sI lo, sI mi, sI hi, sD dA, uS, sD dB, uS, sD dC, uS, sR a60, sR a61, sR a64, sI ba, sI q, uU, uU]) rfl (XS.dconst0 X65.here hx rfl (hb hby at_242) rfl (XS.dstore X65.here hx rfl (hb hby at_243) rfl (l' := #[sI p0, sI p1, sI p2, sI p3, sJ p4, uS, sI p5, sI (1 : Int32), sI se, sI shf, sI lo, sI hi, sI mi, sI lo, sI mi, sI hi, sD dA, uS, sD dB, uS, sD dC, uS, sR a60, sR a61, sR a64, sI ba, sI q, sD (0 : UInt64), uS]) rfl (XS.iload X65.here hx rfl (hb hby at_245) rfl (XS.iconst X65.here hx rfl (hb hby at_247) (XS.icmpYes X65.here hx rfl (pc0 := 248) (pc' := 262) rfl (hb hby at_248) rfl (by decide) (by decide) (by decide) (XS.iload X65.here hx rfl (hb hby at_262) rfl (XS.iconst X65.here hx rfl (hb hby at_264) k)))))))) ?_
      show OwnGo _ _ _ _ (T65.setTop (mkF m 265 #[sI p0, sI p1, sI p2, sI p3, sJ p4, uS, sI p5, sI (1 : Int32), sI se, sI shf, sI lo, sI hi, sI mi, sI lo, sI mi, sI hi, sD dA, uS, sD dB, uS, sD dC, uS, sR a60, sR a61, sR a64, sI ba, sI q, sD (0 : UInt64), uS] [(.int (1 : Int32)), (.int (1 : Int32))]))
      refine OwnGo.pre (fun t k => XS.icmpYes X65.here hx rfl (pc0 := 265) (pc' := 279) rfl (hb hby at_265) rfl (by decide) (by decide) (by decide) (XS.iload X65.here hx rfl (hb hby at_279) rfl (XS.ifNo X65.here hx rfl (hb hby at_281) rfl (by decide) (XS.iload X65.here hx rfl (hb hby at_284) rfl (XS.iload X65.here hx rfl (hb hby at_286) rfl k))))) ?_
      show OwnGo _ _ _ _ (T65.setTop (mkF m 288 #[sI p0, sI p1, sI p2, sI p3, sJ p4, uS, sI p5, sI (1 : Int32), sI se, sI shf, sI lo, sI hi, sI mi, sI lo, sI mi, sI hi, sD dA, uS, sD dB, uS, sD dC, uS, sR a60, sR a61, sR a64, sI ba, sI q, sD (0 : UInt64), uS] [(.int q), (.int lo)]))
      by_cases hh0 : lo = q
      · skip
        refine OwnGo.pre (fun t k => XS.icmpNo X65.here hx rfl (hb hby at_288) rfl (own_neF hh0) (XS.dload X65.here hx rfl (hb hby at_291) rfl (XS.dstore X65.here hx rfl (hb hby at_293) rfl (l' := #[sI p0, sI p1, sI p2, sI p3, sJ p4, uS, sI p5, sI (1 : Int32), sI se, sI shf, sI lo, sI hi, sI mi, sI lo, sI mi, sI hi, sD dA, uS, sD dB, uS, sD dC, uS, sR a60, sR a61, sR a64, sI ba, sI q, sD dA, uS]) rfl (XS.aload X65.here hx rfl (hb hby at_295) rfl rfl (XS.iload X65.here hx rfl (hb hby at_297) rfl k))))) ?_
        show OwnGo _ _ _ _ (T65.setTop (mkF m 299 #[sI p0, sI p1, sI p2, sI p3, sJ p4, uS, sI p5, sI (1 : Int32), sI se, sI shf, sI lo, sI hi, sI mi, sI lo, sI mi, sI hi, sD dA, uS, sD dB, uS, sD dC, uS, sR a60, sR a61, sR a64, sI ba, sI q, sD dA, uS] [(.int q), (.ref a64)]))
        obtain ⟨cq66, kq66, qa66, qb66, qc66⟩ := isOf hZ rfl E65
        obtain ⟨_, _, ⟨T66, L66, k66, n66⟩, -, X66, ⟨Lc66, hQ66, l66, y66, z66⟩, st66⟩ := X65.virtualBack hx (y := (⟨"com/example/clausewright/clausewright/learning/ClauseModel$Weights", "valueIn", "(I)D"⟩ : MethodName)) (z := (⟨"com/example/clausewright/clausewright/learning/ClauseModel$Weights", "valueIn", "(I)D"⟩ : MethodName)) hown (mvT hZ (hw _ (List.mem_of_getElem? (i := 37) rfl))) (mvT hZ (hw _ (List.mem_of_getElem? (i := 38) rfl))) (notFace_of_selects (args := #[]) (mvT hZ (hw _ (List.mem_of_getElem? (i := 40) rfl)))) (mvT hZ (hw _ (List.mem_of_getElem? (i := 40) rfl))) (mvT hZ (hw _ (List.mem_of_getElem? (i := 39) rfl))) (by decide) (backOf (W := 0) (rmV1 l Z a0 hw [] a64 ac av lo dA q T65.heap n0 Z65 F0 F1 Ac Av) hZ (hw _ (List.mem_of_getElem? (i := 41) rfl)) (hw _ (List.mem_of_getElem? (i := 11) rfl)) (by decide) (by decide)) qa66 qc66 (g := (mkF m 299 #[sI p0, sI p1, sI p2, sI p3, sJ p4, uS, sI p5, sI (1 : Int32), sI se, sI shf, sI lo, sI hi, sI mi, sI lo, sI mi, sI hi, sD dA, uS, sD dB, uS, sD dC, uS, sR a60, sR a61, sR a64, sI ba, sI q, sD dA, uS] [(.int q), (.ref a64)])) rfl (by rw [hml]; rfl) (Steps.refl _) (argsL := [(.int q)]) (rest := []) (lenOf pd_rmV1 rfl) rfl (by show 2 * 0 + _ ≤ _; exact Nat.le_of_eq rfl) (hb hby at_299) (fun _ _ => ⟨rfl, rfl, (by decide : 5 + 0 ≤ _), (by decide : 6 + 0 ≤ _)⟩)
        dsimp only [Pt.U, Pt.locs, Pt.cells, Pt.slots] at X66 l66 y66 z66 st66 hQ66
        subst l66 y66 z66
        obtain ⟨rr, rfl, hr, N66, e66⟩ := hQ66
        refine OwnGo.pre (fun t k => st66.trans k) ?_
        show OwnGo _ _ _ _ (T66.setTop (mkF m 302 #[sI p0, sI p1, sI p2, sI p3, sJ p4, uS, sI p5, sI (1 : Int32), sI se, sI shf, sI lo, sI hi, sI mi, sI lo, sI mi, sI hi, sD dA, uS, sD dB, uS, sD dC, uS, sR a60, sR a61, sR a64, sI ba, sI q, sD dA, uS] [(.double rr)]))
        have M66 := Fr.app M65 N66
        have er : rr = dA := by rw [hr, if_pos hh0]
        refine OwnGo.pre (fun t k => XS.dload X66.here hx rfl (hb hby at_302) rfl (XS.dcmpS X66.here hx rfl (hb hby at_304) rfl rfl (XS.ifNo X66.here hx rfl (hb hby at_305) rfl (by rw [er, dcmpV_self nA]; rfl) (XS.iconst X66.here hx rfl (hb hby at_308) (XS.goto X66.here hx rfl (pc0 := 309) (pc' := 313) rfl (hb hby at_309) (by decide) (by decide) k))))) ?_
        show OwnGo _ _ _ _ (T66.setTop (mkF m 313 #[sI p0, sI p1, sI p2, sI p3, sJ p4, uS, sI p5, sI (1 : Int32), sI se, sI shf, sI lo, sI hi, sI mi, sI lo, sI mi, sI hi, sD dA, uS, sD dB, uS, sD dC, uS, sR a60, sR a61, sR a64, sI ba, sI q, sD dA, uS] [(.int (1 : Int32))]))
        exact own_retZ X66 hx hk hrt (hb hby at_313) ⟨rfl, M66⟩ (by decide) (by decide)
      · skip
        refine OwnGo.pre (fun t k => XS.icmpYes X65.here hx rfl (pc0 := 288) (pc' := 295) rfl (hb hby at_288) rfl (own_neT hh0) (by decide) (by decide) (XS.aload X65.here hx rfl (hb hby at_295) rfl rfl (XS.iload X65.here hx rfl (hb hby at_297) rfl k))) ?_
        show OwnGo _ _ _ _ (T65.setTop (mkF m 299 #[sI p0, sI p1, sI p2, sI p3, sJ p4, uS, sI p5, sI (1 : Int32), sI se, sI shf, sI lo, sI hi, sI mi, sI lo, sI mi, sI hi, sD dA, uS, sD dB, uS, sD dC, uS, sR a60, sR a61, sR a64, sI ba, sI q, sD (0 : UInt64), uS] [(.int q), (.ref a64)]))
        obtain ⟨cq67, kq67, qa67, qb67, qc67⟩ := isOf hZ rfl E65
        obtain ⟨_, _, ⟨T67, L67, k67, n67⟩, -, X67, ⟨Lc67, hQ67, l67, y67, z67⟩, st67⟩ := X65.virtualBack hx (y := (⟨"com/example/clausewright/clausewright/learning/ClauseModel$Weights", "valueIn", "(I)D"⟩ : MethodName)) (z := (⟨"com/example/clausewright/clausewright/learning/ClauseModel$Weights", "valueIn", "(I)D"⟩ : MethodName)) hown (mvT hZ (hw _ (List.mem_of_getElem? (i := 37) rfl))) (mvT hZ (hw _ (List.mem_of_getElem? (i := 38) rfl))) (notFace_of_selects (args := #[]) (mvT hZ (hw _ (List.mem_of_getElem? (i := 40) rfl)))) (mvT hZ (hw _ (List.mem_of_getElem? (i := 40) rfl))) (mvT hZ (hw _ (List.mem_of_getElem? (i := 39) rfl))) (by decide) (backOf (W := 0) (rmV1 l Z a0 hw [] a64 ac av lo dA q T65.heap n0 Z65 F0 F1 Ac Av) hZ (hw _ (List.mem_of_getElem? (i := 41) rfl)) (hw _ (List.mem_of_getElem? (i := 11) rfl)) (by decide) (by decide)) qa67 qc67 (g := (mkF m 299 #[sI p0, sI p1, sI p2, sI p3, sJ p4, uS, sI p5, sI (1 : Int32), sI se, sI shf, sI lo, sI hi, sI mi, sI lo, sI mi, sI hi, sD dA, uS, sD dB, uS, sD dC, uS, sR a60, sR a61, sR a64, sI ba, sI q, sD (0 : UInt64), uS] [(.int q), (.ref a64)])) rfl (by rw [hml]; rfl) (Steps.refl _) (argsL := [(.int q)]) (rest := []) (lenOf pd_rmV1 rfl) rfl (by show 2 * 0 + _ ≤ _; exact Nat.le_of_eq rfl) (hb hby at_299) (fun _ _ => ⟨rfl, rfl, (by decide : 5 + 0 ≤ _), (by decide : 6 + 0 ≤ _)⟩)
        dsimp only [Pt.U, Pt.locs, Pt.cells, Pt.slots] at X67 l67 y67 z67 st67 hQ67
        subst l67 y67 z67
        obtain ⟨rr, rfl, hr, N67, e67⟩ := hQ67
        refine OwnGo.pre (fun t k => st67.trans k) ?_
        show OwnGo _ _ _ _ (T67.setTop (mkF m 302 #[sI p0, sI p1, sI p2, sI p3, sJ p4, uS, sI p5, sI (1 : Int32), sI se, sI shf, sI lo, sI hi, sI mi, sI lo, sI mi, sI hi, sD dA, uS, sD dB, uS, sD dC, uS, sR a60, sR a61, sR a64, sI ba, sI q, sD (0 : UInt64), uS] [(.double rr)]))
        have M67 := Fr.app M65 N67
        have er : rr = 0 := by rw [hr, if_neg hh0]
        refine OwnGo.pre (fun t k => XS.dload X67.here hx rfl (hb hby at_302) rfl (XS.dcmpS X67.here hx rfl (hb hby at_304) rfl rfl (XS.ifNo X67.here hx rfl (hb hby at_305) rfl (by rw [er, dcmpV_self own_nn0]; rfl) (XS.iconst X67.here hx rfl (hb hby at_308) (XS.goto X67.here hx rfl (pc0 := 309) (pc' := 313) rfl (hb hby at_309) (by decide) (by decide) k))))) ?_
        show OwnGo _ _ _ _ (T67.setTop (mkF m 313 #[sI p0, sI p1, sI p2, sI p3, sJ p4, uS, sI p5, sI (1 : Int32), sI se, sI shf, sI lo, sI hi, sI mi, sI lo, sI mi, sI hi, sD dA, uS, sD dB, uS, sD dC, uS, sR a60, sR a61, sR a64, sI ba, sI q, sD (0 : UInt64), uS] [(.int (1 : Int32))]))
        exact own_retZ X67 hx hk hrt (hb hby at_313) ⟨rfl, M67⟩ (by decide) (by decide)
    rcases csel with rfl | rfl | rfl | rfl
    · skip
      show OwnGo _ _ _ _ (T65.setTop (mkF m 198 #[sI p0, sI p1, sI p2, sI p3, sJ p4, uS, sI p5, sI (1 : Int32), sI (0 : Int32), sI shf, sI lo, sI hi, sI mi, sI lo, sI mi, sI hi, sD dA, uS, sD dB, uS, sD dC, uS, sR a60, sR a61, sR a64, uU, uU, uU, uU] [(.int (1 : Int32)), (.int (0 : Int32))]))
      refine OwnGo.pre (fun t k => XS.icmpNo X65.here hx rfl (hb hby at_198) rfl (by decide) (XS.aload X65.here hx rfl (hb hby at_201) rfl rfl (XS.iload X65.here hx rfl (hb hby at_203) rfl (own_iaL X65 hx hZ rfl Aj (j := (0 : Int32)) (by decide) (i := 0) (by decide) (x := lo) rfl (g := (mkF m 205 #[sI p0, sI p1, sI p2, sI p3, sJ p4, uS, sI p5, sI (1 : Int32), sI (0 : Int32), sI shf, sI lo, sI hi, sI mi, sI lo, sI mi, sI hi, sD dA, uS, sD dB, uS, sD dC, uS, sR a60, sR a61, sR a64, uU, uU, uU, uU] [(.int (0 : Int32)), (.ref a60)])) rfl (rest := []) rfl (hb hby at_205) (XS.goto X65.here hx rfl (pc0 := 206) (pc' := 210) rfl (hb hby at_206) (by decide) (by decide) (XS.istore X65.here hx rfl (hb hby at_210) rfl (l' := #[sI p0, sI p1, sI p2, sI p3, sJ p4, uS, sI p5, sI (1 : Int32), sI (0 : Int32), sI shf, sI lo, sI hi, sI mi, sI lo, sI mi, sI hi, sD dA, uS, sD dB, uS, sD dC, uS, sR a60, sR a61, sR a64, sI lo, uU, uU, uU]) rfl (XS.iload X65.here hx rfl (hb hby at_212) rfl (XS.iconst X65.here hx rfl (hb hby at_214) k)))))))) ?_
      show OwnGo _ _ _ _ (T65.setTop (mkF m 215 #[sI p0, sI p1, sI p2, sI p3, sJ p4, uS, sI p5, sI (1 : Int32), sI (0 : Int32), sI shf, sI lo, sI hi, sI mi, sI lo, sI mi, sI hi, sD dA, uS, sD dB, uS, sD dC, uS, sR a60, sR a61, sR a64, sI lo, uU, uU, uU] [(.int (1 : Int32)), (.int shf)]))
      by_cases hs1 : if_icmp.holds .ne shf 1 = true
      · skip
        refine OwnGo.pre (fun t k => XS.icmpYes X65.here hx rfl (pc0 := 215) (pc' := 225) rfl (hb hby at_215) rfl hs1 (by decide) (by decide) (XS.iload X65.here hx rfl (hb hby at_225) rfl (XS.iconst X65.here hx rfl (hb hby at_227) k))) ?_
        show OwnGo _ _ _ _ (T65.setTop (mkF m 228 #[sI p0, sI p1, sI p2, sI p3, sJ p4, uS, sI p5, sI (1 : Int32), sI (0 : Int32), sI shf, sI lo, sI hi, sI mi, sI lo, sI mi, sI hi, sD dA, uS, sD dB, uS, sD dC, uS, sR a60, sR a61, sR a64, sI lo, uU, uU, uU] [(.int (2 : Int32)), (.int shf)]))
        by_cases hs2 : if_icmp.holds .ne shf 2 = true
        · skip
          refine OwnGo.pre (fun t k => XS.icmpYes X65.here hx rfl (pc0 := 228) (pc' := 238) rfl (hb hby at_228) rfl hs2 (by decide) (by decide) (XS.iload X65.here hx rfl (hb hby at_238) rfl k)) ?_
          show OwnGo _ _ _ _ (T65.setTop (mkF m 240 #[sI p0, sI p1, sI p2, sI p3, sJ p4, uS, sI p5, sI (1 : Int32), sI (0 : Int32), sI shf, sI lo, sI hi, sI mi, sI lo, sI mi, sI hi, sD dA, uS, sD dB, uS, sD dC, uS, sR a60, sR a61, sR a64, sI lo, uU, uU, uU] [(.int lo)]))
          exact K240 _ _ _
        · skip
          refine OwnGo.pre (fun t k => XS.icmpNo X65.here hx rfl (hb hby at_228) rfl (eq_false_of_ne_true hs2) (XS.iload X65.here hx rfl (hb hby at_231) rfl (XS.iconst X65.here hx rfl (hb hby at_233) (own_isub X65.here hx rfl (hb hby at_234) rfl rfl (XS.goto X65.here hx rfl (pc0 := 235) (pc' := 240) rfl (hb hby at_235) (by decide) (by decide) k))))) ?_
          show OwnGo _ _ _ _ (T65.setTop (mkF m 240 #[sI p0, sI p1, sI p2, sI p3, sJ p4, uS, sI p5, sI (1 : Int32), sI (0 : Int32), sI shf, sI lo, sI hi, sI mi, sI lo, sI mi, sI hi, sD dA, uS, sD dB, uS, sD dC, uS, sR a60, sR a61, sR a64, sI lo, uU, uU, uU] [(.int (lo - (1 : Int32)))]))
          exact K240 _ _ _
      · skip
        refine OwnGo.pre (fun t k => XS.icmpNo X65.here hx rfl (hb hby at_215) rfl (eq_false_of_ne_true hs1) (XS.iload X65.here hx rfl (hb hby at_218) rfl (XS.iconst X65.here hx rfl (hb hby at_220) (own_iadd X65.here hx rfl (hb hby at_221) rfl rfl (XS.goto X65.here hx rfl (pc0 := 222) (pc' := 240) rfl (hb hby at_222) (by decide) (by decide) k))))) ?_
        show OwnGo _ _ _ _ (T65.setTop (mkF m 240 #[sI p0, sI p1, sI p2, sI p3, sJ p4, uS, sI p5, sI (1 : Int32), sI (0 : Int32), sI shf, sI lo, sI hi, sI mi, sI lo, sI mi, sI hi, sD dA, uS, sD dB, uS, sD dC, uS, sR a60, sR a61, sR a64, sI lo, uU, uU, uU] [(.int (lo + (1 : Int32)))]))
        exact K240 _ _ _
    · skip
      show OwnGo _ _ _ _ (T65.setTop (mkF m 198 #[sI p0, sI p1, sI p2, sI p3, sJ p4, uS, sI p5, sI (1 : Int32), sI (1 : Int32), sI shf, sI lo, sI hi, sI mi, sI lo, sI mi, sI hi, sD dA, uS, sD dB, uS, sD dC, uS, sR a60, sR a61, sR a64, uU, uU, uU, uU] [(.int (1 : Int32)), (.int (1 : Int32))]))
      refine OwnGo.pre (fun t k => XS.icmpYes X65.here hx rfl (pc0 := 198) (pc' := 209) rfl (hb hby at_198) rfl (by decide) (by decide) (by decide) (XS.iloadN X65.here hx rfl (hb hby at_209) rfl (XS.istore X65.here hx rfl (hb hby at_210) rfl (l' := #[sI p0, sI p1, sI p2, sI p3, sJ p4, uS, sI p5, sI (1 : Int32), sI (1 : Int32), sI shf, sI lo, sI hi, sI mi, sI lo, sI mi, sI hi, sD dA, uS, sD dB, uS, sD dC, uS, sR a60, sR a61, sR a64, sI p0, uU, uU, uU]) rfl (XS.iload X65.here hx rfl (hb hby at_212) rfl (XS.iconst X65.here hx rfl (hb hby at_214) k))))) ?_
      show OwnGo _ _ _ _ (T65.setTop (mkF m 215 #[sI p0, sI p1, sI p2, sI p3, sJ p4, uS, sI p5, sI (1 : Int32), sI (1 : Int32), sI shf, sI lo, sI hi, sI mi, sI lo, sI mi, sI hi, sD dA, uS, sD dB, uS, sD dC, uS, sR a60, sR a61, sR a64, sI p0, uU, uU, uU] [(.int (1 : Int32)), (.int shf)]))
      by_cases hs1 : if_icmp.holds .ne shf 1 = true
      · skip
        refine OwnGo.pre (fun t k => XS.icmpYes X65.here hx rfl (pc0 := 215) (pc' := 225) rfl (hb hby at_215) rfl hs1 (by decide) (by decide) (XS.iload X65.here hx rfl (hb hby at_225) rfl (XS.iconst X65.here hx rfl (hb hby at_227) k))) ?_
        show OwnGo _ _ _ _ (T65.setTop (mkF m 228 #[sI p0, sI p1, sI p2, sI p3, sJ p4, uS, sI p5, sI (1 : Int32), sI (1 : Int32), sI shf, sI lo, sI hi, sI mi, sI lo, sI mi, sI hi, sD dA, uS, sD dB, uS, sD dC, uS, sR a60, sR a61, sR a64, sI p0, uU, uU, uU] [(.int (2 : Int32)), (.int shf)]))
        by_cases hs2 : if_icmp.holds .ne shf 2 = true
        · skip
          refine OwnGo.pre (fun t k => XS.icmpYes X65.here hx rfl (pc0 := 228) (pc' := 238) rfl (hb hby at_228) rfl hs2 (by decide) (by decide) (XS.iload X65.here hx rfl (hb hby at_238) rfl k)) ?_
          show OwnGo _ _ _ _ (T65.setTop (mkF m 240 #[sI p0, sI p1, sI p2, sI p3, sJ p4, uS, sI p5, sI (1 : Int32), sI (1 : Int32), sI shf, sI lo, sI hi, sI mi, sI lo, sI mi, sI hi, sD dA, uS, sD dB, uS, sD dC, uS, sR a60, sR a61, sR a64, sI p0, uU, uU, uU] [(.int p0)]))
          exact K240 _ _ _
        · skip
          refine OwnGo.pre (fun t k => XS.icmpNo X65.here hx rfl (hb hby at_228) rfl (eq_false_of_ne_true hs2) (XS.iload X65.here hx rfl (hb hby at_231) rfl (XS.iconst X65.here hx rfl (hb hby at_233) (own_isub X65.here hx rfl (hb hby at_234) rfl rfl (XS.goto X65.here hx rfl (pc0 := 235) (pc' := 240) rfl (hb hby at_235) (by decide) (by decide) k))))) ?_
          show OwnGo _ _ _ _ (T65.setTop (mkF m 240 #[sI p0, sI p1, sI p2, sI p3, sJ p4, uS, sI p5, sI (1 : Int32), sI (1 : Int32), sI shf, sI lo, sI hi, sI mi, sI lo, sI mi, sI hi, sD dA, uS, sD dB, uS, sD dC, uS, sR a60, sR a61, sR a64, sI p0, uU, uU, uU] [(.int (p0 - (1 : Int32)))]))
          exact K240 _ _ _
      · skip
        refine OwnGo.pre (fun t k => XS.icmpNo X65.here hx rfl (hb hby at_215) rfl (eq_false_of_ne_true hs1) (XS.iload X65.here hx rfl (hb hby at_218) rfl (XS.iconst X65.here hx rfl (hb hby at_220) (own_iadd X65.here hx rfl (hb hby at_221) rfl rfl (XS.goto X65.here hx rfl (pc0 := 222) (pc' := 240) rfl (hb hby at_222) (by decide) (by decide) k))))) ?_
        show OwnGo _ _ _ _ (T65.setTop (mkF m 240 #[sI p0, sI p1, sI p2, sI p3, sJ p4, uS, sI p5, sI (1 : Int32), sI (1 : Int32), sI shf, sI lo, sI hi, sI mi, sI lo, sI mi, sI hi, sD dA, uS, sD dB, uS, sD dC, uS, sR a60, sR a61, sR a64, sI p0, uU, uU, uU] [(.int (p0 + (1 : Int32)))]))
        exact K240 _ _ _
    · skip
      show OwnGo _ _ _ _ (T65.setTop (mkF m 198 #[sI p0, sI p1, sI p2, sI p3, sJ p4, uS, sI p5, sI (1 : Int32), sI (2 : Int32), sI shf, sI lo, sI hi, sI mi, sI lo, sI mi, sI hi, sD dA, uS, sD dB, uS, sD dC, uS, sR a60, sR a61, sR a64, uU, uU, uU, uU] [(.int (1 : Int32)), (.int (2 : Int32))]))
      refine OwnGo.pre (fun t k => XS.icmpYes X65.here hx rfl (pc0 := 198) (pc' := 209) rfl (hb hby at_198) rfl (by decide) (by decide) (by decide) (XS.iloadN X65.here hx rfl (hb hby at_209) rfl (XS.istore X65.here hx rfl (hb hby at_210) rfl (l' := #[sI p0, sI p1, sI p2, sI p3, sJ p4, uS, sI p5, sI (1 : Int32), sI (2 : Int32), sI shf, sI lo, sI hi, sI mi, sI lo, sI mi, sI hi, sD dA, uS, sD dB, uS, sD dC, uS, sR a60, sR a61, sR a64, sI p0, uU, uU, uU]) rfl (XS.iload X65.here hx rfl (hb hby at_212) rfl (XS.iconst X65.here hx rfl (hb hby at_214) k))))) ?_
      show OwnGo _ _ _ _ (T65.setTop (mkF m 215 #[sI p0, sI p1, sI p2, sI p3, sJ p4, uS, sI p5, sI (1 : Int32), sI (2 : Int32), sI shf, sI lo, sI hi, sI mi, sI lo, sI mi, sI hi, sD dA, uS, sD dB, uS, sD dC, uS, sR a60, sR a61, sR a64, sI p0, uU, uU, uU] [(.int (1 : Int32)), (.int shf)]))
      by_cases hs1 : if_icmp.holds .ne shf 1 = true
      · skip
        refine OwnGo.pre (fun t k => XS.icmpYes X65.here hx rfl (pc0 := 215) (pc' := 225) rfl (hb hby at_215) rfl hs1 (by decide) (by decide) (XS.iload X65.here hx rfl (hb hby at_225) rfl (XS.iconst X65.here hx rfl (hb hby at_227) k))) ?_
        show OwnGo _ _ _ _ (T65.setTop (mkF m 228 #[sI p0, sI p1, sI p2, sI p3, sJ p4, uS, sI p5, sI (1 : Int32), sI (2 : Int32), sI shf, sI lo, sI hi, sI mi, sI lo, sI mi, sI hi, sD dA, uS, sD dB, uS, sD dC, uS, sR a60, sR a61, sR a64, sI p0, uU, uU, uU] [(.int (2 : Int32)), (.int shf)]))
        by_cases hs2 : if_icmp.holds .ne shf 2 = true
        · skip
          refine OwnGo.pre (fun t k => XS.icmpYes X65.here hx rfl (pc0 := 228) (pc' := 238) rfl (hb hby at_228) rfl hs2 (by decide) (by decide) (XS.iload X65.here hx rfl (hb hby at_238) rfl k)) ?_
          show OwnGo _ _ _ _ (T65.setTop (mkF m 240 #[sI p0, sI p1, sI p2, sI p3, sJ p4, uS, sI p5, sI (1 : Int32), sI (2 : Int32), sI shf, sI lo, sI hi, sI mi, sI lo, sI mi, sI hi, sD dA, uS, sD dB, uS, sD dC, uS, sR a60, sR a61, sR a64, sI p0, uU, uU, uU] [(.int p0)]))
          exact K240 _ _ _
        · skip
          refine OwnGo.pre (fun t k => XS.icmpNo X65.here hx rfl (hb hby at_228) rfl (eq_false_of_ne_true hs2) (XS.iload X65.here hx rfl (hb hby at_231) rfl (XS.iconst X65.here hx rfl (hb hby at_233) (own_isub X65.here hx rfl (hb hby at_234) rfl rfl (XS.goto X65.here hx rfl (pc0 := 235) (pc' := 240) rfl (hb hby at_235) (by decide) (by decide) k))))) ?_
          show OwnGo _ _ _ _ (T65.setTop (mkF m 240 #[sI p0, sI p1, sI p2, sI p3, sJ p4, uS, sI p5, sI (1 : Int32), sI (2 : Int32), sI shf, sI lo, sI hi, sI mi, sI lo, sI mi, sI hi, sD dA, uS, sD dB, uS, sD dC, uS, sR a60, sR a61, sR a64, sI p0, uU, uU, uU] [(.int (p0 - (1 : Int32)))]))
          exact K240 _ _ _
      · skip
        refine OwnGo.pre (fun t k => XS.icmpNo X65.here hx rfl (hb hby at_215) rfl (eq_false_of_ne_true hs1) (XS.iload X65.here hx rfl (hb hby at_218) rfl (XS.iconst X65.here hx rfl (hb hby at_220) (own_iadd X65.here hx rfl (hb hby at_221) rfl rfl (XS.goto X65.here hx rfl (pc0 := 222) (pc' := 240) rfl (hb hby at_222) (by decide) (by decide) k))))) ?_
        show OwnGo _ _ _ _ (T65.setTop (mkF m 240 #[sI p0, sI p1, sI p2, sI p3, sJ p4, uS, sI p5, sI (1 : Int32), sI (2 : Int32), sI shf, sI lo, sI hi, sI mi, sI lo, sI mi, sI hi, sD dA, uS, sD dB, uS, sD dC, uS, sR a60, sR a61, sR a64, sI p0, uU, uU, uU] [(.int (p0 + (1 : Int32)))]))
        exact K240 _ _ _
    · skip
      show OwnGo _ _ _ _ (T65.setTop (mkF m 198 #[sI p0, sI p1, sI p2, sI p3, sJ p4, uS, sI p5, sI (1 : Int32), sI (3 : Int32), sI shf, sI lo, sI hi, sI mi, sI lo, sI mi, sI hi, sD dA, uS, sD dB, uS, sD dC, uS, sR a60, sR a61, sR a64, uU, uU, uU, uU] [(.int (1 : Int32)), (.int (3 : Int32))]))
      refine OwnGo.pre (fun t k => XS.icmpYes X65.here hx rfl (pc0 := 198) (pc' := 209) rfl (hb hby at_198) rfl (by decide) (by decide) (by decide) (XS.iloadN X65.here hx rfl (hb hby at_209) rfl (XS.istore X65.here hx rfl (hb hby at_210) rfl (l' := #[sI p0, sI p1, sI p2, sI p3, sJ p4, uS, sI p5, sI (1 : Int32), sI (3 : Int32), sI shf, sI lo, sI hi, sI mi, sI lo, sI mi, sI hi, sD dA, uS, sD dB, uS, sD dC, uS, sR a60, sR a61, sR a64, sI p0, uU, uU, uU]) rfl (XS.iload X65.here hx rfl (hb hby at_212) rfl (XS.iconst X65.here hx rfl (hb hby at_214) k))))) ?_
      show OwnGo _ _ _ _ (T65.setTop (mkF m 215 #[sI p0, sI p1, sI p2, sI p3, sJ p4, uS, sI p5, sI (1 : Int32), sI (3 : Int32), sI shf, sI lo, sI hi, sI mi, sI lo, sI mi, sI hi, sD dA, uS, sD dB, uS, sD dC, uS, sR a60, sR a61, sR a64, sI p0, uU, uU, uU] [(.int (1 : Int32)), (.int shf)]))
      by_cases hs1 : if_icmp.holds .ne shf 1 = true
      · skip
        refine OwnGo.pre (fun t k => XS.icmpYes X65.here hx rfl (pc0 := 215) (pc' := 225) rfl (hb hby at_215) rfl hs1 (by decide) (by decide) (XS.iload X65.here hx rfl (hb hby at_225) rfl (XS.iconst X65.here hx rfl (hb hby at_227) k))) ?_
        show OwnGo _ _ _ _ (T65.setTop (mkF m 228 #[sI p0, sI p1, sI p2, sI p3, sJ p4, uS, sI p5, sI (1 : Int32), sI (3 : Int32), sI shf, sI lo, sI hi, sI mi, sI lo, sI mi, sI hi, sD dA, uS, sD dB, uS, sD dC, uS, sR a60, sR a61, sR a64, sI p0, uU, uU, uU] [(.int (2 : Int32)), (.int shf)]))
        by_cases hs2 : if_icmp.holds .ne shf 2 = true
        · skip
          refine OwnGo.pre (fun t k => XS.icmpYes X65.here hx rfl (pc0 := 228) (pc' := 238) rfl (hb hby at_228) rfl hs2 (by decide) (by decide) (XS.iload X65.here hx rfl (hb hby at_238) rfl k)) ?_
          show OwnGo _ _ _ _ (T65.setTop (mkF m 240 #[sI p0, sI p1, sI p2, sI p3, sJ p4, uS, sI p5, sI (1 : Int32), sI (3 : Int32), sI shf, sI lo, sI hi, sI mi, sI lo, sI mi, sI hi, sD dA, uS, sD dB, uS, sD dC, uS, sR a60, sR a61, sR a64, sI p0, uU, uU, uU] [(.int p0)]))
          exact K240 _ _ _
        · skip
          refine OwnGo.pre (fun t k => XS.icmpNo X65.here hx rfl (hb hby at_228) rfl (eq_false_of_ne_true hs2) (XS.iload X65.here hx rfl (hb hby at_231) rfl (XS.iconst X65.here hx rfl (hb hby at_233) (own_isub X65.here hx rfl (hb hby at_234) rfl rfl (XS.goto X65.here hx rfl (pc0 := 235) (pc' := 240) rfl (hb hby at_235) (by decide) (by decide) k))))) ?_
          show OwnGo _ _ _ _ (T65.setTop (mkF m 240 #[sI p0, sI p1, sI p2, sI p3, sJ p4, uS, sI p5, sI (1 : Int32), sI (3 : Int32), sI shf, sI lo, sI hi, sI mi, sI lo, sI mi, sI hi, sD dA, uS, sD dB, uS, sD dC, uS, sR a60, sR a61, sR a64, sI p0, uU, uU, uU] [(.int (p0 - (1 : Int32)))]))
          exact K240 _ _ _
      · skip
        refine OwnGo.pre (fun t k => XS.icmpNo X65.here hx rfl (hb hby at_215) rfl (eq_false_of_ne_true hs1) (XS.iload X65.here hx rfl (hb hby at_218) rfl (XS.iconst X65.here hx rfl (hb hby at_220) (own_iadd X65.here hx rfl (hb hby at_221) rfl rfl (XS.goto X65.here hx rfl (pc0 := 222) (pc' := 240) rfl (hb hby at_222) (by decide) (by decide) k))))) ?_
        show OwnGo _ _ _ _ (T65.setTop (mkF m 240 #[sI p0, sI p1, sI p2, sI p3, sJ p4, uS, sI p5, sI (1 : Int32), sI (3 : Int32), sI shf, sI lo, sI hi, sI mi, sI lo, sI mi, sI hi, sD dA, uS, sD dB, uS, sD dC, uS, sR a60, sR a61, sR a64, sI p0, uU, uU, uU] [(.int (p0 + (1 : Int32)))]))
        exact K240 _ _ _
  · skip
    show OwnGo _ _ _ _ (T54.setTop (mkF m 69 #[sI p0, sI p1, sI p2, sI p3, sJ p4, uS, sI p5, sI (2 : Int32), sI sel, sI shf, sI lo, sI hi, sI mi, sI lo, sI mi, sI hi, uU, uU, uU, uU, uU, uU, uU, uU, uU, uU, uU, uU, uU] [(.int (2 : Int32)), (.int (2 : Int32))]))
    refine OwnGo.pre (fun t k => XS.icmpNo X54.here hx rfl (hb hby at_69) rfl (by decide) (XS.iload X54.here hx rfl (hb hby at_72) rfl (XS.iload X54.here hx rfl (hb hby at_74) rfl k))) ?_
    show OwnGo _ _ _ _ (T54.setTop (mkF m 76 #[sI p0, sI p1, sI p2, sI p3, sJ p4, uS, sI p5, sI (2 : Int32), sI sel, sI shf, sI lo, sI hi, sI mi, sI lo, sI mi, sI hi, uU, uU, uU, uU, uU, uU, uU, uU, uU, uU, uU, uU, uU] [(.int mi), (.int lo)]))
    by_cases h01 : lo = mi
    · skip
      refine OwnGo.pre (fun t k => XS.icmpNo X54.here hx rfl (hb hby at_76) rfl (own_neF h01) (XS.iconst X54.here hx rfl (hb hby at_79) k)) ?_
      show OwnGo _ _ _ _ (T54.setTop (mkF m 80 #[sI p0, sI p1, sI p2, sI p3, sJ p4, uS, sI p5, sI (2 : Int32), sI sel, sI shf, sI lo, sI hi, sI mi, sI lo, sI mi, sI hi, uU, uU, uU, uU, uU, uU, uU, uU, uU, uU, uU, uU, uU] [(.int (1 : Int32))]))
      exact own_retZ X54 hx hk hrt (hb hby at_80) ⟨rfl, M54⟩ (by decide) (by decide)
    · skip
      obtain ⟨dA, hdA⟩ : ∃ v, FP.i2d p4.toInt32 = v := ⟨_, rfl⟩
      refine OwnGo.pre (fun t k => XS.icmpYes X54.here hx rfl (pc0 := 76) (pc' := 81) rfl (hb hby at_76) rfl (own_neT h01) (by decide) (by decide) (XS.iload X54.here hx rfl (hb hby at_81) rfl (XS.iconst X54.here hx rfl (hb hby at_83) (XS.icmpYes X54.here hx rfl (pc0 := 84) (pc' := 96) rfl (hb hby at_84) rfl (by decide) (by decide) (by decide) (XT.lload X54.here hx rfl (hb hby at_96) rfl (own_l2i X54.here hx rfl (hb hby at_98) rfl rfl (XS.i2dS X54.here hx rfl (hb hby at_99) rfl hdA (XS.dstore X54.here hx rfl (hb hby at_100) rfl (l' := #[sI p0, sI p1, sI p2, sI p3, sJ p4, uS, sI p5, sI (2 : Int32), sI sel, sI shf, sI lo, sI hi, sI mi, sI lo, sI mi, sI hi, sD dA, uS, uU, uU, uU, uU, uU, uU, uU, uU, uU, uU, uU]) rfl k)))))))) ?_
      show OwnGo _ _ _ _ (T54.setTop (mkF m 102 #[sI p0, sI p1, sI p2, sI p3, sJ p4, uS, sI p5, sI (2 : Int32), sI sel, sI shf, sI lo, sI hi, sI mi, sI lo, sI mi, sI hi, sD dA, uS, uU, uU, uU, uU, uU, uU, uU, uU, uU, uU, uU] []))
      obtain ⟨dB, hdB⟩ : ∃ v, FP.i2d ((XT.ushrL p4 (32 : Int32)).toInt32) = v := ⟨_, rfl⟩
      obtain ⟨dC, hdC⟩ : ∃ v, FP.i2d p5 = v := ⟨_, rfl⟩
      refine OwnGo.pre (fun t k => XT.lload X54.here hx rfl (hb hby at_102) rfl (XS.bipush X54.here hx rfl (hb hby at_104) (own_lushr X54.here hx rfl (hb hby at_106) rfl rfl (own_l2i X54.here hx rfl (hb hby at_107) rfl rfl (XS.i2dS X54.here hx rfl (hb hby at_108) rfl hdB (XS.dstore X54.here hx rfl (hb hby at_109) rfl (l' := #[sI p0, sI p1, sI p2, sI p3, sJ p4, uS, sI p5, sI (2 : Int32), sI sel, sI shf, sI lo, sI hi, sI mi, sI lo, sI mi, sI hi, sD dA, uS, sD dB, uS, uU, uU, uU, uU, uU, uU, uU, uU, uU]) rfl (XS.iload X54.here hx rfl (hb hby at_111) rfl (XS.i2dS X54.here hx rfl (hb hby at_113) rfl hdC k)))))))) ?_
      show OwnGo _ _ _ _ (T54.setTop (mkF m 114 #[sI p0, sI p1, sI p2, sI p3, sJ p4, uS, sI p5, sI (2 : Int32), sI sel, sI shf, sI lo, sI hi, sI mi, sI lo, sI mi, sI hi, sD dA, uS, sD dB, uS, uU, uU, uU, uU, uU, uU, uU, uU, uU] [(.double dC)]))
      have nA : Jvm.Free.Fl.NoNaN64 dA := hdA ▸ own_nn (own_i2d _)
      have nB : Jvm.Free.Fl.NoNaN64 dB := hdB ▸ own_nn (own_i2d _)
      have nC : Jvm.Free.Fl.NoNaN64 dC := hdC ▸ own_nn (own_i2d _)
      refine OwnGo.pre (fun t k => XS.dstore X54.here hx rfl (hb hby at_114) rfl (l' := #[sI p0, sI p1, sI p2, sI p3, sJ p4, uS, sI p5, sI (2 : Int32), sI sel, sI shf, sI lo, sI hi, sI mi, sI lo, sI mi, sI hi, sD dA, uS, sD dB, uS, sD dC, uS, uU, uU, uU, uU, uU, uU, uU]) rfl (XS.iload X54.here hx rfl (hb hby at_116) rfl k)) ?_
      show OwnGo _ _ _ _ (T54.setTop (mkF m 118 #[sI p0, sI p1, sI p2, sI p3, sJ p4, uS, sI p5, sI (2 : Int32), sI sel, sI shf, sI lo, sI hi, sI mi, sI lo, sI mi, sI hi, sD dA, uS, sD dB, uS, sD dC, uS, uU, uU, uU, uU, uU, uU, uU] [(.int (2 : Int32))]))
      obtain ⟨T68, h68, X68, e68, E68, A68, Q68, st68⟩ := own_newIX X54 hx hZ (hw _ (List.mem_of_getElem? (i := 7) rfl)) e54 (g := (mkF m 118 #[sI p0, sI p1, sI p2, sI p3, sJ p4, uS, sI p5, sI (2 : Int32), sI sel, sI shf, sI lo, sI hi, sI mi, sI lo, sI mi, sI hi, sD dA, uS, sD dB, uS, sD dC, uS, uU, uU, uU, uU, uU, uU, uU] [(.int (2 : Int32))])) rfl (hb hby at_118) rfl (by decide) (n := 2) (by decide) (by decide) (by decide) (by decide)
      obtain ⟨a68, g68⟩ : ∃ z, z = h0.size := ⟨_, rfl⟩
      rw [← g68] at A68 Q68 st68
      have G68 : n0 ≤ a68 := Nat.le_trans Z0 (Nat.le_of_eq g68.symm)
      have Z68 : n0 ≤ h68.size := Nat.le_trans Z0 E68.1
      refine OwnGo.pre (fun t k => st68 t k) ?_
      show OwnGo _ _ _ _ (T68.setTop (mkF m 120 #[sI p0, sI p1, sI p2, sI p3, sJ p4, uS, sI p5, sI (2 : Int32), sI sel, sI shf, sI lo, sI hi, sI mi, sI lo, sI mi, sI hi, sD dA, uS, sD dB, uS, sD dC, uS, uU, uU, uU, uU, uU, uU, uU] [(.ref a68)]))
      have A68n : OwnIA Z h68 a68 [0, 0] := A68
      refine OwnGo.pre (fun t k => XS.astore X68.here hx rfl (hb hby at_120) rfl rfl (l' := #[sI p0, sI p1, sI p2, sI p3, sJ p4, uS, sI p5, sI (2 : Int32), sI sel, sI shf, sI lo, sI hi, sI mi, sI lo, sI mi, sI hi, sD dA, uS, sD dB, uS, sD dC, uS, sR a68, uU, uU, uU, uU, uU, uU]) rfl (XS.iload X68.here hx rfl (hb hby at_122) rfl k)) ?_
      show OwnGo _ _ _ _ (T68.setTop (mkF m 124 #[sI p0, sI p1, sI p2, sI p3, sJ p4, uS, sI p5, sI (2 : Int32), sI sel, sI shf, sI lo, sI hi, sI mi, sI lo, sI mi, sI hi, sD dA, uS, sD dB, uS, sD dC, uS, sR a68, uU, uU, uU, uU, uU, uU] [(.int (2 : Int32))]))
      obtain ⟨T69, h69, X69, e69, E69, A69, Q69, st69⟩ := own_newDX X68 hx hZ (hw _ (List.mem_of_getElem? (i := 8) rfl)) e68 (g := (mkF m 124 #[sI p0, sI p1, sI p2, sI p3, sJ p4, uS, sI p5, sI (2 : Int32), sI sel, sI shf, sI lo, sI hi, sI mi, sI lo, sI mi, sI hi, sD dA, uS, sD dB, uS, sD dC, uS, sR a68, uU, uU, uU, uU, uU, uU] [(.int (2 : Int32))])) rfl (hb hby at_124) rfl (by decide) (n := 2) (by decide) (by decide) (by decide) (by decide)
      obtain ⟨a69, g69⟩ : ∃ z, z = h68.size := ⟨_, rfl⟩
      rw [← g69] at A69 Q69 st69
      have G69 : n0 ≤ a69 := Nat.le_trans Z68 (Nat.le_of_eq g69.symm)
      have Z69 : n0 ≤ h69.size := Nat.le_trans Z68 E69.1
      refine OwnGo.pre (fun t k => st69 t k) ?_
      show OwnGo _ _ _ _ (T69.setTop (mkF m 126 #[sI p0, sI p1, sI p2, sI p3, sJ p4, uS, sI p5, sI (2 : Int32), sI sel, sI shf, sI lo, sI hi, sI mi, sI lo, sI mi, sI hi, sD dA, uS, sD dB, uS, sD dC, uS, sR a68, uU, uU, uU, uU, uU, uU] [(.ref a69)]))
      have A69n : OwnDA Z h69 a69 [0, 0] := A69
      have ne12 : a68 ≠ a69 := (Nat.ne_of_lt (Nat.lt_of_lt_of_le A68.lt (Nat.le_of_eq g69.symm)))
      have Ai := A68n.ex E69
      have Qi := Q68.ext E69
      refine OwnGo.pre (fun t k => XS.astore X69.here hx rfl (hb hby at_126) rfl rfl (l' := #[sI p0, sI p1, sI p2, sI p3, sJ p4, uS, sI p5, sI (2 : Int32), sI sel, sI shf, sI lo, sI hi, sI mi, sI lo, sI mi, sI hi, sD dA, uS, sD dB, uS, sD dC, uS, sR a68, sR a69, uU, uU, uU, uU, uU]) rfl (XS.iload X69.here hx rfl (hb hby at_128) rfl (XS.ifNo X69.here hx rfl (hb hby at_130) rfl (by decide) (XS.aload X69.here hx rfl (hb hby at_133) rfl rfl (XS.iconst X69.here hx rfl (hb hby at_135) (XS.iload X69.here hx rfl (hb hby at_136) rfl k)))))) ?_
      show OwnGo _ _ _ _ (T69.setTop (mkF m 138 #[sI p0, sI p1, sI p2, sI p3, sJ p4, uS, sI p5, sI (2 : Int32), sI sel, sI shf, sI lo, sI hi, sI mi, sI lo, sI mi, sI hi, sD dA, uS, sD dB, uS, sD dC, uS, sR a68, sR a69, uU, uU, uU, uU, uU] [(.int lo), (.int (0 : Int32)), (.ref a68)]))
      obtain ⟨T70, h70, X70, e70, W70, A70, st70⟩ := own_iaS X69 hx hZ e69 Ai (by decide) (i := 0) (by decide) (by show 0 < 2; decide) (g := (mkF m 138 #[sI p0, sI p1, sI p2, sI p3, sJ p4, uS, sI p5, sI (2 : Int32), sI sel, sI shf, sI lo, sI hi, sI mi, sI lo, sI mi, sI hi, sD dA, uS, sD dB, uS, sD dC, uS, sR a68, sR a69, uU, uU, uU, uU, uU] [(.int lo), (.int (0 : Int32)), (.ref a68)])) rfl rfl (hb hby at_138)
      have A70n : OwnIA Z h70 a68 [lo, 0] := A70
      have N70 := Fr.snoc X70 M54 G68
      have Z70 : n0 ≤ h70.size := by rw [W70.size]; exact Z69
      refine OwnGo.pre (fun t k => st70 t k) ?_
      show OwnGo _ _ _ _ (T70.setTop (mkF m 139 #[sI p0, sI p1, sI p2, sI p3, sJ p4, uS, sI p5, sI (2 : Int32), sI sel, sI shf, sI lo, sI hi, sI mi, sI lo, sI mi, sI hi, sD dA, uS, sD dB, uS, sD dC, uS, sR a68, sR a69, uU, uU, uU, uU, uU] []))
      have Qi70 := Qi.wr W70
      have Ad70 := A69n.ot W70 ne12.symm
      have Qd70 := Q69.wr W70
      refine OwnGo.pre (fun t k => XS.aload X70.here hx rfl (hb hby at_139) rfl rfl (XS.iconst X70.here hx rfl (hb hby at_141) (XS.dload X70.here hx rfl (hb hby at_142) rfl k))) ?_
      show OwnGo _ _ _ _ (T70.setTop (mkF m 144 #[sI p0, sI p1, sI p2, sI p3, sJ p4, uS, sI p5, sI (2 : Int32), sI sel, sI shf, sI lo, sI hi, sI mi, sI lo, sI mi, sI hi, sD dA, uS, sD dB, uS, sD dC, uS, sR a68, sR a69, uU, uU, uU, uU, uU] [(.double dA), (.int (0 : Int32)), (.ref a69)]))
      obtain ⟨T71, h71, X71, e71, W71, A71, st71⟩ := own_daS X70 hx hZ e70 Ad70 (by decide) (i := 0) (by decide) (by show 0 < 2; decide) (g := (mkF m 144 #[sI p0, sI p1, sI p2, sI p3, sJ p4, uS, sI p5, sI (2 : Int32), sI sel, sI shf, sI lo, sI hi, sI mi, sI lo, sI mi, sI hi, sD dA, uS, sD dB, uS, sD dC, uS, sR a68, sR a69, uU, uU, uU, uU, uU] [(.double dA), (.int (0 : Int32)), (.ref a69)])) rfl rfl (hb hby at_144)
      have A71n : OwnDA Z h71 a69 [dA, 0] := A71
      have N71 := Fr.snoc X71 N70 G69
      have Z71 : n0 ≤ h71.size := by rw [W71.size]; exact Z70
      refine OwnGo.pre (fun t k => st71 t k) ?_
      show OwnGo _ _ _ _ (T71.setTop (mkF m 145 #[sI p0, sI p1, sI p2, sI p3, sJ p4, uS, sI p5, sI (2 : Int32), sI sel, sI shf, sI lo, sI hi, sI mi, sI lo, sI mi, sI hi, sD dA, uS, sD dB, uS, sD dC, uS, sR a68, sR a69, uU, uU, uU, uU, uU] []))
      have Qi71 := Qi70.wr W71
      have Ai71 := A70n.ot W71 ne12
      have Qd71 := Qd70.wr W71
      refine OwnGo.pre (fun t k => XS.iload X71.here hx rfl (hb hby at_145) rfl (XS.iconst X71.here hx rfl (hb hby at_147) (XS.icmpNo X71.here hx rfl (hb hby at_148) rfl (by decide) (XS.aload X71.here hx rfl (hb hby at_151) rfl rfl (XS.iconst X71.here hx rfl (hb hby at_153) (XS.iload X71.here hx rfl (hb hby at_154) rfl k)))))) ?_
      show OwnGo _ _ _ _ (T71.setTop (mkF m 156 #[sI p0, sI p1, sI p2, sI p3, sJ p4, uS, sI p5, sI (2 : Int32), sI sel, sI shf, sI lo, sI hi, sI mi, sI lo, sI mi, sI hi, sD dA, uS, sD dB, uS, sD dC, uS, sR a68, sR a69, uU, uU, uU, uU, uU] [(.int mi), (.int (1 : Int32)), (.ref a68)]))
      obtain ⟨T72, h72, X72, e72, W72, A72, st72⟩ := own_iaS X71 hx hZ e71 Ai71 (by decide) (i := 1) (by decide) (by show 1 < 2; decide) (g := (mkF m 156 #[sI p0, sI p1, sI p2, sI p3, sJ p4, uS, sI p5, sI (2 : Int32), sI sel, sI shf, sI lo, sI hi, sI mi, sI lo, sI mi, sI hi, sD dA, uS, sD dB, uS, sD dC, uS, sR a68, sR a69, uU, uU, uU, uU, uU] [(.int mi), (.int (1 : Int32)), (.ref a68)])) rfl rfl (hb hby at_156)
      have A72n : OwnIA Z h72 a68 [lo, mi] := A72
      have N72 := Fr.snoc X72 N71 G68
      have Z72 : n0 ≤ h72.size := by rw [W72.size]; exact Z71
      refine OwnGo.pre (fun t k => st72 t k) ?_
      show OwnGo _ _ _ _ (T72.setTop (mkF m 157 #[sI p0, sI p1, sI p2, sI p3, sJ p4, uS, sI p5, sI (2 : Int32), sI sel, sI shf, sI lo, sI hi, sI mi, sI lo, sI mi, sI hi, sD dA, uS, sD dB, uS, sD dC, uS, sR a68, sR a69, uU, uU, uU, uU, uU] []))
      have Qi72 := Qi71.wr W72
      have Ad72 := A71n.ot W72 ne12.symm
      have Qd72 := Qd71.wr W72
      refine OwnGo.pre (fun t k => XS.aload X72.here hx rfl (hb hby at_157) rfl rfl (XS.iconst X72.here hx rfl (hb hby at_159) (XS.dload X72.here hx rfl (hb hby at_160) rfl k))) ?_
      show OwnGo _ _ _ _ (T72.setTop (mkF m 162 #[sI p0, sI p1, sI p2, sI p3, sJ p4, uS, sI p5, sI (2 : Int32), sI sel, sI shf, sI lo, sI hi, sI mi, sI lo, sI mi, sI hi, sD dA, uS, sD dB, uS, sD dC, uS, sR a68, sR a69, uU, uU, uU, uU, uU] [(.double dB), (.int (1 : Int32)), (.ref a69)]))
      obtain ⟨T73, h73, X73, e73, W73, A73, st73⟩ := own_daS X72 hx hZ e72 Ad72 (by decide) (i := 1) (by decide) (by show 1 < 2; decide) (g := (mkF m 162 #[sI p0, sI p1, sI p2, sI p3, sJ p4, uS, sI p5, sI (2 : Int32), sI sel, sI shf, sI lo, sI hi, sI mi, sI lo, sI mi, sI hi, sD dA, uS, sD dB, uS, sD dC, uS, sR a68, sR a69, uU, uU, uU, uU, uU] [(.double dB), (.int (1 : Int32)), (.ref a69)])) rfl rfl (hb hby at_162)
      have A73n : OwnDA Z h73 a69 [dA, dB] := A73
      have N73 := Fr.snoc X73 N72 G69
      have Z73 : n0 ≤ h73.size := by rw [W73.size]; exact Z72
      refine OwnGo.pre (fun t k => st73 t k) ?_
      show OwnGo _ _ _ _ (T73.setTop (mkF m 163 #[sI p0, sI p1, sI p2, sI p3, sJ p4, uS, sI p5, sI (2 : Int32), sI sel, sI shf, sI lo, sI hi, sI mi, sI lo, sI mi, sI hi, sD dA, uS, sD dB, uS, sD dC, uS, sR a68, sR a69, uU, uU, uU, uU, uU] []))
      have Qi73 := Qi72.wr W73
      have Ai73 := A72n.ot W73 ne12
      have Qd73 := Qd72.wr W73
      refine OwnGo.pre (fun t k => XS.iload X73.here hx rfl (hb hby at_163) rfl (XS.iconst X73.here hx rfl (hb hby at_165) (XS.icmpYes X73.here hx rfl (pc0 := 166) (pc' := 181) rfl (hb hby at_166) rfl (by decide) (by decide) (by decide) k))) ?_
      show OwnGo _ _ _ _ (T73.setTop (mkF m 181 #[sI p0, sI p1, sI p2, sI p3, sJ p4, uS, sI p5, sI (2 : Int32), sI sel, sI shf, sI lo, sI hi, sI mi, sI lo, sI mi, sI hi, sD dA, uS, sD dB, uS, sD dC, uS, sR a68, sR a69, uU, uU, uU, uU, uU] []))
      obtain ⟨T74, h74, X74, e74, E74, A74, D74, -, st74⟩ := newO X73 hx hZ hown (hw _ (List.mem_of_getElem? (i := 9) rfl)) (hw _ (List.mem_of_getElem? (i := 10) rfl)) (hw _ (List.mem_of_getElem? (i := 11) rfl)) e73 (g := (mkF m 181 #[sI p0, sI p1, sI p2, sI p3, sJ p4, uS, sI p5, sI (2 : Int32), sI sel, sI shf, sI lo, sI hi, sI mi, sI lo, sI mi, sI hi, sD dA, uS, sD dB, uS, sD dC, uS, sR a68, sR a69, uU, uU, uU, uU, uU] [])) rfl (hb hby at_181) (by decide) (by decide)
      obtain ⟨a74, g74⟩ : ∃ z, z = h73.size := ⟨_, rfl⟩
      rw [← g74] at A74 D74 st74
      have G74 : n0 ≤ a74 := Nat.le_trans Z73 (Nat.le_of_eq g74.symm)
      have Z74 : n0 ≤ h74.size := Nat.le_trans Z73 E74.1
      refine OwnGo.pre (fun t k => st74 t k) ?_
      show OwnGo _ _ _ _ (T74.setTop (mkF m 184 #[sI p0, sI p1, sI p2, sI p3, sJ p4, uS, sI p5, sI (2 : Int32), sI sel, sI shf, sI lo, sI hi, sI mi, sI lo, sI mi, sI hi, sD dA, uS, sD dB, uS, sD dC, uS, sR a68, sR a69, uU, uU, uU, uU, uU] [(.ref a74)]))
      have Ai9 := Ai73.ex E74
      have Qi9 := Qi73.ext E74
      have Ad9 := A73n.ex E74
      have Qd9 := Qd73.ext E74
      have nio : a68 ≠ a74 := (Nat.ne_of_lt (Nat.lt_of_lt_of_le Ai73.lt (Nat.le_of_eq g74.symm)))
      have ndo : a69 ≠ a74 := (Nat.ne_of_lt (Nat.lt_of_lt_of_le A73n.lt (Nat.le_of_eq g74.symm)))
      refine OwnGo.pre (fun t k => XS.dup X74.here hx rfl (hb hby at_184) rfl rfl (XS.aload X74.here hx rfl (hb hby at_185) rfl rfl (XS.aload X74.here hx rfl (hb hby at_187) rfl rfl k))) ?_
      show OwnGo _ _ _ _ (T74.setTop (mkF m 189 #[sI p0, sI p1, sI p2, sI p3, sJ p4, uS, sI p5, sI (2 : Int32), sI sel, sI shf, sI lo, sI hi, sI mi, sI lo, sI mi, sI hi, sD dA, uS, sD dB, uS, sD dC, uS, sR a68, sR a69, uU, uU, uU, uU, uU] [(.ref a69), (.ref a68), (.ref a74), (.ref a74)]))
      obtain ⟨_, _, ⟨T75, L75, k75, n75⟩, -, X75, ⟨Lc75, hQ75, l75, y75, z75⟩, st75⟩ := X74.specialBack hx (y := (⟨"com/example/clausewright/clausewright/learning/ClauseModel$Weights", "<init>", "([I[D)V"⟩ : MethodName)) rfl hown (mvT hZ (hw _ (List.mem_of_getElem? (i := 12) rfl))) (mvT hZ (hw _ (List.mem_of_getElem? (i := 13) rfl))) (mvT hZ (hw _ (List.mem_of_getElem? (i := 14) rfl))) (by decide) (backOf (W := 1) (rmI2 l Z a0 hw [] a74 a68 a69 lo mi dA dB h74 n0 Z74 A74 (D74 (Or.inr (hw _ (List.mem_of_getElem? (i := 28) rfl))) (ty := (.array .int)) (by decide)) (D74 (Or.inr (hw _ (List.mem_of_getElem? (i := 36) rfl))) (ty := (.array .double)) (by decide)) G74 Ai9 Qi9 Ad9 Qd9 ndo) hZ (hw _ (List.mem_of_getElem? (i := 14) rfl)) (hw _ (List.mem_of_getElem? (i := 11) rfl)) (by decide) (by decide)) (g := (mkF m 189 #[sI p0, sI p1, sI p2, sI p3, sJ p4, uS, sI p5, sI (2 : Int32), sI sel, sI shf, sI lo, sI hi, sI mi, sI lo, sI mi, sI hi, sD dA, uS, sD dB, uS, sD dC, uS, sR a68, sR a69, uU, uU, uU, uU, uU] [(.ref a69), (.ref a68), (.ref a74), (.ref a74)])) rfl (by rw [hml]; rfl) (Steps.refl _) (a := a74) (argsL := [(.ref a68), (.ref a69)]) (rest := [(.ref a74)]) (lenOf pd_rmI2 rfl) rfl (by show 2 * 0 + _ ≤ _; exact Nat.le_of_eq rfl) (hb hby at_189) (fun _ _ => ⟨rfl, e74, (by decide : 3 + 2 ≤ _), (by decide : 6 + 4 ≤ _)⟩)
      dsimp only [Pt.U, Pt.locs, Pt.cells, Pt.slots] at X75 l75 y75 z75 st75 hQ75
      subst l75 y75 z75
      obtain ⟨ac, av, rfl, N75, K75, Z75, E75, F0, F1, Ac, Av⟩ := hQ75
      refine OwnGo.pre (fun t k => st75.trans k) ?_
      show OwnGo _ _ _ _ (T75.setTop (mkF m 192 #[sI p0, sI p1, sI p2, sI p3, sJ p4, uS, sI p5, sI (2 : Int32), sI sel, sI shf, sI lo, sI hi, sI mi, sI lo, sI mi, sI hi, sD dA, uS, sD dB, uS, sD dC, uS, sR a68, sR a69, uU, uU, uU, uU, uU] [(.ref a74)]))
      have M75 := Fr.app N73 N75
      have Aj := Ai9.kp K75 (ninS nio nin0)
      refine OwnGo.pre (fun t k => XS.astore X75.here hx rfl (hb hby at_192) rfl rfl (l' := #[sI p0, sI p1, sI p2, sI p3, sJ p4, uS, sI p5, sI (2 : Int32), sI sel, sI shf, sI lo, sI hi, sI mi, sI lo, sI mi, sI hi, sD dA, uS, sD dB, uS, sD dC, uS, sR a68, sR a69, sR a74, uU, uU, uU, uU]) rfl (XS.iload X75.here hx rfl (hb hby at_194) rfl (XS.iload X75.here hx rfl (hb hby at_196) rfl k))) ?_
      show OwnGo _ _ _ _ (T75.setTop (mkF m 198 #[sI p0, sI p1, sI p2, sI p3, sJ p4, uS, sI p5, sI (2 : Int32), sI sel, sI shf, sI lo, sI hi, sI mi, sI lo, sI mi, sI hi, sD dA, uS, sD dB, uS, sD dC, uS, sR a68, sR a69, sR a74, uU, uU, uU, uU] [(.int (2 : Int32)), (.int sel)]))
      have K240 : ∀ (se ba q : Int32), OwnGo p.tables e below (OwnEnd s (Q_rmL Z p0 p1 p2 p3 p4 p5 h0 n0) room_1.cells room_1.slots) (T75.setTop (mkF m 240 #[sI p0, sI p1, sI p2, sI p3, sJ p4, uS, sI p5, sI (2 : Int32), sI se, sI shf, sI lo, sI hi, sI mi, sI lo, sI mi, sI hi, sD dA, uS, sD dB, uS, sD dC, uS, sR a68, sR a69, sR a74, sI ba, uU, uU, uU] [(.int q)])) := by
        intro se ba q
        refine OwnGo.pre (fun t k => XS.istore X75.here hx rfl (hb hby at_240) rfl (l' := #[sI p0, sI p1, sI p2, sI p3, sJ p4, uS, sI p5, sI (2 : Int32), sI se, sI shf, sI lo, sI hi, sI mi, sI lo, sI mi, sI hi, sD dA, uS, sD dB, uS, sD dC, uS, sR a68, sR a69, sR a74, sI ba, sI q, uU, uU]) rfl (XS.dconst0 X75.here hx rfl (hb hby at_242) rfl (XS.dstore X75.here hx rfl (hb hby at_243) rfl (l' := #[sI p0, sI p1, sI p2, sI p3, sJ p4, uS, sI p5, sI (2 : Int32), sI se, sI shf, sI lo, sI hi, sI mi, sI lo, sI mi, sI hi, sD dA, uS, sD dB, uS, sD dC, uS, sR a68, sR a69, sR a74, sI ba, sI q, sD (0 : UInt64), uS]) rfl (XS.iload X75.here hx rfl (hb hby at_245) rfl (XS.iconst X75.here hx rfl (hb hby at_247) (XS.icmpYes X75.here hx rfl (pc0 := 248) (pc' := 262) rfl (hb hby at_248) rfl (by decide) (by decide) (by decide) (XS.iload X75.here hx rfl (hb hby at_262) rfl (XS.iconst X75.here hx rfl (hb hby at_264) k)))))))) ?_
        show OwnGo _ _ _ _ (T75.setTop (mkF m 265 #[sI p0, sI p1, sI p2, sI p3, sJ p4, uS, sI p5, sI (2 : Int32), sI se, sI shf, sI lo, sI hi, sI mi, sI lo, sI mi, sI hi, sD dA, uS, sD dB, uS, sD dC, uS, sR a68, sR a69, sR a74, sI ba, sI q, sD (0 : UInt64), uS] [(.int (1 : Int32)), (.int (2 : Int32))]))
        refine OwnGo.pre (fun t k => XS.icmpNo X75.here hx rfl (hb hby at_265) rfl (by decide) (XS.iload X75.here hx rfl (hb hby at_268) rfl (XS.iload X75.here hx rfl (hb hby at_270) rfl k))) ?_
        show OwnGo _ _ _ _ (T75.setTop (mkF m 272 #[sI p0, sI p1, sI p2, sI p3, sJ p4, uS, sI p5, sI (2 : Int32), sI se, sI shf, sI lo, sI hi, sI mi, sI lo, sI mi, sI hi, sD dA, uS, sD dB, uS, sD dC, uS, sR a68, sR a69, sR a74, sI ba, sI q, sD (0 : UInt64), uS] [(.int q), (.int mi)]))
        by_cases hh1 : mi = q
        · skip
          refine OwnGo.pre (fun t k => XS.icmpNo X75.here hx rfl (hb hby at_272) rfl (own_neF hh1) (XS.dload X75.here hx rfl (hb hby at_275) rfl (XS.dstore X75.here hx rfl (hb hby at_277) rfl (l' := #[sI p0, sI p1, sI p2, sI p3, sJ p4, uS, sI p5, sI (2 : Int32), sI se, sI shf, sI lo, sI hi, sI mi, sI lo, sI mi, sI hi, sD dA, uS, sD dB, uS, sD dC, uS, sR a68, sR a69, sR a74, sI ba, sI q, sD dB, uS]) rfl (XS.iload X75.here hx rfl (hb hby at_279) rfl (XS.ifNo X75.here hx rfl (hb hby at_281) rfl (by decide) (XS.iload X75.here hx rfl (hb hby at_284) rfl (XS.iload X75.here hx rfl (hb hby at_286) rfl k))))))) ?_
          show OwnGo _ _ _ _ (T75.setTop (mkF m 288 #[sI p0, sI p1, sI p2, sI p3, sJ p4, uS, sI p5, sI (2 : Int32), sI se, sI shf, sI lo, sI hi, sI mi, sI lo, sI mi, sI hi, sD dA, uS, sD dB, uS, sD dC, uS, sR a68, sR a69, sR a74, sI ba, sI q, sD dB, uS] [(.int q), (.int lo)]))
          by_cases hh0 : lo = q
          · skip
            refine OwnGo.pre (fun t k => XS.icmpNo X75.here hx rfl (hb hby at_288) rfl (own_neF hh0) (XS.dload X75.here hx rfl (hb hby at_291) rfl (XS.dstore X75.here hx rfl (hb hby at_293) rfl (l' := #[sI p0, sI p1, sI p2, sI p3, sJ p4, uS, sI p5, sI (2 : Int32), sI se, sI shf, sI lo, sI hi, sI mi, sI lo, sI mi, sI hi, sD dA, uS, sD dB, uS, sD dC, uS, sR a68, sR a69, sR a74, sI ba, sI q, sD dA, uS]) rfl (XS.aload X75.here hx rfl (hb hby at_295) rfl rfl (XS.iload X75.here hx rfl (hb hby at_297) rfl k))))) ?_
            show OwnGo _ _ _ _ (T75.setTop (mkF m 299 #[sI p0, sI p1, sI p2, sI p3, sJ p4, uS, sI p5, sI (2 : Int32), sI se, sI shf, sI lo, sI hi, sI mi, sI lo, sI mi, sI hi, sD dA, uS, sD dB, uS, sD dC, uS, sR a68, sR a69, sR a74, sI ba, sI q, sD dA, uS] [(.int q), (.ref a74)]))
            obtain ⟨cq76, kq76, qa76, qb76, qc76⟩ := isOf hZ rfl E75
            obtain ⟨_, _, ⟨T76, L76, k76, n76⟩, -, X76, ⟨Lc76, hQ76, l76, y76, z76⟩, st76⟩ := X75.virtualBack hx (y := (⟨"com/example/clausewright/clausewright/learning/ClauseModel$Weights", "valueIn", "(I)D"⟩ : MethodName)) (z := (⟨"com/example/clausewright/clausewright/learning/ClauseModel$Weights", "valueIn", "(I)D"⟩ : MethodName)) hown (mvT hZ (hw _ (List.mem_of_getElem? (i := 37) rfl))) (mvT hZ (hw _ (List.mem_of_getElem? (i := 38) rfl))) (notFace_of_selects (args := #[]) (mvT hZ (hw _ (List.mem_of_getElem? (i := 40) rfl)))) (mvT hZ (hw _ (List.mem_of_getElem? (i := 40) rfl))) (mvT hZ (hw _ (List.mem_of_getElem? (i := 39) rfl))) (by decide) (backOf (W := 0) (rmV2 l Z a0 hw [] a74 ac av lo mi dA dB q T75.heap n0 Z75 F0 F1 Ac Av) hZ (hw _ (List.mem_of_getElem? (i := 41) rfl)) (hw _ (List.mem_of_getElem? (i := 11) rfl)) (by decide) (by decide)) qa76 qc76 (g := (mkF m 299 #[sI p0, sI p1, sI p2, sI p3, sJ p4, uS, sI p5, sI (2 : Int32), sI se, sI shf, sI lo, sI hi, sI mi, sI lo, sI mi, sI hi, sD dA, uS, sD dB, uS, sD dC, uS, sR a68, sR a69, sR a74, sI ba, sI q, sD dA, uS] [(.int q), (.ref a74)])) rfl (by rw [hml]; rfl) (Steps.refl _) (argsL := [(.int q)]) (rest := []) (lenOf pd_rmV2 rfl) rfl (by show 2 * 0 + _ ≤ _; exact Nat.le_of_eq rfl) (hb hby at_299) (fun _ _ => ⟨rfl, rfl, (by decide : 5 + 0 ≤ _), (by decide : 10 + 0 ≤ _)⟩)
            dsimp only [Pt.U, Pt.locs, Pt.cells, Pt.slots] at X76 l76 y76 z76 st76 hQ76
            subst l76 y76 z76
            obtain ⟨rr, rfl, hr, N76, e76⟩ := hQ76
            refine OwnGo.pre (fun t k => st76.trans k) ?_
            show OwnGo _ _ _ _ (T76.setTop (mkF m 302 #[sI p0, sI p1, sI p2, sI p3, sJ p4, uS, sI p5, sI (2 : Int32), sI se, sI shf, sI lo, sI hi, sI mi, sI lo, sI mi, sI hi, sD dA, uS, sD dB, uS, sD dC, uS, sR a68, sR a69, sR a74, sI ba, sI q, sD dA, uS] [(.double rr)]))
            have M76 := Fr.app M75 N76
            have er : rr = dA := by rw [hr, if_pos hh0]
            refine OwnGo.pre (fun t k => XS.dload X76.here hx rfl (hb hby at_302) rfl (XS.dcmpS X76.here hx rfl (hb hby at_304) rfl rfl (XS.ifNo X76.here hx rfl (hb hby at_305) rfl (by rw [er, dcmpV_self nA]; rfl) (XS.iconst X76.here hx rfl (hb hby at_308) (XS.goto X76.here hx rfl (pc0 := 309) (pc' := 313) rfl (hb hby at_309) (by decide) (by decide) k))))) ?_
            show OwnGo _ _ _ _ (T76.setTop (mkF m 313 #[sI p0, sI p1, sI p2, sI p3, sJ p4, uS, sI p5, sI (2 : Int32), sI se, sI shf, sI lo, sI hi, sI mi, sI lo, sI mi, sI hi, sD dA, uS, sD dB, uS, sD dC, uS, sR a68, sR a69, sR a74, sI ba, sI q, sD dA, uS] [(.int (1 : Int32))]))
            exact own_retZ X76 hx hk hrt (hb hby at_313) ⟨rfl, M76⟩ (by decide) (by decide)
          · skip
            refine OwnGo.pre (fun t k => XS.icmpYes X75.here hx rfl (pc0 := 288) (pc' := 295) rfl (hb hby at_288) rfl (own_neT hh0) (by decide) (by decide) (XS.aload X75.here hx rfl (hb hby at_295) rfl rfl (XS.iload X75.here hx rfl (hb hby at_297) rfl k))) ?_
            show OwnGo _ _ _ _ (T75.setTop (mkF m 299 #[sI p0, sI p1, sI p2, sI p3, sJ p4, uS, sI p5, sI (2 : Int32), sI se, sI shf, sI lo, sI hi, sI mi, sI lo, sI mi, sI hi, sD dA, uS, sD dB, uS, sD dC, uS, sR a68, sR a69, sR a74, sI ba, sI q, sD dB, uS] [(.int q), (.ref a74)]))
            obtain ⟨cq77, kq77, qa77, qb77, qc77⟩ := isOf hZ rfl E75
            obtain ⟨_, _, ⟨T77, L77, k77, n77⟩, -, X77, ⟨Lc77, hQ77, l77, y77, z77⟩, st77⟩ := X75.virtualBack hx (y := (⟨"com/example/clausewright/clausewright/learning/ClauseModel$Weights", "valueIn", "(I)D"⟩ : MethodName)) (z := (⟨"com/example/clausewright/clausewright/learning/ClauseModel$Weights", "valueIn", "(I)D"⟩ : MethodName)) hown (mvT hZ (hw _ (List.mem_of_getElem? (i := 37) rfl))) (mvT hZ (hw _ (List.mem_of_getElem? (i := 38) rfl))) (notFace_of_selects (args := #[]) (mvT hZ (hw _ (List.mem_of_getElem? (i := 40) rfl)))) (mvT hZ (hw _ (List.mem_of_getElem? (i := 40) rfl))) (mvT hZ (hw _ (List.mem_of_getElem? (i := 39) rfl))) (by decide) (backOf (W := 0) (rmV2 l Z a0 hw [] a74 ac av lo mi dA dB q T75.heap n0 Z75 F0 F1 Ac Av) hZ (hw _ (List.mem_of_getElem? (i := 41) rfl)) (hw _ (List.mem_of_getElem? (i := 11) rfl)) (by decide) (by decide)) qa77 qc77 (g := (mkF m 299 #[sI p0, sI p1, sI p2, sI p3, sJ p4, uS, sI p5, sI (2 : Int32), sI se, sI shf, sI lo, sI hi, sI mi, sI lo, sI mi, sI hi, sD dA, uS, sD dB, uS, sD dC, uS, sR a68, sR a69, sR a74, sI ba, sI q, sD dB, uS] [(.int q), (.ref a74)])) rfl (by rw [hml]; rfl) (Steps.refl _) (argsL := [(.int q)]) (rest := []) (lenOf pd_rmV2 rfl) rfl (by show 2 * 0 + _ ≤ _; exact Nat.le_of_eq rfl) (hb hby at_299) (fun _ _ => ⟨rfl, rfl, (by decide : 5 + 0 ≤ _), (by decide : 10 + 0 ≤ _)⟩)
            dsimp only [Pt.U, Pt.locs, Pt.cells, Pt.slots] at X77 l77 y77 z77 st77 hQ77
            subst l77 y77 z77
            obtain ⟨rr, rfl, hr, N77, e77⟩ := hQ77
            refine OwnGo.pre (fun t k => st77.trans k) ?_
            show OwnGo _ _ _ _ (T77.setTop (mkF m 302 #[sI p0, sI p1, sI p2, sI p3, sJ p4, uS, sI p5, sI (2 : Int32), sI se, sI shf, sI lo, sI hi, sI mi, sI lo, sI mi, sI hi, sD dA, uS, sD dB, uS, sD dC, uS, sR a68, sR a69, sR a74, sI ba, sI q, sD dB, uS] [(.double rr)]))
            have M77 := Fr.app M75 N77
            have er : rr = dB := by rw [hr, if_neg hh0, if_pos hh1]
            refine OwnGo.pre (fun t k => XS.dload X77.here hx rfl (hb hby at_302) rfl (XS.dcmpS X77.here hx rfl (hb hby at_304) rfl rfl (XS.ifNo X77.here hx rfl (hb hby at_305) rfl (by rw [er, dcmpV_self nB]; rfl) (XS.iconst X77.here hx rfl (hb hby at_308) (XS.goto X77.here hx rfl (pc0 := 309) (pc' := 313) rfl (hb hby at_309) (by decide) (by decide) k))))) ?_
            show OwnGo _ _ _ _ (T77.setTop (mkF m 313 #[sI p0, sI p1, sI p2, sI p3, sJ p4, uS, sI p5, sI (2 : Int32), sI se, sI shf, sI lo, sI hi, sI mi, sI lo, sI mi, sI hi, sD dA, uS, sD dB, uS, sD dC, uS, sR a68, sR a69, sR a74, sI ba, sI q, sD dB, uS] [(.int (1 : Int32))]))
            exact own_retZ X77 hx hk hrt (hb hby at_313) ⟨rfl, M77⟩ (by decide) (by decide)
        · skip
          refine OwnGo.pre (fun t k => XS.icmpYes X75.here hx rfl (pc0 := 272) (pc' := 279) rfl (hb hby at_272) rfl (own_neT hh1) (by decide) (by decide) (XS.iload X75.here hx rfl (hb hby at_279) rfl (XS.ifNo X75.here hx rfl (hb hby at_281) rfl (by decide) (XS.iload X75.here hx rfl (hb hby at_284) rfl (XS.iload X75.here hx rfl (hb hby at_286) rfl k))))) ?_
          show OwnGo _ _ _ _ (T75.setTop (mkF m 288 #[sI p0, sI p1, sI p2, sI p3, sJ p4, uS, sI p5, sI (2 : Int32), sI se, sI shf, sI lo, sI hi, sI mi, sI lo, sI mi, sI hi, sD dA, uS, sD dB, uS, sD dC, uS, sR a68, sR a69, sR a74, sI ba, sI q, sD (0 : UInt64), uS] [(.int q), (.int lo)]))
          by_cases hh0 : lo = q
          · skip
            refine OwnGo.pre (fun t k => XS.icmpNo X75.here hx rfl (hb hby at_288) rfl (own_neF hh0) (XS.dload X75.here hx rfl (hb hby at_291) rfl (XS.dstore X75.here hx rfl (hb hby at_293) rfl (l' := #[sI p0, sI p1, sI p2, sI p3, sJ p4, uS, sI p5, sI (2 : Int32), sI se, sI shf, sI lo, sI hi, sI mi, sI lo, sI mi, sI hi, sD dA, uS, sD dB, uS, sD dC, uS, sR a68, sR a69, sR a74, sI ba, sI q, sD dA, uS]) rfl (XS.aload X75.here hx rfl (hb hby at_295) rfl rfl (XS.iload X75.here hx rfl (hb hby at_297) rfl k))))) ?_
            show OwnGo _ _ _ _ (T75.setTop (mkF m 299 #[sI p0, sI p1, sI p2, sI p3, sJ p4, uS, sI p5, sI (2 : Int32), sI se, sI shf, sI lo, sI hi, sI mi, sI lo, sI mi, sI hi, sD dA, uS, sD dB, uS, sD dC, uS, sR a68, sR a69, sR a74, sI ba, sI q, sD dA, uS] [(.int q), (.ref a74)]))
            obtain ⟨cq78, kq78, qa78, qb78, qc78⟩ := isOf hZ rfl E75
            obtain ⟨_, _, ⟨T78, L78, k78, n78⟩, -, X78, ⟨Lc78, hQ78, l78, y78, z78⟩, st78⟩ := X75.virtualBack hx (y := (⟨"com/example/clausewright/clausewright/learning/ClauseModel$Weights", "valueIn", "(I)D"⟩ : MethodName)) (z := (⟨"com/example/clausewright/clausewright/learning/ClauseModel$Weights", "valueIn", "(I)D"⟩ : MethodName)) hown (mvT hZ (hw _ (List.mem_of_getElem? (i := 37) rfl))) (mvT hZ (hw _ (List.mem_of_getElem? (i := 38) rfl))) (notFace_of_selects (args := #[]) (mvT hZ (hw _ (List.mem_of_getElem? (i := 40) rfl)))) (mvT hZ (hw _ (List.mem_of_getElem? (i := 40) rfl))) (mvT hZ (hw _ (List.mem_of_getElem? (i := 39) rfl))) (by decide) (backOf (W := 0) (rmV2 l Z a0 hw [] a74 ac av lo mi dA dB q T75.heap n0 Z75 F0 F1 Ac Av) hZ (hw _ (List.mem_of_getElem? (i := 41) rfl)) (hw _ (List.mem_of_getElem? (i := 11) rfl)) (by decide) (by decide)) qa78 qc78 (g := (mkF m 299 #[sI p0, sI p1, sI p2, sI p3, sJ p4, uS, sI p5, sI (2 : Int32), sI se, sI shf, sI lo, sI hi, sI mi, sI lo, sI mi, sI hi, sD dA, uS, sD dB, uS, sD dC, uS, sR a68, sR a69, sR a74, sI ba, sI q, sD dA, uS] [(.int q), (.ref a74)])) rfl (by rw [hml]; rfl) (Steps.refl _) (argsL := [(.int q)]) (rest := []) (lenOf pd_rmV2 rfl) rfl (by show 2 * 0 + _ ≤ _; exact Nat.le_of_eq rfl) (hb hby at_299) (fun _ _ => ⟨rfl, rfl, (by decide : 5 + 0 ≤ _), (by decide : 10 + 0 ≤ _)⟩)
            dsimp only [Pt.U, Pt.locs, Pt.cells, Pt.slots] at X78 l78 y78 z78 st78 hQ78
            subst l78 y78 z78
            obtain ⟨rr, rfl, hr, N78, e78⟩ := hQ78
            refine OwnGo.pre (fun t k => st78.trans k) ?_
            show OwnGo _ _ _ _ (T78.setTop (mkF m 302 #[sI p0, sI p1, sI p2, sI p3, sJ p4, uS, sI p5, sI (2 : Int32), sI se, sI shf, sI lo, sI hi, sI mi, sI lo, sI mi, sI hi, sD dA, uS, sD dB, uS, sD dC, uS, sR a68, sR a69, sR a74, sI ba, sI q, sD dA, uS] [(.double rr)]))
            have M78 := Fr.app M75 N78
            have er : rr = dA := by rw [hr, if_pos hh0]
            refine OwnGo.pre (fun t k => XS.dload X78.here hx rfl (hb hby at_302) rfl (XS.dcmpS X78.here hx rfl (hb hby at_304) rfl rfl (XS.ifNo X78.here hx rfl (hb hby at_305) rfl (by rw [er, dcmpV_self nA]; rfl) (XS.iconst X78.here hx rfl (hb hby at_308) (XS.goto X78.here hx rfl (pc0 := 309) (pc' := 313) rfl (hb hby at_309) (by decide) (by decide) k))))) ?_
            show OwnGo _ _ _ _ (T78.setTop (mkF m 313 #[sI p0, sI p1, sI p2, sI p3, sJ p4, uS, sI p5, sI (2 : Int32), sI se, sI shf, sI lo, sI hi, sI mi, sI lo, sI mi, sI hi, sD dA, uS, sD dB, uS, sD dC, uS, sR a68, sR a69, sR a74, sI ba, sI q, sD dA, uS] [(.int (1 : Int32))]))
            exact own_retZ X78 hx hk hrt (hb hby at_313) ⟨rfl, M78⟩ (by decide) (by decide)
          · skip
            refine OwnGo.pre (fun t k => XS.icmpYes X75.here hx rfl (pc0 := 288) (pc' := 295) rfl (hb hby at_288) rfl (own_neT hh0) (by decide) (by decide) (XS.aload X75.here hx rfl (hb hby at_295) rfl rfl (XS.iload X75.here hx rfl (hb hby at_297) rfl k))) ?_
            show OwnGo _ _ _ _ (T75.setTop (mkF m 299 #[sI p0, sI p1, sI p2, sI p3, sJ p4, uS, sI p5, sI (2 : Int32), sI se, sI shf, sI lo, sI hi, sI mi, sI lo, sI mi, sI hi, sD dA, uS, sD dB, uS, sD dC, uS, sR a68, sR a69, sR a74, sI ba, sI q, sD (0 : UInt64), uS] [(.int q), (.ref a74)]))
            obtain ⟨cq79, kq79, qa79, qb79, qc79⟩ := isOf hZ rfl E75
            obtain ⟨_, _, ⟨T79, L79, k79, n79⟩, -, X79, ⟨Lc79, hQ79, l79, y79, z79⟩, st79⟩ := X75.virtualBack hx (y := (⟨"com/example/clausewright/clausewright/learning/ClauseModel$Weights", "valueIn", "(I)D"⟩ : MethodName)) (z := (⟨"com/example/clausewright/clausewright/learning/ClauseModel$Weights", "valueIn", "(I)D"⟩ : MethodName)) hown (mvT hZ (hw _ (List.mem_of_getElem? (i := 37) rfl))) (mvT hZ (hw _ (List.mem_of_getElem? (i := 38) rfl))) (notFace_of_selects (args := #[]) (mvT hZ (hw _ (List.mem_of_getElem? (i := 40) rfl)))) (mvT hZ (hw _ (List.mem_of_getElem? (i := 40) rfl))) (mvT hZ (hw _ (List.mem_of_getElem? (i := 39) rfl))) (by decide) (backOf (W := 0) (rmV2 l Z a0 hw [] a74 ac av lo mi dA dB q T75.heap n0 Z75 F0 F1 Ac Av) hZ (hw _ (List.mem_of_getElem? (i := 41) rfl)) (hw _ (List.mem_of_getElem? (i := 11) rfl)) (by decide) (by decide)) qa79 qc79 (g := (mkF m 299 #[sI p0, sI p1, sI p2, sI p3, sJ p4, uS, sI p5, sI (2 : Int32), sI se, sI shf, sI lo, sI hi, sI mi, sI lo, sI mi, sI hi, sD dA, uS, sD dB, uS, sD dC, uS, sR a68, sR a69, sR a74, sI ba, sI q, sD (0 : UInt64), uS] [(.int q), (.ref a74)])) rfl (by rw [hml]; rfl) (Steps.refl _) (argsL := [(.int q)]) (rest := []) (lenOf pd_rmV2 rfl) rfl (by show 2 * 0 + _ ≤ _; exact Nat.le_of_eq rfl) (hb hby at_299) (fun _ _ => ⟨rfl, rfl, (by decide : 5 + 0 ≤ _), (by decide : 10 + 0 ≤ _)⟩)
            dsimp only [Pt.U, Pt.locs, Pt.cells, Pt.slots] at X79 l79 y79 z79 st79 hQ79
            subst l79 y79 z79
            obtain ⟨rr, rfl, hr, N79, e79⟩ := hQ79
            refine OwnGo.pre (fun t k => st79.trans k) ?_
            show OwnGo _ _ _ _ (T79.setTop (mkF m 302 #[sI p0, sI p1, sI p2, sI p3, sJ p4, uS, sI p5, sI (2 : Int32), sI se, sI shf, sI lo, sI hi, sI mi, sI lo, sI mi, sI hi, sD dA, uS, sD dB, uS, sD dC, uS, sR a68, sR a69, sR a74, sI ba, sI q, sD (0 : UInt64), uS] [(.double rr)]))
            have M79 := Fr.app M75 N79
            have er : rr = 0 := by rw [hr, if_neg hh0, if_neg hh1]
            refine OwnGo.pre (fun t k => XS.dload X79.here hx rfl (hb hby at_302) rfl (XS.dcmpS X79.here hx rfl (hb hby at_304) rfl rfl (XS.ifNo X79.here hx rfl (hb hby at_305) rfl (by rw [er, dcmpV_self own_nn0]; rfl) (XS.iconst X79.here hx rfl (hb hby at_308) (XS.goto X79.here hx rfl (pc0 := 309) (pc' := 313) rfl (hb hby at_309) (by decide) (by decide) k))))) ?_
            show OwnGo _ _ _ _ (T79.setTop (mkF m 313 #[sI p0, sI p1, sI p2, sI p3, sJ p4, uS, sI p5, sI (2 : Int32), sI se, sI shf, sI lo, sI hi, sI mi, sI lo, sI mi, sI hi, sD dA, uS, sD dB, uS, sD dC, uS, sR a68, sR a69, sR a74, sI ba, sI q, sD (0 : UInt64), uS] [(.int (1 : Int32))]))
            exact own_retZ X79 hx hk hrt (hb hby at_313) ⟨rfl, M79⟩ (by decide) (by decide)
      rcases csel with rfl | rfl | rfl | rfl
      · skip
        show OwnGo _ _ _ _ (T75.setTop (mkF m 198 #[sI p0, sI p1, sI p2, sI p3, sJ p4, uS, sI p5, sI (2 : Int32), sI (0 : Int32), sI shf, sI lo, sI hi, sI mi, sI lo, sI mi, sI hi, sD dA, uS, sD dB, uS, sD dC, uS, sR a68, sR a69, sR a74, uU, uU, uU, uU] [(.int (2 : Int32)), (.int (0 : Int32))]))
        refine OwnGo.pre (fun t k => XS.icmpNo X75.here hx rfl (hb hby at_198) rfl (by decide) (XS.aload X75.here hx rfl (hb hby at_201) rfl rfl (XS.iload X75.here hx rfl (hb hby at_203) rfl (own_iaL X75 hx hZ rfl Aj (j := (0 : Int32)) (by decide) (i := 0) (by decide) (x := lo) rfl (g := (mkF m 205 #[sI p0, sI p1, sI p2, sI p3, sJ p4, uS, sI p5, sI (2 : Int32), sI (0 : Int32), sI shf, sI lo, sI hi, sI mi, sI lo, sI mi, sI hi, sD dA, uS, sD dB, uS, sD dC, uS, sR a68, sR a69, sR a74, uU, uU, uU, uU] [(.int (0 : Int32)), (.ref a68)])) rfl (rest := []) rfl (hb hby at_205) (XS.goto X75.here hx rfl (pc0 := 206) (pc' := 210) rfl (hb hby at_206) (by decide) (by decide) (XS.istore X75.here hx rfl (hb hby at_210) rfl (l' := #[sI p0, sI p1, sI p2, sI p3, sJ p4, uS, sI p5, sI (2 : Int32), sI (0 : Int32), sI shf, sI lo, sI hi, sI mi, sI lo, sI mi, sI hi, sD dA, uS, sD dB, uS, sD dC, uS, sR a68, sR a69, sR a74, sI lo, uU, uU, uU]) rfl (XS.iload X75.here hx rfl (hb hby at_212) rfl (XS.iconst X75.here hx rfl (hb hby at_214) k)))))))) ?_
        show OwnGo _ _ _ _ (T75.setTop (mkF m 215 #[sI p0, sI p1, sI p2, sI p3, sJ p4, uS, sI p5, sI (2 : Int32), sI (0 : Int32), sI shf, sI lo, sI hi, sI mi, sI lo, sI mi, sI hi, sD dA, uS, sD dB, uS, sD dC, uS, sR a68, sR a69, sR a74, sI lo, uU, uU, uU] [(.int (1 : Int32)), (.int shf)]))
        by_cases hs1 : if_icmp.holds .ne shf 1 = true
        · skip
          refine OwnGo.pre (fun t k => XS.icmpYes X75.here hx rfl (pc0 := 215) (pc' := 225) rfl (hb hby at_215) rfl hs1 (by decide) (by decide) (XS.iload X75.here hx rfl (hb hby at_225) rfl (XS.iconst X75.here hx rfl (hb hby at_227) k))) ?_
          show OwnGo _ _ _ _ (T75.setTop (mkF m 228 #[sI p0, sI p1, sI p2, sI p3, sJ p4, uS, sI p5, sI (2 : Int32), sI (0 : Int32), sI shf, sI lo, sI hi, sI mi, sI lo, sI mi, sI hi, sD dA, uS, sD dB, uS, sD dC, uS, sR a68, sR a69, sR a74, sI lo, uU, uU, uU] [(.int (2 : Int32)), (.int shf)]))
          by_cases hs2 : if_icmp.holds .ne shf 2 = true
          · skip
            refine OwnGo.pre (fun t k => XS.icmpYes X75.here hx rfl (pc0 := 228) (pc' := 238) rfl (hb hby at_228) rfl hs2 (by decide) (by decide) (XS.iload X75.here hx rfl (hb hby at_238) rfl k)) ?_
            show OwnGo _ _ _ _ (T75.setTop (mkF m 240 #[sI p0, sI p1, sI p2, sI p3, sJ p4, uS, sI p5, sI (2 : Int32), sI (0 : Int32), sI shf, sI lo, sI hi, sI mi, sI lo, sI mi, sI hi, sD dA, uS, sD dB, uS, sD dC, uS, sR a68, sR a69, sR a74, sI lo, uU, uU, uU] [(.int lo)]))
            exact K240 _ _ _
          · skip
            refine OwnGo.pre (fun t k => XS.icmpNo X75.here hx rfl (hb hby at_228) rfl (eq_false_of_ne_true hs2) (XS.iload X75.here hx rfl (hb hby at_231) rfl (XS.iconst X75.here hx rfl (hb hby at_233) (own_isub X75.here hx rfl (hb hby at_234) rfl rfl (XS.goto X75.here hx rfl (pc0 := 235) (pc' := 240) rfl (hb hby at_235) (by decide) (by decide) k))))) ?_
            show OwnGo _ _ _ _ (T75.setTop (mkF m 240 #[sI p0, sI p1, sI p2, sI p3, sJ p4, uS, sI p5, sI (2 : Int32), sI (0 : Int32), sI shf, sI lo, sI hi, sI mi, sI lo, sI mi, sI hi, sD dA, uS, sD dB, uS, sD dC, uS, sR a68, sR a69, sR a74, sI lo, uU, uU, uU] [(.int (lo - (1 : Int32)))]))
            exact K240 _ _ _
        · skip
          refine OwnGo.pre (fun t k => XS.icmpNo X75.here hx rfl (hb hby at_215) rfl (eq_false_of_ne_true hs1) (XS.iload X75.here hx rfl (hb hby at_218) rfl (XS.iconst X75.here hx rfl (hb hby at_220) (own_iadd X75.here hx rfl (hb hby at_221) rfl rfl (XS.goto X75.here hx rfl (pc0 := 222) (pc' := 240) rfl (hb hby at_222) (by decide) (by decide) k))))) ?_
          show OwnGo _ _ _ _ (T75.setTop (mkF m 240 #[sI p0, sI p1, sI p2, sI p3, sJ p4, uS, sI p5, sI (2 : Int32), sI (0 : Int32), sI shf, sI lo, sI hi, sI mi, sI lo, sI mi, sI hi, sD dA, uS, sD dB, uS, sD dC, uS, sR a68, sR a69, sR a74, sI lo, uU, uU, uU] [(.int (lo + (1 : Int32)))]))
          exact K240 _ _ _
      · skip
        show OwnGo _ _ _ _ (T75.setTop (mkF m 198 #[sI p0, sI p1, sI p2, sI p3, sJ p4, uS, sI p5, sI (2 : Int32), sI (1 : Int32), sI shf, sI lo, sI hi, sI mi, sI lo, sI mi, sI hi, sD dA, uS, sD dB, uS, sD dC, uS, sR a68, sR a69, sR a74, uU, uU, uU, uU] [(.int (2 : Int32)), (.int (1 : Int32))]))
        refine OwnGo.pre (fun t k => XS.icmpNo X75.here hx rfl (hb hby at_198) rfl (by decide) (XS.aload X75.here hx rfl (hb hby at_201) rfl rfl (XS.iload X75.here hx rfl (hb hby at_203) rfl (own_iaL X75 hx hZ rfl Aj (j := (1 : Int32)) (by decide) (i := 1) (by decide) (x := mi) rfl (g := (mkF m 205 #[sI p0, sI p1, sI p2, sI p3, sJ p4, uS, sI p5, sI (2 : Int32), sI (1 : Int32), sI shf, sI lo, sI hi, sI mi, sI lo, sI mi, sI hi, sD dA, uS, sD dB, uS, sD dC, uS, sR a68, sR a69, sR a74, uU, uU, uU, uU] [(.int (1 : Int32)), (.ref a68)])) rfl (rest := []) rfl (hb hby at_205) (XS.goto X75.here hx rfl (pc0 := 206) (pc' := 210) rfl (hb hby at_206) (by decide) (by decide) (XS.istore X75.here hx rfl (hb hby at_210) rfl (l' := #[sI p0, sI p1, sI p2, sI p3, sJ p4, uS, sI p5, sI (2 : Int32), sI (1 : Int32), sI shf, sI lo, sI hi, sI mi, sI lo, sI mi, sI hi, sD dA, uS, sD dB, uS, sD dC, uS, sR a68, sR a69, sR a74, sI mi, uU, uU, uU]) rfl (XS.iload X75.here hx rfl (hb hby at_212) rfl (XS.iconst X75.here hx rfl (hb hby at_214) k)))))))) ?_
        show OwnGo _ _ _ _ (T75.setTop (mkF m 215 #[sI p0, sI p1, sI p2, sI p3, sJ p4, uS, sI p5, sI (2 : Int32), sI (1 : Int32), sI shf, sI lo, sI hi, sI mi, sI lo, sI mi, sI hi, sD dA, uS, sD dB, uS, sD dC, uS, sR a68, sR a69, sR a74, sI mi, uU, uU, uU] [(.int (1 : Int32)), (.int shf)]))
        by_cases hs1 : if_icmp.holds .ne shf 1 = true
        · skip
          refine OwnGo.pre (fun t k => XS.icmpYes X75.here hx rfl (pc0 := 215) (pc' := 225) rfl (hb hby at_215) rfl hs1 (by decide) (by decide) (XS.iload X75.here hx rfl (hb hby at_225) rfl (XS.iconst X75.here hx rfl (hb hby at_227) k))) ?_
          show OwnGo _ _ _ _ (T75.setTop (mkF m 228 #[sI p0, sI p1, sI p2, sI p3, sJ p4, uS, sI p5, sI (2 : Int32), sI (1 : Int32), sI shf, sI lo, sI hi, sI mi, sI lo, sI mi, sI hi, sD dA, uS, sD dB, uS, sD dC, uS, sR a68, sR a69, sR a74, sI mi, uU, uU, uU] [(.int (2 : Int32)), (.int shf)]))
          by_cases hs2 : if_icmp.holds .ne shf 2 = true
          · skip
            refine OwnGo.pre (fun t k => XS.icmpYes X75.here hx rfl (pc0 := 228) (pc' := 238) rfl (hb hby at_228) rfl hs2 (by decide) (by decide) (XS.iload X75.here hx rfl (hb hby at_238) rfl k)) ?_
            show OwnGo _ _ _ _ (T75.setTop (mkF m 240 #[sI p0, sI p1, sI p2, sI p3, sJ p4, uS, sI p5, sI (2 : Int32), sI (1 : Int32), sI shf, sI lo, sI hi, sI mi, sI lo, sI mi, sI hi, sD dA, uS, sD dB, uS, sD dC, uS, sR a68, sR a69, sR a74, sI mi, uU, uU, uU] [(.int mi)]))
            exact K240 _ _ _
          · skip
            refine OwnGo.pre (fun t k => XS.icmpNo X75.here hx rfl (hb hby at_228) rfl (eq_false_of_ne_true hs2) (XS.iload X75.here hx rfl (hb hby at_231) rfl (XS.iconst X75.here hx rfl (hb hby at_233) (own_isub X75.here hx rfl (hb hby at_234) rfl rfl (XS.goto X75.here hx rfl (pc0 := 235) (pc' := 240) rfl (hb hby at_235) (by decide) (by decide) k))))) ?_
            show OwnGo _ _ _ _ (T75.setTop (mkF m 240 #[sI p0, sI p1, sI p2, sI p3, sJ p4, uS, sI p5, sI (2 : Int32), sI (1 : Int32), sI shf, sI lo, sI hi, sI mi, sI lo, sI mi, sI hi, sD dA, uS, sD dB, uS, sD dC, uS, sR a68, sR a69, sR a74, sI mi, uU, uU, uU] [(.int (mi - (1 : Int32)))]))
            exact K240 _ _ _
        · skip
          refine OwnGo.pre (fun t k => XS.icmpNo X75.here hx rfl (hb hby at_215) rfl (eq_false_of_ne_true hs1) (XS.iload X75.here hx rfl (hb hby at_218) rfl (XS.iconst X75.here hx rfl (hb hby at_220) (own_iadd X75.here hx rfl (hb hby at_221) rfl rfl (XS.goto X75.here hx rfl (pc0 := 222) (pc' := 240) rfl (hb hby at_222) (by decide) (by decide) k))))) ?_
          show OwnGo _ _ _ _ (T75.setTop (mkF m 240 #[sI p0, sI p1, sI p2, sI p3, sJ p4, uS, sI p5, sI (2 : Int32), sI (1 : Int32), sI shf, sI lo, sI hi, sI mi, sI lo, sI mi, sI hi, sD dA, uS, sD dB, uS, sD dC, uS, sR a68, sR a69, sR a74, sI mi, uU, uU, uU] [(.int (mi + (1 : Int32)))]))
          exact K240 _ _ _
      · skip
        show OwnGo _ _ _ _ (T75.setTop (mkF m 198 #[sI p0, sI p1, sI p2, sI p3, sJ p4, uS, sI p5, sI (2 : Int32), sI (2 : Int32), sI shf, sI lo, sI hi, sI mi, sI lo, sI mi, sI hi, sD dA, uS, sD dB, uS, sD dC, uS, sR a68, sR a69, sR a74, uU, uU, uU, uU] [(.int (2 : Int32)), (.int (2 : Int32))]))
        refine OwnGo.pre (fun t k => XS.icmpYes X75.here hx rfl (pc0 := 198) (pc' := 209) rfl (hb hby at_198) rfl (by decide) (by decide) (by decide) (XS.iloadN X75.here hx rfl (hb hby at_209) rfl (XS.istore X75.here hx rfl (hb hby at_210) rfl (l' := #[sI p0, sI p1, sI p2, sI p3, sJ p4, uS, sI p5, sI (2 : Int32), sI (2 : Int32), sI shf, sI lo, sI hi, sI mi, sI lo, sI mi, sI hi, sD dA, uS, sD dB, uS, sD dC, uS, sR a68, sR a69, sR a74, sI p0, uU, uU, uU]) rfl (XS.iload X75.here hx rfl (hb hby at_212) rfl (XS.iconst X75.here hx rfl (hb hby at_214) k))))) ?_
        show OwnGo _ _ _ _ (T75.setTop (mkF m 215 #[sI p0, sI p1, sI p2, sI p3, sJ p4, uS, sI p5, sI (2 : Int32), sI (2 : Int32), sI shf, sI lo, sI hi, sI mi, sI lo, sI mi, sI hi, sD dA, uS, sD dB, uS, sD dC, uS, sR a68, sR a69, sR a74, sI p0, uU, uU, uU] [(.int (1 : Int32)), (.int shf)]))
        by_cases hs1 : if_icmp.holds .ne shf 1 = true
        · skip
          refine OwnGo.pre (fun t k => XS.icmpYes X75.here hx rfl (pc0 := 215) (pc' := 225) rfl (hb hby at_215) rfl hs1 (by decide) (by decide) (XS.iload X75.here hx rfl (hb hby at_225) rfl (XS.iconst X75.here hx rfl (hb hby at_227) k))) ?_
          show OwnGo _ _ _ _ (T75.setTop (mkF m 228 #[sI p0, sI p1, sI p2, sI p3, sJ p4, uS, sI p5, sI (2 : Int32), sI (2 : Int32), sI shf, sI lo, sI hi, sI mi, sI lo, sI mi, sI hi, sD dA, uS, sD dB, uS, sD dC, uS, sR a68, sR a69, sR a74, sI p0, uU, uU, uU] [(.int (2 : Int32)), (.int shf)]))
          by_cases hs2 : if_icmp.holds .ne shf 2 = true
          · skip
            refine OwnGo.pre (fun t k => XS.icmpYes X75.here hx rfl (pc0 := 228) (pc' := 238) rfl (hb hby at_228) rfl hs2 (by decide) (by decide) (XS.iload X75.here hx rfl (hb hby at_238) rfl k)) ?_
            show OwnGo _ _ _ _ (T75.setTop (mkF m 240 #[sI p0, sI p1, sI p2, sI p3, sJ p4, uS, sI p5, sI (2 : Int32), sI (2 : Int32), sI shf, sI lo, sI hi, sI mi, sI lo, sI mi, sI hi, sD dA, uS, sD dB, uS, sD dC, uS, sR a68, sR a69, sR a74, sI p0, uU, uU, uU] [(.int p0)]))
            exact K240 _ _ _
          · skip
            refine OwnGo.pre (fun t k => XS.icmpNo X75.here hx rfl (hb hby at_228) rfl (eq_false_of_ne_true hs2) (XS.iload X75.here hx rfl (hb hby at_231) rfl (XS.iconst X75.here hx rfl (hb hby at_233) (own_isub X75.here hx rfl (hb hby at_234) rfl rfl (XS.goto X75.here hx rfl (pc0 := 235) (pc' := 240) rfl (hb hby at_235) (by decide) (by decide) k))))) ?_
            show OwnGo _ _ _ _ (T75.setTop (mkF m 240 #[sI p0, sI p1, sI p2, sI p3, sJ p4, uS, sI p5, sI (2 : Int32), sI (2 : Int32), sI shf, sI lo, sI hi, sI mi, sI lo, sI mi, sI hi, sD dA, uS, sD dB, uS, sD dC, uS, sR a68, sR a69, sR a74, sI p0, uU, uU, uU] [(.int (p0 - (1 : Int32)))]))
            exact K240 _ _ _
        · skip
          refine OwnGo.pre (fun t k => XS.icmpNo X75.here hx rfl (hb hby at_215) rfl (eq_false_of_ne_true hs1) (XS.iload X75.here hx rfl (hb hby at_218) rfl (XS.iconst X75.here hx rfl (hb hby at_220) (own_iadd X75.here hx rfl (hb hby at_221) rfl rfl (XS.goto X75.here hx rfl (pc0 := 222) (pc' := 240) rfl (hb hby at_222) (by decide) (by decide) k))))) ?_
          show OwnGo _ _ _ _ (T75.setTop (mkF m 240 #[sI p0, sI p1, sI p2, sI p3, sJ p4, uS, sI p5, sI (2 : Int32), sI (2 : Int32), sI shf, sI lo, sI hi, sI mi, sI lo, sI mi, sI hi, sD dA, uS, sD dB, uS, sD dC, uS, sR a68, sR a69, sR a74, sI p0, uU, uU, uU] [(.int (p0 + (1 : Int32)))]))
          exact K240 _ _ _
      · skip
        show OwnGo _ _ _ _ (T75.setTop (mkF m 198 #[sI p0, sI p1, sI p2, sI p3, sJ p4, uS, sI p5, sI (2 : Int32), sI (3 : Int32), sI shf, sI lo, sI hi, sI mi, sI lo, sI mi, sI hi, sD dA, uS, sD dB, uS, sD dC, uS, sR a68, sR a69, sR a74, uU, uU, uU, uU] [(.int (2 : Int32)), (.int (3 : Int32))]))
        refine OwnGo.pre (fun t k => XS.icmpYes X75.here hx rfl (pc0 := 198) (pc' := 209) rfl (hb hby at_198) rfl (by decide) (by decide) (by decide) (XS.iloadN X75.here hx rfl (hb hby at_209) rfl (XS.istore X75.here hx rfl (hb hby at_210) rfl (l' := #[sI p0, sI p1, sI p2, sI p3, sJ p4, uS, sI p5, sI (2 : Int32), sI (3 : Int32), sI shf, sI lo, sI hi, sI mi, sI lo, sI mi, sI hi, sD dA, uS, sD dB, uS, sD dC, uS, sR a68, sR a69, sR a74, sI p0, uU, uU, uU]) rfl (XS.iload X75.here hx rfl (hb hby at_212) rfl (XS.iconst X75.here hx rfl (hb hby at_214) k))))) ?_
        show OwnGo _ _ _ _ (T75.setTop (mkF m 215 #[sI p0, sI p1, sI p2, sI p3, sJ p4, uS, sI p5, sI (2 : Int32), sI (3 : Int32), sI shf, sI lo, sI hi, sI mi, sI lo, sI mi, sI hi, sD dA, uS, sD dB, uS, sD dC, uS, sR a68, sR a69, sR a74, sI p0, uU, uU, uU] [(.int (1 : Int32)), (.int shf)]))
        by_cases hs1 : if_icmp.holds .ne shf 1 = true
        · skip
          refine OwnGo.pre (fun t k => XS.icmpYes X75.here hx rfl (pc0 := 215) (pc' := 225) rfl (hb hby at_215) rfl hs1 (by decide) (by decide) (XS.iload X75.here hx rfl (hb hby at_225) rfl (XS.iconst X75.here hx rfl (hb hby at_227) k))) ?_
          show OwnGo _ _ _ _ (T75.setTop (mkF m 228 #[sI p0, sI p1, sI p2, sI p3, sJ p4, uS, sI p5, sI (2 : Int32), sI (3 : Int32), sI shf, sI lo, sI hi, sI mi, sI lo, sI mi, sI hi, sD dA, uS, sD dB, uS, sD dC, uS, sR a68, sR a69, sR a74, sI p0, uU, uU, uU] [(.int (2 : Int32)), (.int shf)]))
          by_cases hs2 : if_icmp.holds .ne shf 2 = true
          · skip
            refine OwnGo.pre (fun t k => XS.icmpYes X75.here hx rfl (pc0 := 228) (pc' := 238) rfl (hb hby at_228) rfl hs2 (by decide) (by decide) (XS.iload X75.here hx rfl (hb hby at_238) rfl k)) ?_
            show OwnGo _ _ _ _ (T75.setTop (mkF m 240 #[sI p0, sI p1, sI p2, sI p3, sJ p4, uS, sI p5, sI (2 : Int32), sI (3 : Int32), sI shf, sI lo, sI hi, sI mi, sI lo, sI mi, sI hi, sD dA, uS, sD dB, uS, sD dC, uS, sR a68, sR a69, sR a74, sI p0, uU, uU, uU] [(.int p0)]))
            exact K240 _ _ _
          · skip
            refine OwnGo.pre (fun t k => XS.icmpNo X75.here hx rfl (hb hby at_228) rfl (eq_false_of_ne_true hs2) (XS.iload X75.here hx rfl (hb hby at_231) rfl (XS.iconst X75.here hx rfl (hb hby at_233) (own_isub X75.here hx rfl (hb hby at_234) rfl rfl (XS.goto X75.here hx rfl (pc0 := 235) (pc' := 240) rfl (hb hby at_235) (by decide) (by decide) k))))) ?_
            show OwnGo _ _ _ _ (T75.setTop (mkF m 240 #[sI p0, sI p1, sI p2, sI p3, sJ p4, uS, sI p5, sI (2 : Int32), sI (3 : Int32), sI shf, sI lo, sI hi, sI mi, sI lo, sI mi, sI hi, sD dA, uS, sD dB, uS, sD dC, uS, sR a68, sR a69, sR a74, sI p0, uU, uU, uU] [(.int (p0 - (1 : Int32)))]))
            exact K240 _ _ _
        · skip
          refine OwnGo.pre (fun t k => XS.icmpNo X75.here hx rfl (hb hby at_215) rfl (eq_false_of_ne_true hs1) (XS.iload X75.here hx rfl (hb hby at_218) rfl (XS.iconst X75.here hx rfl (hb hby at_220) (own_iadd X75.here hx rfl (hb hby at_221) rfl rfl (XS.goto X75.here hx rfl (pc0 := 222) (pc' := 240) rfl (hb hby at_222) (by decide) (by decide) k))))) ?_
          show OwnGo _ _ _ _ (T75.setTop (mkF m 240 #[sI p0, sI p1, sI p2, sI p3, sJ p4, uS, sI p5, sI (2 : Int32), sI (3 : Int32), sI shf, sI lo, sI hi, sI mi, sI lo, sI mi, sI hi, sD dA, uS, sD dB, uS, sD dC, uS, sR a68, sR a69, sR a74, sI p0, uU, uU, uU] [(.int (p0 + (1 : Int32)))]))
          exact K240 _ _ _
  · skip
    show OwnGo _ _ _ _ (T54.setTop (mkF m 69 #[sI p0, sI p1, sI p2, sI p3, sJ p4, uS, sI p5, sI (3 : Int32), sI sel, sI shf, sI lo, sI hi, sI mi, sI lo, sI mi, sI hi, uU, uU, uU, uU, uU, uU, uU, uU, uU, uU, uU, uU, uU] [(.int (2 : Int32)), (.int (3 : Int32))]))
    refine OwnGo.pre (fun t k => XS.icmpNo X54.here hx rfl (hb hby at_69) rfl (by decide) (XS.iload X54.here hx rfl (hb hby at_72) rfl (XS.iload X54.here hx rfl (hb hby at_74) rfl k))) ?_
    show OwnGo _ _ _ _ (T54.setTop (mkF m 76 #[sI p0, sI p1, sI p2, sI p3, sJ p4, uS, sI p5, sI (3 : Int32), sI sel, sI shf, sI lo, sI hi, sI mi, sI lo, sI mi, sI hi, uU, uU, uU, uU, uU, uU, uU, uU, uU, uU, uU, uU, uU] [(.int mi), (.int lo)]))
    by_cases h01 : lo = mi
    · skip
      refine OwnGo.pre (fun t k => XS.icmpNo X54.here hx rfl (hb hby at_76) rfl (own_neF h01) (XS.iconst X54.here hx rfl (hb hby at_79) k)) ?_
      show OwnGo _ _ _ _ (T54.setTop (mkF m 80 #[sI p0, sI p1, sI p2, sI p3, sJ p4, uS, sI p5, sI (3 : Int32), sI sel, sI shf, sI lo, sI hi, sI mi, sI lo, sI mi, sI hi, uU, uU, uU, uU, uU, uU, uU, uU, uU, uU, uU, uU, uU] [(.int (1 : Int32))]))
      exact own_retZ X54 hx hk hrt (hb hby at_80) ⟨rfl, M54⟩ (by decide) (by decide)
    · skip
      refine OwnGo.pre (fun t k => XS.icmpYes X54.here hx rfl (pc0 := 76) (pc' := 81) rfl (hb hby at_76) rfl (own_neT h01) (by decide) (by decide) (XS.iload X54.here hx rfl (hb hby at_81) rfl (XS.iconst X54.here hx rfl (hb hby at_83) (XS.icmpNo X54.here hx rfl (hb hby at_84) rfl (by decide) (XS.iload X54.here hx rfl (hb hby at_87) rfl (XS.iload X54.here hx rfl (hb hby at_89) rfl k)))))) ?_
      show OwnGo _ _ _ _ (T54.setTop (mkF m 91 #[sI p0, sI p1, sI p2, sI p3, sJ p4, uS, sI p5, sI (3 : Int32), sI sel, sI shf, sI lo, sI hi, sI mi, sI lo, sI mi, sI hi, uU, uU, uU, uU, uU, uU, uU, uU, uU, uU, uU, uU, uU] [(.int hi), (.int mi)]))
      by_cases h12 : mi = hi
      · skip
        refine OwnGo.pre (fun t k => XS.icmpNo X54.here hx rfl (hb hby at_91) rfl (own_neF h12) (XS.iconst X54.here hx rfl (hb hby at_94) k)) ?_
        show OwnGo _ _ _ _ (T54.setTop (mkF m 95 #[sI p0, sI p1, sI p2, sI p3, sJ p4, uS, sI p5, sI (3 : Int32), sI sel, sI shf, sI lo, sI hi, sI mi, sI lo, sI mi, sI hi, uU, uU, uU, uU, uU, uU, uU, uU, uU, uU, uU, uU, uU] [(.int (1 : Int32))]))
        exact own_retZ X54 hx hk hrt (hb hby at_95) ⟨rfl, M54⟩ (by decide) (by decide)
      · skip
        obtain ⟨dA, hdA⟩ : ∃ v, FP.i2d p4.toInt32 = v := ⟨_, rfl⟩
        refine OwnGo.pre (fun t k => XS.icmpYes X54.here hx rfl (pc0 := 91) (pc' := 96) rfl (hb hby at_91) rfl (own_neT h12) (by decide) (by decide) (XT.lload X54.here hx rfl (hb hby at_96) rfl (own_l2i X54.here hx rfl (hb hby at_98) rfl rfl (XS.i2dS X54.here hx rfl (hb hby at_99) rfl hdA (XS.dstore X54.here hx rfl (hb hby at_100) rfl (l' := #[sI p0, sI p1, sI p2, sI p3, sJ p4, uS, sI p5, sI (3 : Int32), sI sel, sI shf, sI lo, sI hi, sI mi, sI lo, sI mi, sI hi, sD dA, uS, uU, uU, uU, uU, uU, uU, uU, uU, uU, uU, uU]) rfl (XT.lload X54.here hx rfl (hb hby at_102) rfl (XS.bipush X54.here hx rfl (hb hby at_104) (own_lushr X54.here hx rfl (hb hby at_106) rfl rfl k)))))))) ?_
        show OwnGo _ _ _ _ (T54.setTop (mkF m 107 #[sI p0, sI p1, sI p2, sI p3, sJ p4, uS, sI p5, sI (3 : Int32), sI sel, sI shf, sI lo, sI hi, sI mi, sI lo, sI mi, sI hi, sD dA, uS, uU, uU, uU, uU, uU, uU, uU, uU, uU, uU, uU] [(.long (XT.ushrL p4 (32 : Int32)))]))
        obtain ⟨dB, hdB⟩ : ∃ v, FP.i2d ((XT.ushrL p4 (32 : Int32)).toInt32) = v := ⟨_, rfl⟩
        obtain ⟨dC, hdC⟩ : ∃ v, FP.i2d p5 = v := ⟨_, rfl⟩
        have nA : Jvm.Free.Fl.NoNaN64 dA := hdA ▸ own_nn (own_i2d _)
        have nB : Jvm.Free.Fl.NoNaN64 dB := hdB ▸ own_nn (own_i2d _)
        have nC : Jvm.Free.Fl.NoNaN64 dC := hdC ▸ own_nn (own_i2d _)
        refine OwnGo.pre (fun t k => own_l2i X54.here hx rfl (hb hby at_107) rfl rfl (XS.i2dS X54.here hx rfl (hb hby at_108) rfl hdB (XS.dstore X54.here hx rfl (hb hby at_109) rfl (l' := #[sI p0, sI p1, sI p2, sI p3, sJ p4, uS, sI p5, sI (3 : Int32), sI sel, sI shf, sI lo, sI hi, sI mi, sI lo, sI mi, sI hi, sD dA, uS, sD dB, uS, uU, uU, uU, uU, uU, uU, uU, uU, uU]) rfl (XS.iload X54.here hx rfl (hb hby at_111) rfl (XS.i2dS X54.here hx rfl (hb hby at_113) rfl hdC (XS.dstore X54.here hx rfl (hb hby at_114) rfl (l' := #[sI p0, sI p1, sI p2, sI p3, sJ p4, uS, sI p5, sI (3 : Int32), sI sel, sI shf, sI lo, sI hi, sI mi, sI lo, sI mi, sI hi, sD dA, uS, sD dB, uS, sD dC, uS, uU, uU, uU, uU, uU, uU, uU]) rfl (XS.iload X54.here hx rfl (hb hby at_116) rfl k))))))) ?_
        show OwnGo _ _ _ _ (T54.setTop (mkF m 118 #[sI p0, sI p1, sI p2, sI p3, sJ p4, uS, sI p5, sI (3 : Int32), sI sel, sI shf, sI lo, sI hi, sI mi, sI lo, sI mi, sI hi, sD dA, uS, sD dB, uS, sD dC, uS, uU, uU, uU, uU, uU, uU, uU] [(.int (3 : Int32))]))
        obtain ⟨T80, h80, X80, e80, E80, A80, Q80, st80⟩ := own_newIX X54 hx hZ (hw _ (List.mem_of_getElem? (i := 7) rfl)) e54 (g := (mkF m 118 #[sI p0, sI p1, sI p2, sI p3, sJ p4, uS, sI p5, sI (3 : Int32), sI sel, sI shf, sI lo, sI hi, sI mi, sI lo, sI mi, sI hi, sD dA, uS, sD dB, uS, sD dC, uS, uU, uU, uU, uU, uU, uU, uU] [(.int (3 : Int32))])) rfl (hb hby at_118) rfl (by decide) (n := 3) (by decide) (by decide) (by decide) (by decide)
        obtain ⟨a80, g80⟩ : ∃ z, z = h0.size := ⟨_, rfl⟩
        rw [← g80] at A80 Q80 st80
        have G80 : n0 ≤ a80 := Nat.le_trans Z0 (Nat.le_of_eq g80.symm)
        have Z80 : n0 ≤ h80.size := Nat.le_trans Z0 E80.1
        refine OwnGo.pre (fun t k => st80 t k) ?_
        show OwnGo _ _ _ _ (T80.setTop (mkF m 120 #[sI p0, sI p1, sI p2, sI p3, sJ p4, uS, sI p5, sI (3 : Int32), sI sel, sI shf, sI lo, sI hi, sI mi, sI lo, sI mi, sI hi, sD dA, uS, sD dB, uS, sD dC, uS, uU, uU, uU, uU, uU, uU, uU] [(.ref a80)]))
        have A80n : OwnIA Z h80 a80 [0, 0, 0] := A80
        refine OwnGo.pre (fun t k => XS.astore X80.here hx rfl (hb hby at_120) rfl rfl (l' := #[sI p0, sI p1, sI p2, sI p3, sJ p4, uS, sI p5, sI (3 : Int32), sI sel, sI shf, sI lo, sI hi, sI mi, sI lo, sI mi, sI hi, sD dA, uS, sD dB, uS, sD dC, uS, sR a80, uU, uU, uU, uU, uU, uU]) rfl (XS.iload X80.here hx rfl (hb hby at_122) rfl k)) ?_
        show OwnGo _ _ _ _ (T80.setTop (mkF m 124 #[sI p0, sI p1, sI p2, sI p3, sJ p4, uS, sI p5, sI (3 : Int32), sI sel, sI shf, sI lo, sI hi, sI mi, sI lo, sI mi, sI hi, sD dA, uS, sD dB, uS, sD dC, uS, sR a80, uU, uU, uU, uU, uU, uU] [(.int (3 : Int32))]))
        obtain ⟨T81, h81, X81, e81, E81, A81, Q81, st81⟩ := own_newDX X80 hx hZ (hw _ (List.mem_of_getElem? (i := 8) rfl)) e80 (g := (mkF m 124 #[sI p0, sI p1, sI p2, sI p3, sJ p4, uS, sI p5, sI (3 : Int32), sI sel, sI shf, sI lo, sI hi, sI mi, sI lo, sI mi, sI hi, sD dA, uS, sD dB, uS, sD dC, uS, sR a80, uU, uU, uU, uU, uU, uU] [(.int (3 : Int32))])) rfl (hb hby at_124) rfl (by decide) (n := 3) (by decide) (by decide) (by decide) (by decide)
        obtain ⟨a81, g81⟩ : ∃ z, z = h80.size := ⟨_, rfl⟩
        rw [← g81] at A81 Q81 st81
        have G81 : n0 ≤ a81 := Nat.le_trans Z80 (Nat.le_of_eq g81.symm)
        have Z81 : n0 ≤ h81.size := Nat.le_trans Z80 E81.1
        refine OwnGo.pre (fun t k => st81 t k) ?_
        show OwnGo _ _ _ _ (T81.setTop (mkF m 126 #[sI p0, sI p1, sI p2, sI p3, sJ p4, uS, sI p5, sI (3 : Int32), sI sel, sI shf, sI lo, sI hi, sI mi, sI lo, sI mi, sI hi, sD dA, uS, sD dB, uS, sD dC, uS, sR a80, uU, uU, uU, uU, uU, uU] [(.ref a81)]))
        have A81n : OwnDA Z h81 a81 [0, 0, 0] := A81
        have ne12 : a80 ≠ a81 := (Nat.ne_of_lt (Nat.lt_of_lt_of_le A80.lt (Nat.le_of_eq g81.symm)))
        have Ai := A80n.ex E81
        have Qi := Q80.ext E81
        refine OwnGo.pre (fun t k => XS.astore X81.here hx rfl (hb hby at_126) rfl rfl (l' := #[sI p0, sI p1, sI p2, sI p3, sJ p4, uS, sI p5, sI (3 : Int32), sI sel, sI shf, sI lo, sI hi, sI mi, sI lo, sI mi, sI hi, sD dA, uS, sD dB, uS, sD dC, uS, sR a80, sR a81, uU, uU, uU, uU, uU]) rfl (XS.iload X81.here hx rfl (hb hby at_128) rfl (XS.ifNo X81.here hx rfl (hb hby at_130) rfl (by decide) (XS.aload X81.here hx rfl (hb hby at_133) rfl rfl (XS.iconst X81.here hx rfl (hb hby at_135) (XS.iload X81.here hx rfl (hb hby at_136) rfl k)))))) ?_
        show OwnGo _ _ _ _ (T81.setTop (mkF m 138 #[sI p0, sI p1, sI p2, sI p3, sJ p4, uS, sI p5, sI (3 : Int32), sI sel, sI shf, sI lo, sI hi, sI mi, sI lo, sI mi, sI hi, sD dA, uS, sD dB, uS, sD dC, uS, sR a80, sR a81, uU, uU, uU, uU, uU] [(.int lo), (.int (0 : Int32)), (.ref a80)]))
        obtain ⟨T82, h82, X82, e82, W82, A82, st82⟩ := own_iaS X81 hx hZ e81 Ai (by decide) (i := 0) (by decide) (by show 0 < 3; decide) (g := (mkF m 138 #[sI p0, sI p1, sI p2, sI p3, sJ p4, uS, sI p5, sI (3 : Int32), sI sel, sI shf, sI lo, sI hi, sI mi, sI lo, sI mi, sI hi, sD dA, uS, sD dB, uS, sD dC, uS, sR a80, sR a81, uU, uU, uU, uU, uU] [(.int lo), (.int (0 : Int32)), (.ref a80)])) rfl rfl (hb hby at_138)
        have A82n : OwnIA Z h82 a80 [lo, 0, 0] := A82
        have N82 := Fr.snoc X82 M54 G80
        have Z82 : n0 ≤ h82.size := by rw [W82.size]; exact Z81
        refine OwnGo.pre (fun t k => st82 t k) ?_
        show OwnGo _ _ _ _ (T82.setTop (mkF m 139 #[sI p0, sI p1, sI p2, sI p3, sJ p4, uS, sI p5, sI (3 : Int32), sI sel, sI shf, sI lo, sI hi, sI mi, sI lo, sI mi, sI hi, sD dA, uS, sD dB, uS, sD dC, uS, sR a80, sR a81, uU, uU, uU, uU, uU] []))
        have Qi82 := Qi.wr W82
        have Ad82 := A81n.ot W82 ne12.symm
        have Qd82 := Q81.wr W82
        refine OwnGo.pre (fun t k => XS.aload X82.here hx rfl (hb hby at_139) rfl rfl (XS.iconst X82.here hx rfl (hb hby at_141) (XS.dload X82.here hx rfl (hb hby at_142) rfl k))) ?_
        show OwnGo _ _ _ _ (T82.setTop (mkF m 144 #[sI p0, sI p1, sI p2, sI p3, sJ p4, uS, sI p5, sI (3 : Int32), sI sel, sI shf, sI lo, sI hi, sI mi, sI lo, sI mi, sI hi, sD dA, uS, sD dB, uS, sD dC, uS, sR a80, sR a81, uU, uU, uU, uU, uU] [(.double dA), (.int (0 : Int32)), (.ref a81)]))
        obtain ⟨T83, h83, X83, e83, W83, A83, st83⟩ := own_daS X82 hx hZ e82 Ad82 (by decide) (i := 0) (by decide) (by show 0 < 3; decide) (g := (mkF m 144 #[sI p0, sI p1, sI p2, sI p3, sJ p4, uS, sI p5, sI (3 : Int32), sI sel, sI shf, sI lo, sI hi, sI mi, sI lo, sI mi, sI hi, sD dA, uS, sD dB, uS, sD dC, uS, sR a80, sR a81, uU, uU, uU, uU, uU] [(.double dA), (.int (0 : Int32)), (.ref a81)])) rfl rfl (hb hby at_144)
        have A83n : OwnDA Z h83 a81 [dA, 0, 0] := A83
        have N83 := Fr.snoc X83 N82 G81
        have Z83 : n0 ≤ h83.size := by rw [W83.size]; exact Z82
        refine OwnGo.pre (fun t k => st83 t k) ?_
        show OwnGo _ _ _ _ (T83.setTop (mkF m 145 #[sI p0, sI p1, sI p2, sI p3, sJ p4, uS, sI p5, sI (3 : Int32), sI sel, sI shf, sI lo, sI hi, sI mi, sI lo, sI mi, sI hi, sD dA, uS, sD dB, uS, sD dC, uS, sR a80, sR a81, uU, uU, uU, uU, uU] []))
        have Qi83 := Qi82.wr W83
        have Ai83 := A82n.ot W83 ne12
        have Qd83 := Qd82.wr W83
        refine OwnGo.pre (fun t k => XS.iload X83.here hx rfl (hb hby at_145) rfl (XS.iconst X83.here hx rfl (hb hby at_147) (XS.icmpNo X83.here hx rfl (hb hby at_148) rfl (by decide) (XS.aload X83.here hx rfl (hb hby at_151) rfl rfl (XS.iconst X83.here hx rfl (hb hby at_153) (XS.iload X83.here hx rfl (hb hby at_154) rfl k)))))) ?_
        show OwnGo _ _ _ _ (T83.setTop (mkF m 156 #[sI p0, sI p1, sI p2, sI p3, sJ p4, uS, sI p5, sI (3 : Int32), sI sel, sI shf, sI lo, sI hi, sI mi, sI lo, sI mi, sI hi, sD dA, uS, sD dB, uS, sD dC, uS, sR a80, sR a81, uU, uU, uU, uU, uU] [(.int mi), (.int (1 : Int32)), (.ref a80)]))
        obtain ⟨T84, h84, X84, e84, W84, A84, st84⟩ := own_iaS X83 hx hZ e83 Ai83 (by decide) (i := 1) (by decide) (by show 1 < 3; decide) (g := (mkF m 156 #[sI p0, sI p1, sI p2, sI p3, sJ p4, uS, sI p5, sI (3 : Int32), sI sel, sI shf, sI lo, sI hi, sI mi, sI lo, sI mi, sI hi, sD dA, uS, sD dB, uS, sD dC, uS, sR a80, sR a81, uU, uU, uU, uU, uU] [(.int mi), (.int (1 : Int32)), (.ref a80)])) rfl rfl (hb hby at_156)
        have A84n : OwnIA Z h84 a80 [lo, mi, 0] := A84
        have N84 := Fr.snoc X84 N83 G80
        have Z84 : n0 ≤ h84.size := by rw [W84.size]; exact Z83
        refine OwnGo.pre (fun t k => st84 t k) ?_
        show OwnGo _ _ _ _ (T84.setTop (mkF m 157 #[sI p0, sI p1, sI p2, sI p3, sJ p4, uS, sI p5, sI (3 : Int32), sI sel, sI shf, sI lo, sI hi, sI mi, sI lo, sI mi, sI hi, sD dA, uS, sD dB, uS, sD dC, uS, sR a80, sR a81, uU, uU, uU, uU, uU] []))
        have Qi84 := Qi83.wr W84
        have Ad84 := A83n.ot W84 ne12.symm
        have Qd84 := Qd83.wr W84
        refine OwnGo.pre (fun t k => XS.aload X84.here hx rfl (hb hby at_157) rfl rfl (XS.iconst X84.here hx rfl (hb hby at_159) (XS.dload X84.here hx rfl (hb hby at_160) rfl k))) ?_
        show OwnGo _ _ _ _ (T84.setTop (mkF m 162 #[sI p0, sI p1, sI p2, sI p3, sJ p4, uS, sI p5, sI (3 : Int32), sI sel, sI shf, sI lo, sI hi, sI mi, sI lo, sI mi, sI hi, sD dA, uS, sD dB, uS, sD dC, uS, sR a80, sR a81, uU, uU, uU, uU, uU] [(.double dB), (.int (1 : Int32)), (.ref a81)]))
        obtain ⟨T85, h85, X85, e85, W85, A85, st85⟩ := own_daS X84 hx hZ e84 Ad84 (by decide) (i := 1) (by decide) (by show 1 < 3; decide) (g := (mkF m 162 #[sI p0, sI p1, sI p2, sI p3, sJ p4, uS, sI p5, sI (3 : Int32), sI sel, sI shf, sI lo, sI hi, sI mi, sI lo, sI mi, sI hi, sD dA, uS, sD dB, uS, sD dC, uS, sR a80, sR a81, uU, uU, uU, uU, uU] [(.double dB), (.int (1 : Int32)), (.ref a81)])) rfl rfl (hb hby at_162)
        have A85n : OwnDA Z h85 a81 [dA, dB, 0] := A85
        have N85 := Fr.snoc X85 N84 G81
        have Z85 : n0 ≤ h85.size := by rw [W85.size]; exact Z84
        refine OwnGo.pre (fun t k => st85 t k) ?_
        show OwnGo _ _ _ _ (T85.setTop (mkF m 163 #[sI p0, sI p1, sI p2, sI p3, sJ p4, uS, sI p5, sI (3 : Int32), sI sel, sI shf, sI lo, sI hi, sI mi, sI lo, sI mi, sI hi, sD dA, uS, sD dB, uS, sD dC, uS, sR a80, sR a81, uU, uU, uU, uU, uU] []))
        have Qi85 := Qi84.wr W85
        have Ai85 := A84n.ot W85 ne12
        have Qd85 := Qd84.wr W85
        refine OwnGo.pre (fun t k => XS.iload X85.here hx rfl (hb hby at_163) rfl (XS.iconst X85.here hx rfl (hb hby at_165) (XS.icmpNo X85.here hx rfl (hb hby at_166) rfl (by decide) (XS.aload X85.here hx rfl (hb hby at_169) rfl rfl (XS.iconst X85.here hx rfl (hb hby at_171) (XS.iload X85.here hx rfl (hb hby at_172) rfl k)))))) ?_
        show OwnGo _ _ _ _ (T85.setTop (mkF m 174 #[sI p0, sI p1, sI p2, sI p3, sJ p4, uS, sI p5, sI (3 : Int32), sI sel, sI shf, sI lo, sI hi, sI mi, sI lo, sI mi, sI hi, sD dA, uS, sD dB, uS, sD dC, uS, sR a80, sR a81, uU, uU, uU, uU, uU] [(.int hi), (.int (2 : Int32)), (.ref a80)]))
        obtain ⟨T86, h86, X86, e86, W86, A86, st86⟩ := own_iaS X85 hx hZ e85 Ai85 (by decide) (i := 2) (by decide) (by show 2 < 3; decide) (g := (mkF m 174 #[sI p0, sI p1, sI p2, sI p3, sJ p4, uS, sI p5, sI (3 : Int32), sI sel, sI shf, sI lo, sI hi, sI mi, sI lo, sI mi, sI hi, sD dA, uS, sD dB, uS, sD dC, uS, sR a80, sR a81, uU, uU, uU, uU, uU] [(.int hi), (.int (2 : Int32)), (.ref a80)])) rfl rfl (hb hby at_174)
        have A86n : OwnIA Z h86 a80 [lo, mi, hi] := A86
        have N86 := Fr.snoc X86 N85 G80
        have Z86 : n0 ≤ h86.size := by rw [W86.size]; exact Z85
        refine OwnGo.pre (fun t k => st86 t k) ?_
        show OwnGo _ _ _ _ (T86.setTop (mkF m 175 #[sI p0, sI p1, sI p2, sI p3, sJ p4, uS, sI p5, sI (3 : Int32), sI sel, sI shf, sI lo, sI hi, sI mi, sI lo, sI mi, sI hi, sD dA, uS, sD dB, uS, sD dC, uS, sR a80, sR a81, uU, uU, uU, uU, uU] []))
        have Qi86 := Qi85.wr W86
        have Ad86 := A85n.ot W86 ne12.symm
        have Qd86 := Qd85.wr W86
        refine OwnGo.pre (fun t k => XS.aload X86.here hx rfl (hb hby at_175) rfl rfl (XS.iconst X86.here hx rfl (hb hby at_177) (XS.dload X86.here hx rfl (hb hby at_178) rfl k))) ?_
        show OwnGo _ _ _ _ (T86.setTop (mkF m 180 #[sI p0, sI p1, sI p2, sI p3, sJ p4, uS, sI p5, sI (3 : Int32), sI sel, sI shf, sI lo, sI hi, sI mi, sI lo, sI mi, sI hi, sD dA, uS, sD dB, uS, sD dC, uS, sR a80, sR a81, uU, uU, uU, uU, uU] [(.double dC), (.int (2 : Int32)), (.ref a81)]))
        obtain ⟨T87, h87, X87, e87, W87, A87, st87⟩ := own_daS X86 hx hZ e86 Ad86 (by decide) (i := 2) (by decide) (by show 2 < 3; decide) (g := (mkF m 180 #[sI p0, sI p1, sI p2, sI p3, sJ p4, uS, sI p5, sI (3 : Int32), sI sel, sI shf, sI lo, sI hi, sI mi, sI lo, sI mi, sI hi, sD dA, uS, sD dB, uS, sD dC, uS, sR a80, sR a81, uU, uU, uU, uU, uU] [(.double dC), (.int (2 : Int32)), (.ref a81)])) rfl rfl (hb hby at_180)
        have A87n : OwnDA Z h87 a81 [dA, dB, dC] := A87
        have N87 := Fr.snoc X87 N86 G81
        have Z87 : n0 ≤ h87.size := by rw [W87.size]; exact Z86
        refine OwnGo.pre (fun t k => st87 t k) ?_
        show OwnGo _ _ _ _ (T87.setTop (mkF m 181 #[sI p0, sI p1, sI p2, sI p3, sJ p4, uS, sI p5, sI (3 : Int32), sI sel, sI shf, sI lo, sI hi, sI mi, sI lo, sI mi, sI hi, sD dA, uS, sD dB, uS, sD dC, uS, sR a80, sR a81, uU, uU, uU, uU, uU] []))
        have Qi87 := Qi86.wr W87
        have Ai87 := A86n.ot W87 ne12
        have Qd87 := Qd86.wr W87
        obtain ⟨T88, h88, X88, e88, E88, A88, D88, -, st88⟩ := newO X87 hx hZ hown (hw _ (List.mem_of_getElem? (i := 9) rfl)) (hw _ (List.mem_of_getElem? (i := 10) rfl)) (hw _ (List.mem_of_getElem? (i := 11) rfl)) e87 (g := (mkF m 181 #[sI p0, sI p1, sI p2, sI p3, sJ p4, uS, sI p5, sI (3 : Int32), sI sel, sI shf, sI lo, sI hi, sI mi, sI lo, sI mi, sI hi, sD dA, uS, sD dB, uS, sD dC, uS, sR a80, sR a81, uU, uU, uU, uU, uU] [])) rfl (hb hby at_181) (by decide) (by decide)
        obtain ⟨a88, g88⟩ : ∃ z, z = h87.size := ⟨_, rfl⟩
        rw [← g88] at A88 D88 st88
        have G88 : n0 ≤ a88 := Nat.le_trans Z87 (Nat.le_of_eq g88.symm)
        have Z88 : n0 ≤ h88.size := Nat.le_trans Z87 E88.1
        refine OwnGo.pre (fun t k => st88 t k) ?_
        show OwnGo _ _ _ _ (T88.setTop (mkF m 184 #[sI p0, sI p1, sI p2, sI p3, sJ p4, uS, sI p5, sI (3 : Int32), sI sel, sI shf, sI lo, sI hi, sI mi, sI lo, sI mi, sI hi, sD dA, uS, sD dB, uS, sD dC, uS, sR a80, sR a81, uU, uU, uU, uU, uU] [(.ref a88)]))
        have Ai9 := Ai87.ex E88
        have Qi9 := Qi87.ext E88
        have Ad9 := A87n.ex E88
        have Qd9 := Qd87.ext E88
        have nio : a80 ≠ a88 := (Nat.ne_of_lt (Nat.lt_of_lt_of_le Ai87.lt (Nat.le_of_eq g88.symm)))
        have ndo : a81 ≠ a88 := (Nat.ne_of_lt (Nat.lt_of_lt_of_le A87n.lt (Nat.le_of_eq g88.symm)))
        refine OwnGo.pre (fun t k => XS.dup X88.here hx rfl (hb hby at_184) rfl rfl (XS.aload X88.here hx rfl (hb hby at_185) rfl rfl (XS.aload X88.here hx rfl (hb hby at_187) rfl rfl k))) ?_
        show OwnGo _ _ _ _ (T88.setTop (mkF m 189 #[sI p0, sI p1, sI p2, sI p3, sJ p4, uS, sI p5, sI (3 : Int32), sI sel, sI shf, sI lo, sI hi, sI mi, sI lo, sI mi, sI hi, sD dA, uS, sD dB, uS, sD dC, uS, sR a80, sR a81, uU, uU, uU, uU, uU] [(.ref a81), (.ref a80), (.ref a88), (.ref a88)]))
        obtain ⟨_, _, ⟨T89, L89, k89, n89⟩, -, X89, ⟨Lc89, hQ89, l89, y89, z89⟩, st89⟩ := X88.specialBack hx (y := (⟨"com/example/clausewright/clausewright/learning/ClauseModel$Weights", "<init>", "([I[D)V"⟩ : MethodName)) rfl hown (mvT hZ (hw _ (List.mem_of_getElem? (i := 12) rfl))) (mvT hZ (hw _ (List.mem_of_getElem? (i := 13) rfl))) (mvT hZ (hw _ (List.mem_of_getElem? (i := 14) rfl))) (by decide) (backOf (W := 1) (rmI3 l Z a0 hw [] a88 a80 a81 lo mi hi dA dB dC h88 n0 Z88 A88 (D88 (Or.inr (hw _ (List.mem_of_getElem? (i := 28) rfl))) (ty := (.array .int)) (by decide)) (D88 (Or.inr (hw _ (List.mem_of_getElem? (i := 36) rfl))) (ty := (.array .double)) (by decide)) G88 Ai9 Qi9 Ad9 Qd9 ndo) hZ (hw _ (List.mem_of_getElem? (i := 14) rfl)) (hw _ (List.mem_of_getElem? (i := 11) rfl)) (by decide) (by decide)) (g := (mkF m 189 #[sI p0, sI p1, sI p2, sI p3, sJ p4, uS, sI p5, sI (3 : Int32), sI sel, sI shf, sI lo, sI hi, sI mi, sI lo, sI mi, sI hi, sD dA, uS, sD dB, uS, sD dC, uS, sR a80, sR a81, uU, uU, uU, uU, uU] [(.ref a81), (.ref a80), (.ref a88), (.ref a88)])) rfl (by rw [hml]; rfl) (Steps.refl _) (a := a88) (argsL := [(.ref a80), (.ref a81)]) (rest := [(.ref a88)]) (lenOf pd_rmI3 rfl) rfl (by show 2 * 0 + _ ≤ _; exact Nat.le_of_eq rfl) (hb hby at_189) (fun _ _ => ⟨rfl, e88, (by decide : 3 + 2 ≤ _), (by decide : 8 + 6 ≤ _)⟩)
        dsimp only [Pt.U, Pt.locs, Pt.cells, Pt.slots] at X89 l89 y89 z89 st89 hQ89
        subst l89 y89 z89
        obtain ⟨ac, av, rfl, N89, K89, Z89, E89, F0, F1, Ac, Av⟩ := hQ89
        refine OwnGo.pre (fun t k => st89.trans k) ?_
        show OwnGo _ _ _ _ (T89.setTop (mkF m 192 #[sI p0, sI p1, sI p2, sI p3, sJ p4, uS, sI p5, sI (3 : Int32), sI sel, sI shf, sI lo, sI hi, sI mi, sI lo, sI mi, sI hi, sD dA, uS, sD dB, uS, sD dC, uS, sR a80, sR a81, uU, uU, uU, uU, uU] [(.ref a88)]))
        have M89 := Fr.app N87 N89
        have Aj := Ai9.kp K89 (ninS nio nin0)
        refine OwnGo.pre (fun t k => XS.astore X89.here hx rfl (hb hby at_192) rfl rfl (l' := #[sI p0, sI p1, sI p2, sI p3, sJ p4, uS, sI p5, sI (3 : Int32), sI sel, sI shf, sI lo, sI hi, sI mi, sI lo, sI mi, sI hi, sD dA, uS, sD dB, uS, sD dC, uS, sR a80, sR a81, sR a88, uU, uU, uU, uU]) rfl (XS.iload X89.here hx rfl (hb hby at_194) rfl (XS.iload X89.here hx rfl (hb hby at_196) rfl k))) ?_
        show OwnGo _ _ _ _ (T89.setTop (mkF m 198 #[sI p0, sI p1, sI p2, sI p3, sJ p4, uS, sI p5, sI (3 : Int32), sI sel, sI shf, sI lo, sI hi, sI mi, sI lo, sI mi, sI hi, sD dA, uS, sD dB, uS, sD dC, uS, sR a80, sR a81, sR a88, uU, uU, uU, uU] [(.int (3 : Int32)), (.int sel)]))
        have K240 : ∀ (se ba q : Int32), OwnGo p.tables e below (OwnEnd s (Q_rmL Z p0 p1 p2 p3 p4 p5 h0 n0) room_1.cells room_1.slots) (T89.setTop (mkF m 240 #[sI p0, sI p1, sI p2, sI p3, sJ p4, uS, sI p5, sI (3 : Int32), sI se, sI shf, sI lo, sI hi, sI mi, sI lo, sI mi, sI hi, sD dA, uS, sD dB, uS, sD dC, uS, sR a80, sR a81, sR a88, sI ba, uU, uU, uU] [(.int q)])) := by
          intro se ba q
          refine OwnGo.pre (fun t k => XS.istore X89.here hx rfl (hb hby at_240) rfl (l' := #[sI p0, sI p1, sI p2, sI p3, sJ p4, uS, sI p5, sI (3 : Int32), sI se, sI shf, sI lo, sI hi, sI mi, sI lo, sI mi, sI hi, sD dA, uS, sD dB, uS, sD dC, uS, sR a80, sR a81, sR a88, sI ba, sI q, uU, uU]) rfl (XS.dconst0 X89.here hx rfl (hb hby at_242) rfl (XS.dstore X89.here hx rfl (hb hby at_243) rfl (l' := #[sI p0, sI p1, sI p2, sI p3, sJ p4, uS, sI p5, sI (3 : Int32), sI se, sI shf, sI lo, sI hi, sI mi, sI lo, sI mi, sI hi, sD dA, uS, sD dB, uS, sD dC, uS, sR a80, sR a81, sR a88, sI ba, sI q, sD (0 : UInt64), uS]) rfl (XS.iload X89.here hx rfl (hb hby at_245) rfl (XS.iconst X89.here hx rfl (hb hby at_247) (XS.icmpNo X89.here hx rfl (hb hby at_248) rfl (by decide) (XS.iload X89.here hx rfl (hb hby at_251) rfl (XS.iload X89.here hx rfl (hb hby at_253) rfl k)))))))) ?_
          show OwnGo _ _ _ _ (T89.setTop (mkF m 255 #[sI p0, sI p1, sI p2, sI p3, sJ p4, uS, sI p5, sI (3 : Int32), sI se, sI shf, sI lo, sI hi, sI mi, sI lo, sI mi, sI hi, sD dA, uS, sD dB, uS, sD dC, uS, sR a80, sR a81, sR a88, sI ba, sI q, sD (0 : UInt64), uS] [(.int q), (.int hi)]))
          by_cases hh2 : hi = q
          · skip
            refine OwnGo.pre (fun t k => XS.icmpNo X89.here hx rfl (hb hby at_255) rfl (own_neF hh2) (XS.dload X89.here hx rfl (hb hby at_258) rfl (XS.dstore X89.here hx rfl (hb hby at_260) rfl (l' := #[sI p0, sI p1, sI p2, sI p3, sJ p4, uS, sI p5, sI (3 : Int32), sI se, sI shf, sI lo, sI hi, sI mi, sI lo, sI mi, sI hi, sD dA, uS, sD dB, uS, sD dC, uS, sR a80, sR a81, sR a88, sI ba, sI q, sD dC, uS]) rfl (XS.iload X89.here hx rfl (hb hby at_262) rfl (XS.iconst X89.here hx rfl (hb hby at_264) (XS.icmpNo X89.here hx rfl (hb hby at_265) rfl (by decide) (XS.iload X89.here hx rfl (hb hby at_268) rfl (XS.iload X89.here hx rfl (hb hby at_270) rfl k)))))))) ?_
            show OwnGo _ _ _ _ (T89.setTop (mkF m 272 #[sI p0, sI p1, sI p2, sI p3, sJ p4, uS, sI p5, sI (3 : Int32), sI se, sI shf, sI lo, sI hi, sI mi, sI lo, sI mi, sI hi, sD dA, uS, sD dB, uS, sD dC, uS, sR a80, sR a81, sR a88, sI ba, sI q, sD dC, uS] [(.int q), (.int mi)]))
            by_cases hh1 : mi = q
            · skip
              refine OwnGo.pre (fun t k => XS.icmpNo X89.here hx rfl (hb hby at_272) rfl (own_neF hh1) (XS.dload X89.here hx rfl (hb hby at_275) rfl (XS.dstore X89.here hx rfl (hb hby at_277) rfl (l' := #[sI p0, sI p1, sI p2, sI p3, sJ p4, uS, sI p5, sI (3 : Int32), sI se, sI shf, sI lo, sI hi, sI mi, sI lo, sI mi, sI hi, sD dA, uS, sD dB, uS, sD dC, uS, sR a80, sR a81, sR a88, sI ba, sI q, sD dB, uS]) rfl (XS.iload X89.here hx rfl (hb hby at_279) rfl (XS.ifNo X89.here hx rfl (hb hby at_281) rfl (by decide) (XS.iload X89.here hx rfl (hb hby at_284) rfl (XS.iload X89.here hx rfl (hb hby at_286) rfl k))))))) ?_
              show OwnGo _ _ _ _ (T89.setTop (mkF m 288 #[sI p0, sI p1, sI p2, sI p3, sJ p4, uS, sI p5, sI (3 : Int32), sI se, sI shf, sI lo, sI hi, sI mi, sI lo, sI mi, sI hi, sD dA, uS, sD dB, uS, sD dC, uS, sR a80, sR a81, sR a88, sI ba, sI q, sD dB, uS] [(.int q), (.int lo)]))
              by_cases hh0 : lo = q
              · skip
                refine OwnGo.pre (fun t k => XS.icmpNo X89.here hx rfl (hb hby at_288) rfl (own_neF hh0) (XS.dload X89.here hx rfl (hb hby at_291) rfl (XS.dstore X89.here hx rfl (hb hby at_293) rfl (l' := #[sI p0, sI p1, sI p2, sI p3, sJ p4, uS, sI p5, sI (3 : Int32), sI se, sI shf, sI lo, sI hi, sI mi, sI lo, sI mi, sI hi, sD dA, uS, sD dB, uS, sD dC, uS, sR a80, sR a81, sR a88, sI ba, sI q, sD dA, uS]) rfl (XS.aload X89.here hx rfl (hb hby at_295) rfl rfl (XS.iload X89.here hx rfl (hb hby at_297) rfl k))))) ?_
                show OwnGo _ _ _ _ (T89.setTop (mkF m 299 #[sI p0, sI p1, sI p2, sI p3, sJ p4, uS, sI p5, sI (3 : Int32), sI se, sI shf, sI lo, sI hi, sI mi, sI lo, sI mi, sI hi, sD dA, uS, sD dB, uS, sD dC, uS, sR a80, sR a81, sR a88, sI ba, sI q, sD dA, uS] [(.int q), (.ref a88)]))
                obtain ⟨cq90, kq90, qa90, qb90, qc90⟩ := isOf hZ rfl E89
                obtain ⟨_, _, ⟨T90, L90, k90, n90⟩, -, X90, ⟨Lc90, hQ90, l90, y90, z90⟩, st90⟩ := X89.virtualBack hx (y := (⟨"com/example/clausewright/clausewright/learning/ClauseModel$Weights", "valueIn", "(I)D"⟩ : MethodName)) (z := (⟨"com/example/clausewright/clausewright/learning/ClauseModel$Weights", "valueIn", "(I)D"⟩ : MethodName)) hown (mvT hZ (hw _ (List.mem_of_getElem? (i := 37) rfl))) (mvT hZ (hw _ (List.mem_of_getElem? (i := 38) rfl))) (notFace_of_selects (args := #[]) (mvT hZ (hw _ (List.mem_of_getElem? (i := 40) rfl)))) (mvT hZ (hw _ (List.mem_of_getElem? (i := 40) rfl))) (mvT hZ (hw _ (List.mem_of_getElem? (i := 39) rfl))) (by decide) (backOf (W := 0) (rmV3 l Z a0 hw [] a88 ac av lo mi hi dA dB dC q T89.heap n0 Z89 F0 F1 Ac Av) hZ (hw _ (List.mem_of_getElem? (i := 41) rfl)) (hw _ (List.mem_of_getElem? (i := 11) rfl)) (by decide) (by decide)) qa90 qc90 (g := (mkF m 299 #[sI p0, sI p1, sI p2, sI p3, sJ p4, uS, sI p5, sI (3 : Int32), sI se, sI shf, sI lo, sI hi, sI mi, sI lo, sI mi, sI hi, sD dA, uS, sD dB, uS, sD dC, uS, sR a80, sR a81, sR a88, sI ba, sI q, sD dA, uS] [(.int q), (.ref a88)])) rfl (by rw [hml]; rfl) (Steps.refl _) (argsL := [(.int q)]) (rest := []) (lenOf pd_rmV3 rfl) rfl (by show 2 * 0 + _ ≤ _; exact Nat.le_of_eq rfl) (hb hby at_299) (fun _ _ => ⟨rfl, rfl, (by decide : 5 + 0 ≤ _), (by decide : 14 + 0 ≤ _)⟩)
                dsimp only [Pt.U, Pt.locs, Pt.cells, Pt.slots] at X90 l90 y90 z90 st90 hQ90
                subst l90 y90 z90
                obtain ⟨rr, rfl, hr, N90, e90⟩ := hQ90
                refine OwnGo.pre (fun t k => st90.trans k) ?_
                show OwnGo _ _ _ _ (T90.setTop (mkF m 302 #[sI p0, sI p1, sI p2, sI p3, sJ p4, uS, sI p5, sI (3 : Int32), sI se, sI shf, sI lo, sI hi, sI mi, sI lo, sI mi, sI hi, sD dA, uS, sD dB, uS, sD dC, uS, sR a80, sR a81, sR a88, sI ba, sI q, sD dA, uS] [(.double rr)]))
                have M90 := Fr.app M89 N90
                have er : rr = dA := by rw [hr, if_pos hh0]
                refine OwnGo.pre (fun t k => XS.dload X90.here hx rfl (hb hby at_302) rfl (XS.dcmpS X90.here hx rfl (hb hby at_304) rfl rfl (XS.ifNo X90.here hx rfl (hb hby at_305) rfl (by rw [er, dcmpV_self nA]; rfl) (XS.iconst X90.here hx rfl (hb hby at_308) (XS.goto X90.here hx rfl (pc0 := 309) (pc' := 313) rfl (hb hby at_309) (by decide) (by decide) k))))) ?_
                show OwnGo _ _ _ _ (T90.setTop (mkF m 313 #[sI p0, sI p1, sI p2, sI p3, sJ p4, uS, sI p5, sI (3 : Int32), sI se, sI shf, sI lo, sI hi, sI mi, sI lo, sI mi, sI hi, sD dA, uS, sD dB, uS, sD dC, uS, sR a80, sR a81, sR a88, sI ba, sI q, sD dA, uS] [(.int (1 : Int32))]))
                exact own_retZ X90 hx hk hrt (hb hby at_313) ⟨rfl, M90⟩ (by decide) (by decide)
              · skip
                refine OwnGo.pre (fun t k => XS.icmpYes X89.here hx rfl (pc0 := 288) (pc' := 295) rfl (hb hby at_288) rfl (own_neT hh0) (by decide) (by decide) (XS.aload X89.here hx rfl (hb hby at_295) rfl rfl (XS.iload X89.here hx rfl (hb hby at_297) rfl k))) ?_
                show OwnGo _ _ _ _ (T89.setTop (mkF m 299 #[sI p0, sI p1, sI p2, sI p3, sJ p4, uS, sI p5, sI (3 : Int32), sI se, sI shf, sI lo, sI hi, sI mi, sI lo, sI mi, sI hi, sD dA, uS, sD dB, uS, sD dC, uS, sR a80, sR a81, sR a88, sI ba, sI q, sD dB, uS] [(.int q), (.ref a88)]))
                obtain ⟨cq91, kq91, qa91, qb91, qc91⟩ := isOf hZ rfl E89
                obtain ⟨_, _, ⟨T91, L91, k91, n91⟩, -, X91, ⟨Lc91, hQ91, l91, y91, z91⟩, st91⟩ := X89.virtualBack hx (y := (⟨"com/example/clausewright/clausewright/learning/ClauseModel$Weights", "valueIn", "(I)D"⟩ : MethodName)) (z := (⟨"com/example/clausewright/clausewright/learning/ClauseModel$Weights", "valueIn", "(I)D"⟩ : MethodName)) hown (mvT hZ (hw _ (List.mem_of_getElem? (i := 37) rfl))) (mvT hZ (hw _ (List.mem_of_getElem? (i := 38) rfl))) (notFace_of_selects (args := #[]) (mvT hZ (hw _ (List.mem_of_getElem? (i := 40) rfl)))) (mvT hZ (hw _ (List.mem_of_getElem? (i := 40) rfl))) (mvT hZ (hw _ (List.mem_of_getElem? (i := 39) rfl))) (by decide) (backOf (W := 0) (rmV3 l Z a0 hw [] a88 ac av lo mi hi dA dB dC q T89.heap n0 Z89 F0 F1 Ac Av) hZ (hw _ (List.mem_of_getElem? (i := 41) rfl)) (hw _ (List.mem_of_getElem? (i := 11) rfl)) (by decide) (by decide)) qa91 qc91 (g := (mkF m 299 #[sI p0, sI p1, sI p2, sI p3, sJ p4, uS, sI p5, sI (3 : Int32), sI se, sI shf, sI lo, sI hi, sI mi, sI lo, sI mi, sI hi, sD dA, uS, sD dB, uS, sD dC, uS, sR a80, sR a81, sR a88, sI ba, sI q, sD dB, uS] [(.int q), (.ref a88)])) rfl (by rw [hml]; rfl) (Steps.refl _) (argsL := [(.int q)]) (rest := []) (lenOf pd_rmV3 rfl) rfl (by show 2 * 0 + _ ≤ _; exact Nat.le_of_eq rfl) (hb hby at_299) (fun _ _ => ⟨rfl, rfl, (by decide : 5 + 0 ≤ _), (by decide : 14 + 0 ≤ _)⟩)
                dsimp only [Pt.U, Pt.locs, Pt.cells, Pt.slots] at X91 l91 y91 z91 st91 hQ91
                subst l91 y91 z91
                obtain ⟨rr, rfl, hr, N91, e91⟩ := hQ91
                refine OwnGo.pre (fun t k => st91.trans k) ?_
                show OwnGo _ _ _ _ (T91.setTop (mkF m 302 #[sI p0, sI p1, sI p2, sI p3, sJ p4, uS, sI p5, sI (3 : Int32), sI se, sI shf, sI lo, sI hi, sI mi, sI lo, sI mi, sI hi, sD dA, uS, sD dB, uS, sD dC, uS, sR a80, sR a81, sR a88, sI ba, sI q, sD dB, uS] [(.double rr)]))
                have M91 := Fr.app M89 N91
                have er : rr = dB := by rw [hr, if_neg hh0, if_pos hh1]
                refine OwnGo.pre (fun t k => XS.dload X91.here hx rfl (hb hby at_302) rfl (XS.dcmpS X91.here hx rfl (hb hby at_304) rfl rfl (XS.ifNo X91.here hx rfl (hb hby at_305) rfl (by rw [er, dcmpV_self nB]; rfl) (XS.iconst X91.here hx rfl (hb hby at_308) (XS.goto X91.here hx rfl (pc0 := 309) (pc' := 313) rfl (hb hby at_309) (by decide) (by decide) k))))) ?_
                show OwnGo _ _ _ _ (T91.setTop (mkF m 313 #[sI p0, sI p1, sI p2, sI p3, sJ p4, uS, sI p5, sI (3 : Int32), sI se, sI shf, sI lo, sI hi, sI mi, sI lo, sI mi, sI hi, sD dA, uS, sD dB, uS, sD dC, uS, sR a80, sR a81, sR a88, sI ba, sI q, sD dB, uS] [(.int (1 : Int32))]))
                exact own_retZ X91 hx hk hrt (hb hby at_313) ⟨rfl, M91⟩ (by decide) (by decide)
            · skip
              refine OwnGo.pre (fun t k => XS.icmpYes X89.here hx rfl (pc0 := 272) (pc' := 279) rfl (hb hby at_272) rfl (own_neT hh1) (by decide) (by decide) (XS.iload X89.here hx rfl (hb hby at_279) rfl (XS.ifNo X89.here hx rfl (hb hby at_281) rfl (by decide) (XS.iload X89.here hx rfl (hb hby at_284) rfl (XS.iload X89.here hx rfl (hb hby at_286) rfl k))))) ?_
              show OwnGo _ _ _ _ (T89.setTop (mkF m 288 #[sI p0, sI p1, sI p2, sI p3, sJ p4, uS, sI p5, sI (3 : Int32), sI se, sI shf, sI lo, sI hi, sI mi, sI lo, sI mi, sI hi, sD dA, uS, sD dB, uS, sD dC, uS, sR a80, sR a81, sR a88, sI ba, sI q, sD dC, uS] [(.int q), (.int lo)]))
              by_cases hh0 : lo = q
              · skip
                refine OwnGo.pre (fun t k => XS.icmpNo X89.here hx rfl (hb hby at_288) rfl (own_neF hh0) (XS.dload X89.here hx rfl (hb hby at_291) rfl (XS.dstore X89.here hx rfl (hb hby at_293) rfl (l' := #[sI p0, sI p1, sI p2, sI p3, sJ p4, uS, sI p5, sI (3 : Int32), sI se, sI shf, sI lo, sI hi, sI mi, sI lo, sI mi, sI hi, sD dA, uS, sD dB, uS, sD dC, uS, sR a80, sR a81, sR a88, sI ba, sI q, sD dA, uS]) rfl (XS.aload X89.here hx rfl (hb hby at_295) rfl rfl (XS.iload X89.here hx rfl (hb hby at_297) rfl k))))) ?_
                show OwnGo _ _ _ _ (T89.setTop (mkF m 299 #[sI p0, sI p1, sI p2, sI p3, sJ p4, uS, sI p5, sI (3 : Int32), sI se, sI shf, sI lo, sI hi, sI mi, sI lo, sI mi, sI hi, sD dA, uS, sD dB, uS, sD dC, uS, sR a80, sR a81, sR a88, sI ba, sI q, sD dA, uS] [(.int q), (.ref a88)]))
                obtain ⟨cq92, kq92, qa92, qb92, qc92⟩ := isOf hZ rfl E89
                obtain ⟨_, _, ⟨T92, L92, k92, n92⟩, -, X92, ⟨Lc92, hQ92, l92, y92, z92⟩, st92⟩ := X89.virtualBack hx (y := (⟨"com/example/clausewright/clausewright/learning/ClauseModel$Weights", "valueIn", "(I)D"⟩ : MethodName)) (z := (⟨"com/example/clausewright/clausewright/learning/ClauseModel$Weights", "valueIn", "(I)D"⟩ : MethodName)) hown (mvT hZ (hw _ (List.mem_of_getElem? (i := 37) rfl))) (mvT hZ (hw _ (List.mem_of_getElem? (i := 38) rfl))) (notFace_of_selects (args := #[]) (mvT hZ (hw _ (List.mem_of_getElem? (i := 40) rfl)))) (mvT hZ (hw _ (List.mem_of_getElem? (i := 40) rfl))) (mvT hZ (hw _ (List.mem_of_getElem? (i := 39) rfl))) (by decide) (backOf (W := 0) (rmV3 l Z a0 hw [] a88 ac av lo mi hi dA dB dC q T89.heap n0 Z89 F0 F1 Ac Av) hZ (hw _ (List.mem_of_getElem? (i := 41) rfl)) (hw _ (List.mem_of_getElem? (i := 11) rfl)) (by decide) (by decide)) qa92 qc92 (g := (mkF m 299 #[sI p0, sI p1, sI p2, sI p3, sJ p4, uS, sI p5, sI (3 : Int32), sI se, sI shf, sI lo, sI hi, sI mi, sI lo, sI mi, sI hi, sD dA, uS, sD dB, uS, sD dC, uS, sR a80, sR a81, sR a88, sI ba, sI q, sD dA, uS] [(.int q), (.ref a88)])) rfl (by rw [hml]; rfl) (Steps.refl _) (argsL := [(.int q)]) (rest := []) (lenOf pd_rmV3 rfl) rfl (by show 2 * 0 + _ ≤ _; exact Nat.le_of_eq rfl) (hb hby at_299) (fun _ _ => ⟨rfl, rfl, (by decide : 5 + 0 ≤ _), (by decide : 14 + 0 ≤ _)⟩)
                dsimp only [Pt.U, Pt.locs, Pt.cells, Pt.slots] at X92 l92 y92 z92 st92 hQ92
                subst l92 y92 z92
                obtain ⟨rr, rfl, hr, N92, e92⟩ := hQ92
                refine OwnGo.pre (fun t k => st92.trans k) ?_
                show OwnGo _ _ _ _ (T92.setTop (mkF m 302 #[sI p0, sI p1, sI p2, sI p3, sJ p4, uS, sI p5, sI (3 : Int32), sI se, sI shf, sI lo, sI hi, sI mi, sI lo, sI mi, sI hi, sD dA, uS, sD dB, uS, sD dC, uS, sR a80, sR a81, sR a88, sI ba, sI q, sD dA, uS] [(.double rr)]))
                have M92 := Fr.app M89 N92
                have er : rr = dA := by rw [hr, if_pos hh0]
                refine OwnGo.pre (fun t k => XS.dload X92.here hx rfl (hb hby at_302) rfl (XS.dcmpS X92.here hx rfl (hb hby at_304) rfl rfl (XS.ifNo X92.here hx rfl (hb hby at_305) rfl (by rw [er, dcmpV_self nA]; rfl) (XS.iconst X92.here hx rfl (hb hby at_308) (XS.goto X92.here hx rfl (pc0 := 309) (pc' := 313) rfl (hb hby at_309) (by decide) (by decide) k))))) ?_
                show OwnGo _ _ _ _ (T92.setTop (mkF m 313 #[sI p0, sI p1, sI p2, sI p3, sJ p4, uS, sI p5, sI (3 : Int32), sI se, sI shf, sI lo, sI hi, sI mi, sI lo, sI mi, sI hi, sD dA, uS, sD dB, uS, sD dC, uS, sR a80, sR a81, sR a88, sI ba, sI q, sD dA, uS] [(.int (1 : Int32))]))
                exact own_retZ X92 hx hk hrt (hb hby at_313) ⟨rfl, M92⟩ (by decide) (by decide)
              · skip
                refine OwnGo.pre (fun t k => XS.icmpYes X89.here hx rfl (pc0 := 288) (pc' := 295) rfl (hb hby at_288) rfl (own_neT hh0) (by decide) (by decide) (XS.aload X89.here hx rfl (hb hby at_295) rfl rfl (XS.iload X89.here hx rfl (hb hby at_297) rfl k))) ?_
                show OwnGo _ _ _ _ (T89.setTop (mkF m 299 #[sI p0, sI p1, sI p2, sI p3, sJ p4, uS, sI p5, sI (3 : Int32), sI se, sI shf, sI lo, sI hi, sI mi, sI lo, sI mi, sI hi, sD dA, uS, sD dB, uS, sD dC, uS, sR a80, sR a81, sR a88, sI ba, sI q, sD dC, uS] [(.int q), (.ref a88)]))
                obtain ⟨cq93, kq93, qa93, qb93, qc93⟩ := isOf hZ rfl E89
                obtain ⟨_, _, ⟨T93, L93, k93, n93⟩, -, X93, ⟨Lc93, hQ93, l93, y93, z93⟩, st93⟩ := X89.virtualBack hx (y := (⟨"com/example/clausewright/clausewright/learning/ClauseModel$Weights", "valueIn", "(I)D"⟩ : MethodName)) (z := (⟨"com/example/clausewright/clausewright/learning/ClauseModel$Weights", "valueIn", "(I)D"⟩ : MethodName)) hown (mvT hZ (hw _ (List.mem_of_getElem? (i := 37) rfl))) (mvT hZ (hw _ (List.mem_of_getElem? (i := 38) rfl))) (notFace_of_selects (args := #[]) (mvT hZ (hw _ (List.mem_of_getElem? (i := 40) rfl)))) (mvT hZ (hw _ (List.mem_of_getElem? (i := 40) rfl))) (mvT hZ (hw _ (List.mem_of_getElem? (i := 39) rfl))) (by decide) (backOf (W := 0) (rmV3 l Z a0 hw [] a88 ac av lo mi hi dA dB dC q T89.heap n0 Z89 F0 F1 Ac Av) hZ (hw _ (List.mem_of_getElem? (i := 41) rfl)) (hw _ (List.mem_of_getElem? (i := 11) rfl)) (by decide) (by decide)) qa93 qc93 (g := (mkF m 299 #[sI p0, sI p1, sI p2, sI p3, sJ p4, uS, sI p5, sI (3 : Int32), sI se, sI shf, sI lo, sI hi, sI mi, sI lo, sI mi, sI hi, sD dA, uS, sD dB, uS, sD dC, uS, sR a80, sR a81, sR a88, sI ba, sI q, sD dC, uS] [(.int q), (.ref a88)])) rfl (by rw [hml]; rfl) (Steps.refl _) (argsL := [(.int q)]) (rest := []) (lenOf pd_rmV3 rfl) rfl (by show 2 * 0 + _ ≤ _; exact Nat.le_of_eq rfl) (hb hby at_299) (fun _ _ => ⟨rfl, rfl, (by decide : 5 + 0 ≤ _), (by decide : 14 + 0 ≤ _)⟩)
                dsimp only [Pt.U, Pt.locs, Pt.cells, Pt.slots] at X93 l93 y93 z93 st93 hQ93
                subst l93 y93 z93
                obtain ⟨rr, rfl, hr, N93, e93⟩ := hQ93
                refine OwnGo.pre (fun t k => st93.trans k) ?_
                show OwnGo _ _ _ _ (T93.setTop (mkF m 302 #[sI p0, sI p1, sI p2, sI p3, sJ p4, uS, sI p5, sI (3 : Int32), sI se, sI shf, sI lo, sI hi, sI mi, sI lo, sI mi, sI hi, sD dA, uS, sD dB, uS, sD dC, uS, sR a80, sR a81, sR a88, sI ba, sI q, sD dC, uS] [(.double rr)]))
                have M93 := Fr.app M89 N93
                have er : rr = dC := by rw [hr, if_neg hh0, if_neg hh1, if_pos hh2]
                refine OwnGo.pre (fun t k => XS.dload X93.here hx rfl (hb hby at_302) rfl (XS.dcmpS X93.here hx rfl (hb hby at_304) rfl rfl (XS.ifNo X93.here hx rfl (hb hby at_305) rfl (by rw [er, dcmpV_self nC]; rfl) (XS.iconst X93.here hx rfl (hb hby at_308) (XS.goto X93.here hx rfl (pc0 := 309) (pc' := 313) rfl (hb hby at_309) (by decide) (by decide) k))))) ?_
                show OwnGo _ _ _ _ (T93.setTop (mkF m 313 #[sI p0, sI p1, sI p2, sI p3, sJ p4, uS, sI p5, sI (3 : Int32), sI se, sI shf, sI lo, sI hi, sI mi, sI lo, sI mi, sI hi, sD dA, uS, sD dB, uS, sD dC, uS, sR a80, sR a81, sR a88, sI ba, sI q, sD dC, uS] [(.int (1 : Int32))]))
                exact own_retZ X93 hx hk hrt (hb hby at_313) ⟨rfl, M93⟩ (by decide) (by decide)
          · skip
            refine OwnGo.pre (fun t k => XS.icmpYes X89.here hx rfl (pc0 := 255) (pc' := 262) rfl (hb hby at_255) rfl (own_neT hh2) (by decide) (by decide) (XS.iload X89.here hx rfl (hb hby at_262) rfl (XS.iconst X89.here hx rfl (hb hby at_264) (XS.icmpNo X89.here hx rfl (hb hby at_265) rfl (by decide) (XS.iload X89.here hx rfl (hb hby at_268) rfl (XS.iload X89.here hx rfl (hb hby at_270) rfl k)))))) ?_
            show OwnGo _ _ _ _ (T89.setTop (mkF m 272 #[sI p0, sI p1, sI p2, sI p3, sJ p4, uS, sI p5, sI (3 : Int32), sI se, sI shf, sI lo, sI hi, sI mi, sI lo, sI mi, sI hi, sD dA, uS, sD dB, uS, sD dC, uS, sR a80, sR a81, sR a88, sI ba, sI q, sD (0 : UInt64), uS] [(.int q), (.int mi)]))
            by_cases hh1 : mi = q
            · skip
              refine OwnGo.pre (fun t k => XS.icmpNo X89.here hx rfl (hb hby at_272) rfl (own_neF hh1) (XS.dload X89.here hx rfl (hb hby at_275) rfl (XS.dstore X89.here hx rfl (hb hby at_277) rfl (l' := #[sI p0, sI p1, sI p2, sI p3, sJ p4, uS, sI p5, sI (3 : Int32), sI se, sI shf, sI lo, sI hi, sI mi, sI lo, sI mi, sI hi, sD dA, uS, sD dB, uS, sD dC, uS, sR a80, sR a81, sR a88, sI ba, sI q, sD dB, uS]) rfl (XS.iload X89.here hx rfl (hb hby at_279) rfl (XS.ifNo X89.here hx rfl (hb hby at_281) rfl (by decide) (XS.iload X89.here hx rfl (hb hby at_284) rfl (XS.iload X89.here hx rfl (hb hby at_286) rfl k))))))) ?_
              show OwnGo _ _ _ _ (T89.setTop (mkF m 288 #[sI p0, sI p1, sI p2, sI p3, sJ p4, uS, sI p5, sI (3 : Int32), sI se, sI shf, sI lo, sI hi, sI mi, sI lo, sI mi, sI hi, sD dA, uS, sD dB, uS, sD dC, uS, sR a80, sR a81, sR a88, sI ba, sI q, sD dB, uS] [(.int q), (.int lo)]))
              by_cases hh0 : lo = q
              · skip
                refine OwnGo.pre (fun t k => XS.icmpNo X89.here hx rfl (hb hby at_288) rfl (own_neF hh0) (XS.dload X89.here hx rfl (hb hby at_291) rfl (XS.dstore X89.here hx rfl (hb hby at_293) rfl (l' := #[sI p0, sI p1, sI p2, sI p3, sJ p4, uS, sI p5, sI (3 : Int32), sI se, sI shf, sI lo, sI hi, sI mi, sI lo, sI mi, sI hi, sD dA, uS, sD dB, uS, sD dC, uS, sR a80, sR a81, sR a88, sI ba, sI q, sD dA, uS]) rfl (XS.aload X89.here hx rfl (hb hby at_295) rfl rfl (XS.iload X89.here hx rfl (hb hby at_297) rfl k))))) ?_
                show OwnGo _ _ _ _ (T89.setTop (mkF m 299 #[sI p0, sI p1, sI p2, sI p3, sJ p4, uS, sI p5, sI (3 : Int32), sI se, sI shf, sI lo, sI hi, sI mi, sI lo, sI mi, sI hi, sD dA, uS, sD dB, uS, sD dC, uS, sR a80, sR a81, sR a88, sI ba, sI q, sD dA, uS] [(.int q), (.ref a88)]))
                obtain ⟨cq94, kq94, qa94, qb94, qc94⟩ := isOf hZ rfl E89
                obtain ⟨_, _, ⟨T94, L94, k94, n94⟩, -, X94, ⟨Lc94, hQ94, l94, y94, z94⟩, st94⟩ := X89.virtualBack hx (y := (⟨"com/example/clausewright/clausewright/learning/ClauseModel$Weights", "valueIn", "(I)D"⟩ : MethodName)) (z := (⟨"com/example/clausewright/clausewright/learning/ClauseModel$Weights", "valueIn", "(I)D"⟩ : MethodName)) hown (mvT hZ (hw _ (List.mem_of_getElem? (i := 37) rfl))) (mvT hZ (hw _ (List.mem_of_getElem? (i := 38) rfl))) (notFace_of_selects (args := #[]) (mvT hZ (hw _ (List.mem_of_getElem? (i := 40) rfl)))) (mvT hZ (hw _ (List.mem_of_getElem? (i := 40) rfl))) (mvT hZ (hw _ (List.mem_of_getElem? (i := 39) rfl))) (by decide) (backOf (W := 0) (rmV3 l Z a0 hw [] a88 ac av lo mi hi dA dB dC q T89.heap n0 Z89 F0 F1 Ac Av) hZ (hw _ (List.mem_of_getElem? (i := 41) rfl)) (hw _ (List.mem_of_getElem? (i := 11) rfl)) (by decide) (by decide)) qa94 qc94 (g := (mkF m 299 #[sI p0, sI p1, sI p2, sI p3, sJ p4, uS, sI p5, sI (3 : Int32), sI se, sI shf, sI lo, sI hi, sI mi, sI lo, sI mi, sI hi, sD dA, uS, sD dB, uS, sD dC, uS, sR a80, sR a81, sR a88, sI ba, sI q, sD dA, uS] [(.int q), (.ref a88)])) rfl (by rw [hml]; rfl) (Steps.refl _) (argsL := [(.int q)]) (rest := []) (lenOf pd_rmV3 rfl) rfl (by show 2 * 0 + _ ≤ _; exact Nat.le_of_eq rfl) (hb hby at_299) (fun _ _ => ⟨rfl, rfl, (by decide : 5 + 0 ≤ _), (by decide : 14 + 0 ≤ _)⟩)
                dsimp only [Pt.U, Pt.locs, Pt.cells, Pt.slots] at X94 l94 y94 z94 st94 hQ94
                subst l94 y94 z94
                obtain ⟨rr, rfl, hr, N94, e94⟩ := hQ94
                refine OwnGo.pre (fun t k => st94.trans k) ?_
                show OwnGo _ _ _ _ (T94.setTop (mkF m 302 #[sI p0, sI p1, sI p2, sI p3, sJ p4, uS, sI p5, sI (3 : Int32), sI se, sI shf, sI lo, sI hi, sI mi, sI lo, sI mi, sI hi, sD dA, uS, sD dB, uS, sD dC, uS, sR a80, sR a81, sR a88, sI ba, sI q, sD dA, uS] [(.double rr)]))
                have M94 := Fr.app M89 N94
                have er : rr = dA := by rw [hr, if_pos hh0]
                refine OwnGo.pre (fun t k => XS.dload X94.here hx rfl (hb hby at_302) rfl (XS.dcmpS X94.here hx rfl (hb hby at_304) rfl rfl (XS.ifNo X94.here hx rfl (hb hby at_305) rfl (by rw [er, dcmpV_self nA]; rfl) (XS.iconst X94.here hx rfl (hb hby at_308) (XS.goto X94.here hx rfl (pc0 := 309) (pc' := 313) rfl (hb hby at_309) (by decide) (by decide) k))))) ?_
                show OwnGo _ _ _ _ (T94.setTop (mkF m 313 #[sI p0, sI p1, sI p2, sI p3, sJ p4, uS, sI p5, sI (3 : Int32), sI se, sI shf, sI lo, sI hi, sI mi, sI lo, sI mi, sI hi, sD dA, uS, sD dB, uS, sD dC, uS, sR a80, sR a81, sR a88, sI ba, sI q, sD dA, uS] [(.int (1 : Int32))]))
                exact own_retZ X94 hx hk hrt (hb hby at_313) ⟨rfl, M94⟩ (by decide) (by decide)
              · skip
                refine OwnGo.pre (fun t k => XS.icmpYes X89.here hx rfl (pc0 := 288) (pc' := 295) rfl (hb hby at_288) rfl (own_neT hh0) (by decide) (by decide) (XS.aload X89.here hx rfl (hb hby at_295) rfl rfl (XS.iload X89.here hx rfl (hb hby at_297) rfl k))) ?_
                show OwnGo _ _ _ _ (T89.setTop (mkF m 299 #[sI p0, sI p1, sI p2, sI p3, sJ p4, uS, sI p5, sI (3 : Int32), sI se, sI shf, sI lo, sI hi, sI mi, sI lo, sI mi, sI hi, sD dA, uS, sD dB, uS, sD dC, uS, sR a80, sR a81, sR a88, sI ba, sI q, sD dB, uS] [(.int q), (.ref a88)]))
                obtain ⟨cq95, kq95, qa95, qb95, qc95⟩ := isOf hZ rfl E89
                obtain ⟨_, _, ⟨T95, L95, k95, n95⟩, -, X95, ⟨Lc95, hQ95, l95, y95, z95⟩, st95⟩ := X89.virtualBack hx (y := (⟨"com/example/clausewright/clausewright/learning/ClauseModel$Weights", "valueIn", "(I)D"⟩ : MethodName)) (z := (⟨"com/example/clausewright/clausewright/learning/ClauseModel$Weights", "valueIn", "(I)D"⟩ : MethodName)) hown (mvT hZ (hw _ (List.mem_of_getElem? (i := 37) rfl))) (mvT hZ (hw _ (List.mem_of_getElem? (i := 38) rfl))) (notFace_of_selects (args := #[]) (mvT hZ (hw _ (List.mem_of_getElem? (i := 40) rfl)))) (mvT hZ (hw _ (List.mem_of_getElem? (i := 40) rfl))) (mvT hZ (hw _ (List.mem_of_getElem? (i := 39) rfl))) (by decide) (backOf (W := 0) (rmV3 l Z a0 hw [] a88 ac av lo mi hi dA dB dC q T89.heap n0 Z89 F0 F1 Ac Av) hZ (hw _ (List.mem_of_getElem? (i := 41) rfl)) (hw _ (List.mem_of_getElem? (i := 11) rfl)) (by decide) (by decide)) qa95 qc95 (g := (mkF m 299 #[sI p0, sI p1, sI p2, sI p3, sJ p4, uS, sI p5, sI (3 : Int32), sI se, sI shf, sI lo, sI hi, sI mi, sI lo, sI mi, sI hi, sD dA, uS, sD dB, uS, sD dC, uS, sR a80, sR a81, sR a88, sI ba, sI q, sD dB, uS] [(.int q), (.ref a88)])) rfl (by rw [hml]; rfl) (Steps.refl _) (argsL := [(.int q)]) (rest := []) (lenOf pd_rmV3 rfl) rfl (by show 2 * 0 + _ ≤ _; exact Nat.le_of_eq rfl) (hb hby at_299) (fun _ _ => ⟨rfl, rfl, (by decide : 5 + 0 ≤ _), (by decide : 14 + 0 ≤ _)⟩)
                dsimp only [Pt.U, Pt.locs, Pt.cells, Pt.slots] at X95 l95 y95 z95 st95 hQ95
                subst l95 y95 z95
                obtain ⟨rr, rfl, hr, N95, e95⟩ := hQ95
                refine OwnGo.pre (fun t k => st95.trans k) ?_
                show OwnGo _ _ _ _ (T95.setTop (mkF m 302 #[sI p0, sI p1, sI p2, sI p3, sJ p4, uS, sI p5, sI (3 : Int32), sI se, sI shf, sI lo, sI hi, sI mi, sI lo, sI mi, sI hi, sD dA, uS, sD dB, uS, sD dC, uS, sR a80, sR a81, sR a88, sI ba, sI q, sD dB, uS] [(.double rr)]))
                have M95 := Fr.app M89 N95
                have er : rr = dB := by rw [hr, if_neg hh0, if_pos hh1]
                refine OwnGo.pre (fun t k => XS.dload X95.here hx rfl (hb hby at_302) rfl (XS.dcmpS X95.here hx rfl (hb hby at_304) rfl rfl (XS.ifNo X95.here hx rfl (hb hby at_305) rfl (by rw [er, dcmpV_self nB]; rfl) (XS.iconst X95.here hx rfl (hb hby at_308) (XS.goto X95.here hx rfl (pc0 := 309) (pc' := 313) rfl (hb hby at_309) (by decide) (by decide) k))))) ?_
                show OwnGo _ _ _ _ (T95.setTop (mkF m 313 #[sI p0, sI p1, sI p2, sI p3, sJ p4, uS, sI p5, sI (3 : Int32), sI se, sI shf, sI lo, sI hi, sI mi, sI lo, sI mi, sI hi, sD dA, uS, sD dB, uS, sD dC, uS, sR a80, sR a81, sR a88, sI ba, sI q, sD dB, uS] [(.int (1 : Int32))]))
                exact own_retZ X95 hx hk hrt (hb hby at_313) ⟨rfl, M95⟩ (by decide) (by decide)
            · skip
              refine OwnGo.pre (fun t k => XS.icmpYes X89.here hx rfl (pc0 := 272) (pc' := 279) rfl (hb hby at_272) rfl (own_neT hh1) (by decide) (by decide) (XS.iload X89.here hx rfl (hb hby at_279) rfl (XS.ifNo X89.here hx rfl (hb hby at_281) rfl (by decide) (XS.iload X89.here hx rfl (hb hby at_284) rfl (XS.iload X89.here hx rfl (hb hby at_286) rfl k))))) ?_
              show OwnGo _ _ _ _ (T89.setTop (mkF m 288 #[sI p0, sI p1, sI p2, sI p3, sJ p4, uS, sI p5, sI (3 : Int32), sI se, sI shf, sI lo, sI hi, sI mi, sI lo, sI mi, sI hi, sD dA, uS, sD dB, uS, sD dC, uS, sR a80, sR a81, sR a88, sI ba, sI q, sD (0 : UInt64), uS] [(.int q), (.int lo)]))
              by_cases hh0 : lo = q
              · skip
                refine OwnGo.pre (fun t k => XS.icmpNo X89.here hx rfl (hb hby at_288) rfl (own_neF hh0) (XS.dload X89.here hx rfl (hb hby at_291) rfl (XS.dstore X89.here hx rfl (hb hby at_293) rfl (l' := #[sI p0, sI p1, sI p2, sI p3, sJ p4, uS, sI p5, sI (3 : Int32), sI se, sI shf, sI lo, sI hi, sI mi, sI lo, sI mi, sI hi, sD dA, uS, sD dB, uS, sD dC, uS, sR a80, sR a81, sR a88, sI ba, sI q, sD dA, uS]) rfl (XS.aload X89.here hx rfl (hb hby at_295) rfl rfl (XS.iload X89.here hx rfl (hb hby at_297) rfl k))))) ?_
                show OwnGo _ _ _ _ (T89.setTop (mkF m 299 #[sI p0, sI p1, sI p2, sI p3, sJ p4, uS, sI p5, sI (3 : Int32), sI se, sI shf, sI lo, sI hi, sI mi, sI lo, sI mi, sI hi, sD dA, uS, sD dB, uS, sD dC, uS, sR a80, sR a81, sR a88, sI ba, sI q, sD dA, uS] [(.int q), (.ref a88)]))
                obtain ⟨cq96, kq96, qa96, qb96, qc96⟩ := isOf hZ rfl E89
                obtain ⟨_, _, ⟨T96, L96, k96, n96⟩, -, X96, ⟨Lc96, hQ96, l96, y96, z96⟩, st96⟩ := X89.virtualBack hx (y := (⟨"com/example/clausewright/clausewright/learning/ClauseModel$Weights", "valueIn", "(I)D"⟩ : MethodName)) (z := (⟨"com/example/clausewright/clausewright/learning/ClauseModel$Weights", "valueIn", "(I)D"⟩ : MethodName)) hown (mvT hZ (hw _ (List.mem_of_getElem? (i := 37) rfl))) (mvT hZ (hw _ (List.mem_of_getElem? (i := 38) rfl))) (notFace_of_selects (args := #[]) (mvT hZ (hw _ (List.mem_of_getElem? (i := 40) rfl)))) (mvT hZ (hw _ (List.mem_of_getElem? (i := 40) rfl))) (mvT hZ (hw _ (List.mem_of_getElem? (i := 39) rfl))) (by decide) (backOf (W := 0) (rmV3 l Z a0 hw [] a88 ac av lo mi hi dA dB dC q T89.heap n0 Z89 F0 F1 Ac Av) hZ (hw _ (List.mem_of_getElem? (i := 41) rfl)) (hw _ (List.mem_of_getElem? (i := 11) rfl)) (by decide) (by decide)) qa96 qc96 (g := (mkF m 299 #[sI p0, sI p1, sI p2, sI p3, sJ p4, uS, sI p5, sI (3 : Int32), sI se, sI shf, sI lo, sI hi, sI mi, sI lo, sI mi, sI hi, sD dA, uS, sD dB, uS, sD dC, uS, sR a80, sR a81, sR a88, sI ba, sI q, sD dA, uS] [(.int q), (.ref a88)])) rfl (by rw [hml]; rfl) (Steps.refl _) (argsL := [(.int q)]) (rest := []) (lenOf pd_rmV3 rfl) rfl (by show 2 * 0 + _ ≤ _; exact Nat.le_of_eq rfl) (hb hby at_299) (fun _ _ => ⟨rfl, rfl, (by decide : 5 + 0 ≤ _), (by decide : 14 + 0 ≤ _)⟩)
                dsimp only [Pt.U, Pt.locs, Pt.cells, Pt.slots] at X96 l96 y96 z96 st96 hQ96
                subst l96 y96 z96
                obtain ⟨rr, rfl, hr, N96, e96⟩ := hQ96
                refine OwnGo.pre (fun t k => st96.trans k) ?_
                show OwnGo _ _ _ _ (T96.setTop (mkF m 302 #[sI p0, sI p1, sI p2, sI p3, sJ p4, uS, sI p5, sI (3 : Int32), sI se, sI shf, sI lo, sI hi, sI mi, sI lo, sI mi, sI hi, sD dA, uS, sD dB, uS, sD dC, uS, sR a80, sR a81, sR a88, sI ba, sI q, sD dA, uS] [(.double rr)]))
                have M96 := Fr.app M89 N96
                have er : rr = dA := by rw [hr, if_pos hh0]
                refine OwnGo.pre (fun t k => XS.dload X96.here hx rfl (hb hby at_302) rfl (XS.dcmpS X96.here hx rfl (hb hby at_304) rfl rfl (XS.ifNo X96.here hx rfl (hb hby at_305) rfl (by rw [er, dcmpV_self nA]; rfl) (XS.iconst X96.here hx rfl (hb hby at_308) (XS.goto X96.here hx rfl (pc0 := 309) (pc' := 313) rfl (hb hby at_309) (by decide) (by decide) k))))) ?_
                show OwnGo _ _ _ _ (T96.setTop (mkF m 313 #[sI p0, sI p1, sI p2, sI p3, sJ p4, uS, sI p5, sI (3 : Int32), sI se, sI shf, sI lo, sI hi, sI mi, sI lo, sI mi, sI hi, sD dA, uS, sD dB, uS, sD dC, uS, sR a80, sR a81, sR a88, sI ba, sI q, sD dA, uS] [(.int (1 : Int32))]))
                exact own_retZ X96 hx hk hrt (hb hby at_313) ⟨rfl, M96⟩ (by decide) (by decide)
              · skip
                refine OwnGo.pre (fun t k => XS.icmpYes X89.here hx rfl (pc0 := 288) (pc' := 295) rfl (hb hby at_288) rfl (own_neT hh0) (by decide) (by decide) (XS.aload X89.here hx rfl (hb hby at_295) rfl rfl (XS.iload X89.here hx rfl (hb hby at_297) rfl k))) ?_
                show OwnGo _ _ _ _ (T89.setTop (mkF m 299 #[sI p0, sI p1, sI p2, sI p3, sJ p4, uS, sI p5, sI (3 : Int32), sI se, sI shf, sI lo, sI hi, sI mi, sI lo, sI mi, sI hi, sD dA, uS, sD dB, uS, sD dC, uS, sR a80, sR a81, sR a88, sI ba, sI q, sD (0 : UInt64), uS] [(.int q), (.ref a88)]))
                obtain ⟨cq97, kq97, qa97, qb97, qc97⟩ := isOf hZ rfl E89
                obtain ⟨_, _, ⟨T97, L97, k97, n97⟩, -, X97, ⟨Lc97, hQ97, l97, y97, z97⟩, st97⟩ := X89.virtualBack hx (y := (⟨"com/example/clausewright/clausewright/learning/ClauseModel$Weights", "valueIn", "(I)D"⟩ : MethodName)) (z := (⟨"com/example/clausewright/clausewright/learning/ClauseModel$Weights", "valueIn", "(I)D"⟩ : MethodName)) hown (mvT hZ (hw _ (List.mem_of_getElem? (i := 37) rfl))) (mvT hZ (hw _ (List.mem_of_getElem? (i := 38) rfl))) (notFace_of_selects (args := #[]) (mvT hZ (hw _ (List.mem_of_getElem? (i := 40) rfl)))) (mvT hZ (hw _ (List.mem_of_getElem? (i := 40) rfl))) (mvT hZ (hw _ (List.mem_of_getElem? (i := 39) rfl))) (by decide) (backOf (W := 0) (rmV3 l Z a0 hw [] a88 ac av lo mi hi dA dB dC q T89.heap n0 Z89 F0 F1 Ac Av) hZ (hw _ (List.mem_of_getElem? (i := 41) rfl)) (hw _ (List.mem_of_getElem? (i := 11) rfl)) (by decide) (by decide)) qa97 qc97 (g := (mkF m 299 #[sI p0, sI p1, sI p2, sI p3, sJ p4, uS, sI p5, sI (3 : Int32), sI se, sI shf, sI lo, sI hi, sI mi, sI lo, sI mi, sI hi, sD dA, uS, sD dB, uS, sD dC, uS, sR a80, sR a81, sR a88, sI ba, sI q, sD (0 : UInt64), uS] [(.int q), (.ref a88)])) rfl (by rw [hml]; rfl) (Steps.refl _) (argsL := [(.int q)]) (rest := []) (lenOf pd_rmV3 rfl) rfl (by show 2 * 0 + _ ≤ _; exact Nat.le_of_eq rfl) (hb hby at_299) (fun _ _ => ⟨rfl, rfl, (by decide : 5 + 0 ≤ _), (by decide : 14 + 0 ≤ _)⟩)
                dsimp only [Pt.U, Pt.locs, Pt.cells, Pt.slots] at X97 l97 y97 z97 st97 hQ97
                subst l97 y97 z97
                obtain ⟨rr, rfl, hr, N97, e97⟩ := hQ97
                refine OwnGo.pre (fun t k => st97.trans k) ?_
                show OwnGo _ _ _ _ (T97.setTop (mkF m 302 #[sI p0, sI p1, sI p2, sI p3, sJ p4, uS, sI p5, sI (3 : Int32), sI se, sI shf, sI lo, sI hi, sI mi, sI lo, sI mi, sI hi, sD dA, uS, sD dB, uS, sD dC, uS, sR a80, sR a81, sR a88, sI ba, sI q, sD (0 : UInt64), uS] [(.double rr)]))
                have M97 := Fr.app M89 N97
                have er : rr = 0 := by rw [hr, if_neg hh0, if_neg hh1, if_neg hh2]
                refine OwnGo.pre (fun t k => XS.dload X97.here hx rfl (hb hby at_302) rfl (XS.dcmpS X97.here hx rfl (hb hby at_304) rfl rfl (XS.ifNo X97.here hx rfl (hb hby at_305) rfl (by rw [er, dcmpV_self own_nn0]; rfl) (XS.iconst X97.here hx rfl (hb hby at_308) (XS.goto X97.here hx rfl (pc0 := 309) (pc' := 313) rfl (hb hby at_309) (by decide) (by decide) k))))) ?_
                show OwnGo _ _ _ _ (T97.setTop (mkF m 313 #[sI p0, sI p1, sI p2, sI p3, sJ p4, uS, sI p5, sI (3 : Int32), sI se, sI shf, sI lo, sI hi, sI mi, sI lo, sI mi, sI hi, sD dA, uS, sD dB, uS, sD dC, uS, sR a80, sR a81, sR a88, sI ba, sI q, sD (0 : UInt64), uS] [(.int (1 : Int32))]))
                exact own_retZ X97 hx hk hrt (hb hby at_313) ⟨rfl, M97⟩ (by decide) (by decide)
        rcases csel with rfl | rfl | rfl | rfl
        · skip
          show OwnGo _ _ _ _ (T89.setTop (mkF m 198 #[sI p0, sI p1, sI p2, sI p3, sJ p4, uS, sI p5, sI (3 : Int32), sI (0 : Int32), sI shf, sI lo, sI hi, sI mi, sI lo, sI mi, sI hi, sD dA, uS, sD dB, uS, sD dC, uS, sR a80, sR a81, sR a88, uU, uU, uU, uU] [(.int (3 : Int32)), (.int (0 : Int32))]))
          refine OwnGo.pre (fun t k => XS.icmpNo X89.here hx rfl (hb hby at_198) rfl (by decide) (XS.aload X89.here hx rfl (hb hby at_201) rfl rfl (XS.iload X89.here hx rfl (hb hby at_203) rfl (own_iaL X89 hx hZ rfl Aj (j := (0 : Int32)) (by decide) (i := 0) (by decide) (x := lo) rfl (g := (mkF m 205 #[sI p0, sI p1, sI p2, sI p3, sJ p4, uS, sI p5, sI (3 : Int32), sI (0 : Int32), sI shf, sI lo, sI hi, sI mi, sI lo, sI mi, sI hi, sD dA, uS, sD dB, uS, sD dC, uS, sR a80, sR a81, sR a88, uU, uU, uU, uU] [(.int (0 : Int32)), (.ref a80)])) rfl (rest := []) rfl (hb hby at_205) (XS.goto X89.here hx rfl (pc0 := 206) (pc' := 210) rfl (hb hby at_206) (by decide) (by decide) (XS.istore X89.here hx rfl (hb hby at_210) rfl (l' := #[sI p0, sI p1, sI p2, sI p3, sJ p4, uS, sI p5, sI (3 : Int32), sI (0 : Int32), sI shf, sI lo, sI hi, sI mi, sI lo, sI mi, sI hi, sD dA, uS, sD dB, uS, sD dC, uS, sR a80, sR a81, sR a88, sI lo, uU, uU, uU]) rfl (XS.iload X89.here hx rfl (hb hby at_212) rfl (XS.iconst X89.here hx rfl (hb hby at_214) k)))))))) ?_
          show OwnGo _ _ _ _ (T89.setTop (mkF m 215 #[sI p0, sI p1, sI p2, sI p3, sJ p4, uS, sI p5, sI (3 : Int32), sI (0 : Int32), sI shf, sI lo, sI hi, sI mi, sI lo, sI mi, sI hi, sD dA, uS, sD dB, uS, sD dC, uS, sR a80, sR a81, sR a88, sI lo, uU, uU, uU] [(.int (1 : Int32)), (.int shf)]))
          by_cases hs1 : if_icmp.holds .ne shf 1 = true
          · skip
            refine OwnGo.pre (fun t k => XS.icmpYes X89.here hx rfl (pc0 := 215) (pc' := 225) rfl (hb hby at_215) rfl hs1 (by decide) (by decide) (XS.iload X89.here hx rfl (hb hby at_225) rfl (XS.iconst X89.here hx rfl (hb hby at_227) k))) ?_
            show OwnGo _ _ _ _ (T89.setTop (mkF m 228 #[sI p0, sI p1, sI p2, sI p3, sJ p4, uS, sI p5, sI (3 : Int32), sI (0 : Int32), sI shf, sI lo, sI hi, sI mi, sI lo, sI mi, sI hi, sD dA, uS, sD dB, uS, sD dC, uS, sR a80, sR a81, sR a88, sI lo, uU, uU, uU] [(.int (2 : Int32)), (.int shf)]))
            by_cases hs2 : if_icmp.holds .ne shf 2 = true
            · skip
              refine OwnGo.pre (fun t k => XS.icmpYes X89.here hx rfl (pc0 := 228) (pc' := 238) rfl (hb hby at_228) rfl hs2 (by decide) (by decide) (XS.iload X89.here hx rfl (hb hby at_238) rfl k)) ?_
              show OwnGo _ _ _ _ (T89.setTop (mkF m 240 #[sI p0, sI p1, sI p2, sI p3, sJ p4, uS, sI p5, sI (3 : Int32), sI (0 : Int32), sI shf, sI lo, sI hi, sI mi, sI lo, sI mi, sI hi, sD dA, uS, sD dB, uS, sD dC, uS, sR a80, sR a81, sR a88, sI lo, uU, uU, uU] [(.int lo)]))
              exact K240 _ _ _
            · skip
              refine OwnGo.pre (fun t k => XS.icmpNo X89.here hx rfl (hb hby at_228) rfl (eq_false_of_ne_true hs2) (XS.iload X89.here hx rfl (hb hby at_231) rfl (XS.iconst X89.here hx rfl (hb hby at_233) (own_isub X89.here hx rfl (hb hby at_234) rfl rfl (XS.goto X89.here hx rfl (pc0 := 235) (pc' := 240) rfl (hb hby at_235) (by decide) (by decide) k))))) ?_
              show OwnGo _ _ _ _ (T89.setTop (mkF m 240 #[sI p0, sI p1, sI p2, sI p3, sJ p4, uS, sI p5, sI (3 : Int32), sI (0 : Int32), sI shf, sI lo, sI hi, sI mi, sI lo, sI mi, sI hi, sD dA, uS, sD dB, uS, sD dC, uS, sR a80, sR a81, sR a88, sI lo, uU, uU, uU] [(.int (lo - (1 : Int32)))]))
              exact K240 _ _ _
          · skip
            refine OwnGo.pre (fun t k => XS.icmpNo X89.here hx rfl (hb hby at_215) rfl (eq_false_of_ne_true hs1) (XS.iload X89.here hx rfl (hb hby at_218) rfl (XS.iconst X89.here hx rfl (hb hby at_220) (own_iadd X89.here hx rfl (hb hby at_221) rfl rfl (XS.goto X89.here hx rfl (pc0 := 222) (pc' := 240) rfl (hb hby at_222) (by decide) (by decide) k))))) ?_
            show OwnGo _ _ _ _ (T89.setTop (mkF m 240 #[sI p0, sI p1, sI p2, sI p3, sJ p4, uS, sI p5, sI (3 : Int32), sI (0 : Int32), sI shf, sI lo, sI hi, sI mi, sI lo, sI mi, sI hi, sD dA, uS, sD dB, uS, sD dC, uS, sR a80, sR a81, sR a88, sI lo, uU, uU, uU] [(.int (lo + (1 : Int32)))]))
            exact K240 _ _ _
        · skip
          show OwnGo _ _ _ _ (T89.setTop (mkF m 198 #[sI p0, sI p1, sI p2, sI p3, sJ p4, uS, sI p5, sI (3 : Int32), sI (1 : Int32), sI shf, sI lo, sI hi, sI mi, sI lo, sI mi, sI hi, sD dA, uS, sD dB, uS, sD dC, uS, sR a80, sR a81, sR a88, uU, uU, uU, uU] [(.int (3 : Int32)), (.int (1 : Int32))]))
          refine OwnGo.pre (fun t k => XS.icmpNo X89.here hx rfl (hb hby at_198) rfl (by decide) (XS.aload X89.here hx rfl (hb hby at_201) rfl rfl (XS.iload X89.here hx rfl (hb hby at_203) rfl (own_iaL X89 hx hZ rfl Aj (j := (1 : Int32)) (by decide) (i := 1) (by decide) (x := mi) rfl (g := (mkF m 205 #[sI p0, sI p1, sI p2, sI p3, sJ p4, uS, sI p5, sI (3 : Int32), sI (1 : Int32), sI shf, sI lo, sI hi, sI mi, sI lo, sI mi, sI hi, sD dA, uS, sD dB, uS, sD dC, uS, sR a80, sR a81, sR a88, uU, uU, uU, uU] [(.int (1 : Int32)), (.ref a80)])) rfl (rest := []) rfl (hb hby at_205) (XS.goto X89.here hx rfl (pc0 := 206) (pc' := 210) rfl (hb hby at_206) (by decide) (by decide) (XS.istore X89.here hx rfl (hb hby at_210) rfl (l' := #[sI p0, sI p1, sI p2, sI p3, sJ p4, uS, sI p5, sI (3 : Int32), sI (1 : Int32), sI shf, sI lo, sI hi, sI mi, sI lo, sI mi, sI hi, sD dA, uS, sD dB, uS, sD dC, uS, sR a80, sR a81, sR a88, sI mi, uU, uU, uU]) rfl (XS.iload X89.here hx rfl (hb hby at_212) rfl (XS.iconst X89.here hx rfl (hb hby at_214) k)))))))) ?_
          show OwnGo _ _ _ _ (T89.setTop (mkF m 215 #[sI p0, sI p1, sI p2, sI p3, sJ p4, uS, sI p5, sI (3 : Int32), sI (1 : Int32), sI shf, sI lo, sI hi, sI mi, sI lo, sI mi, sI hi, sD dA, uS, sD dB, uS, sD dC, uS, sR a80, sR a81, sR a88, sI mi, uU, uU, uU] [(.int (1 : Int32)), (.int shf)]))
          by_cases hs1 : if_icmp.holds .ne shf 1 = true
          · skip
            refine OwnGo.pre (fun t k => XS.icmpYes X89.here hx rfl (pc0 := 215) (pc' := 225) rfl (hb hby at_215) rfl hs1 (by decide) (by decide) (XS.iload X89.here hx rfl (hb hby at_225) rfl (XS.iconst X89.here hx rfl (hb hby at_227) k))) ?_
            show OwnGo _ _ _ _ (T89.setTop (mkF m 228 #[sI p0, sI p1, sI p2, sI p3, sJ p4, uS, sI p5, sI (3 : Int32), sI (1 : Int32), sI shf, sI lo, sI hi, sI mi, sI lo, sI mi, sI hi, sD dA, uS, sD dB, uS, sD dC, uS, sR a80, sR a81, sR a88, sI mi, uU, uU, uU] [(.int (2 : Int32)), (.int shf)]))
            by_cases hs2 : if_icmp.holds .ne shf 2 = true
            · skip
              refine OwnGo.pre (fun t k => XS.icmpYes X89.here hx rfl (pc0 := 228) (pc' := 238) rfl (hb hby at_228) rfl hs2 (by decide) (by decide) (XS.iload X89.here hx rfl (hb hby at_238) rfl k)) ?_
              show OwnGo _ _ _ _ (T89.setTop (mkF m 240 #[sI p0, sI p1, sI p2, sI p3, sJ p4, uS, sI p5, sI (3 : Int32), sI (1 : Int32), sI shf, sI lo, sI hi, sI mi, sI lo, sI mi, sI hi, sD dA, uS, sD dB, uS, sD dC, uS, sR a80, sR a81, sR a88, sI mi, uU, uU, uU] [(.int mi)]))
              exact K240 _ _ _
            · skip
              refine OwnGo.pre (fun t k => XS.icmpNo X89.here hx rfl (hb hby at_228) rfl (eq_false_of_ne_true hs2) (XS.iload X89.here hx rfl (hb hby at_231) rfl (XS.iconst X89.here hx rfl (hb hby at_233) (own_isub X89.here hx rfl (hb hby at_234) rfl rfl (XS.goto X89.here hx rfl (pc0 := 235) (pc' := 240) rfl (hb hby at_235) (by decide) (by decide) k))))) ?_
              show OwnGo _ _ _ _ (T89.setTop (mkF m 240 #[sI p0, sI p1, sI p2, sI p3, sJ p4, uS, sI p5, sI (3 : Int32), sI (1 : Int32), sI shf, sI lo, sI hi, sI mi, sI lo, sI mi, sI hi, sD dA, uS, sD dB, uS, sD dC, uS, sR a80, sR a81, sR a88, sI mi, uU, uU, uU] [(.int (mi - (1 : Int32)))]))
              exact K240 _ _ _
          · skip
            refine OwnGo.pre (fun t k => XS.icmpNo X89.here hx rfl (hb hby at_215) rfl (eq_false_of_ne_true hs1) (XS.iload X89.here hx rfl (hb hby at_218) rfl (XS.iconst X89.here hx rfl (hb hby at_220) (own_iadd X89.here hx rfl (hb hby at_221) rfl rfl (XS.goto X89.here hx rfl (pc0 := 222) (pc' := 240) rfl (hb hby at_222) (by decide) (by decide) k))))) ?_
            show OwnGo _ _ _ _ (T89.setTop (mkF m 240 #[sI p0, sI p1, sI p2, sI p3, sJ p4, uS, sI p5, sI (3 : Int32), sI (1 : Int32), sI shf, sI lo, sI hi, sI mi, sI lo, sI mi, sI hi, sD dA, uS, sD dB, uS, sD dC, uS, sR a80, sR a81, sR a88, sI mi, uU, uU, uU] [(.int (mi + (1 : Int32)))]))
            exact K240 _ _ _
        · skip
          show OwnGo _ _ _ _ (T89.setTop (mkF m 198 #[sI p0, sI p1, sI p2, sI p3, sJ p4, uS, sI p5, sI (3 : Int32), sI (2 : Int32), sI shf, sI lo, sI hi, sI mi, sI lo, sI mi, sI hi, sD dA, uS, sD dB, uS, sD dC, uS, sR a80, sR a81, sR a88, uU, uU, uU, uU] [(.int (3 : Int32)), (.int (2 : Int32))]))
          refine OwnGo.pre (fun t k => XS.icmpNo X89.here hx rfl (hb hby at_198) rfl (by decide) (XS.aload X89.here hx rfl (hb hby at_201) rfl rfl (XS.iload X89.here hx rfl (hb hby at_203) rfl (own_iaL X89 hx hZ rfl Aj (j := (2 : Int32)) (by decide) (i := 2) (by decide) (x := hi) rfl (g := (mkF m 205 #[sI p0, sI p1, sI p2, sI p3, sJ p4, uS, sI p5, sI (3 : Int32), sI (2 : Int32), sI shf, sI lo, sI hi, sI mi, sI lo, sI mi, sI hi, sD dA, uS, sD dB, uS, sD dC, uS, sR a80, sR a81, sR a88, uU, uU, uU, uU] [(.int (2 : Int32)), (.ref a80)])) rfl (rest := []) rfl (hb hby at_205) (XS.goto X89.here hx rfl (pc0 := 206) (pc' := 210) rfl (hb hby at_206) (by decide) (by decide) (XS.istore X89.here hx rfl (hb hby at_210) rfl (l' := #[sI p0, sI p1, sI p2, sI p3, sJ p4, uS, sI p5, sI (3 : Int32), sI (2 : Int32), sI shf, sI lo, sI hi, sI mi, sI lo, sI mi, sI hi, sD dA, uS, sD dB, uS, sD dC, uS, sR a80, sR a81, sR a88, sI hi, uU, uU, uU]) rfl (XS.iload X89.here hx rfl (hb hby at_212) rfl (XS.iconst X89.here hx rfl (hb hby at_214) k)))))))) ?_
          show OwnGo _ _ _ _ (T89.setTop (mkF m 215 #[sI p0, sI p1, sI p2, sI p3, sJ p4, uS, sI p5, sI (3 : Int32), sI (2 : Int32), sI shf, sI lo, sI hi, sI mi, sI lo, sI mi, sI hi, sD dA, uS, sD dB, uS, sD dC, uS, sR a80, sR a81, sR a88, sI hi, uU, uU, uU] [(.int (1 : Int32)), (.int shf)]))
          by_cases hs1 : if_icmp.holds .ne shf 1 = true
          · skip
            refine OwnGo.pre (fun t k => XS.icmpYes X89.here hx rfl (pc0 := 215) (pc' := 225) rfl (hb hby at_215) rfl hs1 (by decide) (by decide) (XS.iload X89.here hx rfl (hb hby at_225) rfl (XS.iconst X89.here hx rfl (hb hby at_227) k))) ?_
            show OwnGo _ _ _ _ (T89.setTop (mkF m 228 #[sI p0, sI p1, sI p2, sI p3, sJ p4, uS, sI p5, sI (3 : Int32), sI (2 : Int32), sI shf, sI lo, sI hi, sI mi, sI lo, sI mi, sI hi, sD dA, uS, sD dB, uS, sD dC, uS, sR a80, sR a81, sR a88, sI hi, uU, uU, uU] [(.int (2 : Int32)), (.int shf)]))
            by_cases hs2 : if_icmp.holds .ne shf 2 = true
            · skip
              refine OwnGo.pre (fun t k => XS.icmpYes X89.here hx rfl (pc0 := 228) (pc' := 238) rfl (hb hby at_228) rfl hs2 (by decide) (by decide) (XS.iload X89.here hx rfl (hb hby at_238) rfl k)) ?_
              show OwnGo _ _ _ _ (T89.setTop (mkF m 240 #[sI p0, sI p1, sI p2, sI p3, sJ p4, uS, sI p5, sI (3 : Int32), sI (2 : Int32), sI shf, sI lo, sI hi, sI mi, sI lo, sI mi, sI hi, sD dA, uS, sD dB, uS, sD dC, uS, sR a80, sR a81, sR a88, sI hi, uU, uU, uU] [(.int hi)]))
              exact K240 _ _ _
            · skip
              refine OwnGo.pre (fun t k => XS.icmpNo X89.here hx rfl (hb hby at_228) rfl (eq_false_of_ne_true hs2) (XS.iload X89.here hx rfl (hb hby at_231) rfl (XS.iconst X89.here hx rfl (hb hby at_233) (own_isub X89.here hx rfl (hb hby at_234) rfl rfl (XS.goto X89.here hx rfl (pc0 := 235) (pc' := 240) rfl (hb hby at_235) (by decide) (by decide) k))))) ?_
              show OwnGo _ _ _ _ (T89.setTop (mkF m 240 #[sI p0, sI p1, sI p2, sI p3, sJ p4, uS, sI p5, sI (3 : Int32), sI (2 : Int32), sI shf, sI lo, sI hi, sI mi, sI lo, sI mi, sI hi, sD dA, uS, sD dB, uS, sD dC, uS, sR a80, sR a81, sR a88, sI hi, uU, uU, uU] [(.int (hi - (1 : Int32)))]))
              exact K240 _ _ _
          · skip
            refine OwnGo.pre (fun t k => XS.icmpNo X89.here hx rfl (hb hby at_215) rfl (eq_false_of_ne_true hs1) (XS.iload X89.here hx rfl (hb hby at_218) rfl (XS.iconst X89.here hx rfl (hb hby at_220) (own_iadd X89.here hx rfl (hb hby at_221) rfl rfl (XS.goto X89.here hx rfl (pc0 := 222) (pc' := 240) rfl (hb hby at_222) (by decide) (by decide) k))))) ?_
            show OwnGo _ _ _ _ (T89.setTop (mkF m 240 #[sI p0, sI p1, sI p2, sI p3, sJ p4, uS, sI p5, sI (3 : Int32), sI (2 : Int32), sI shf, sI lo, sI hi, sI mi, sI lo, sI mi, sI hi, sD dA, uS, sD dB, uS, sD dC, uS, sR a80, sR a81, sR a88, sI hi, uU, uU, uU] [(.int (hi + (1 : Int32)))]))
            exact K240 _ _ _
        · skip
          show OwnGo _ _ _ _ (T89.setTop (mkF m 198 #[sI p0, sI p1, sI p2, sI p3, sJ p4, uS, sI p5, sI (3 : Int32), sI (3 : Int32), sI shf, sI lo, sI hi, sI mi, sI lo, sI mi, sI hi, sD dA, uS, sD dB, uS, sD dC, uS, sR a80, sR a81, sR a88, uU, uU, uU, uU] [(.int (3 : Int32)), (.int (3 : Int32))]))
          refine OwnGo.pre (fun t k => XS.icmpYes X89.here hx rfl (pc0 := 198) (pc' := 209) rfl (hb hby at_198) rfl (by decide) (by decide) (by decide) (XS.iloadN X89.here hx rfl (hb hby at_209) rfl (XS.istore X89.here hx rfl (hb hby at_210) rfl (l' := #[sI p0, sI p1, sI p2, sI p3, sJ p4, uS, sI p5, sI (3 : Int32), sI (3 : Int32), sI shf, sI lo, sI hi, sI mi, sI lo, sI mi, sI hi, sD dA, uS, sD dB, uS, sD dC, uS, sR a80, sR a81, sR a88, sI p0, uU, uU, uU]) rfl (XS.iload X89.here hx rfl (hb hby at_212) rfl (XS.iconst X89.here hx rfl (hb hby at_214) k))))) ?_
          show OwnGo _ _ _ _ (T89.setTop (mkF m 215 #[sI p0, sI p1, sI p2, sI p3, sJ p4, uS, sI p5, sI (3 : Int32), sI (3 : Int32), sI shf, sI lo, sI hi, sI mi, sI lo, sI mi, sI hi, sD dA, uS, sD dB, uS, sD dC, uS, sR a80, sR a81, sR a88, sI p0, uU, uU, uU] [(.int (1 : Int32)), (.int shf)]))
          by_cases hs1 : if_icmp.holds .ne shf 1 = true
          · skip
            refine OwnGo.pre (fun t k => XS.icmpYes X89.here hx rfl (pc0 := 215) (pc' := 225) rfl (hb hby at_215) rfl hs1 (by decide) (by decide) (XS.iload X89.here hx rfl (hb hby at_225) rfl (XS.iconst X89.here hx rfl (hb hby at_227) k))) ?_
            show OwnGo _ _ _ _ (T89.setTop (mkF m 228 #[sI p0, sI p1, sI p2, sI p3, sJ p4, uS, sI p5, sI (3 : Int32), sI (3 : Int32), sI shf, sI lo, sI hi, sI mi, sI lo, sI mi, sI hi, sD dA, uS, sD dB, uS, sD dC, uS, sR a80, sR a81, sR a88, sI p0, uU, uU, uU] [(.int (2 : Int32)), (.int shf)]))
            by_cases hs2 : if_icmp.holds .ne shf 2 = true
            · skip
              refine OwnGo.pre (fun t k => XS.icmpYes X89.here hx rfl (pc0 := 228) (pc' := 238) rfl (hb hby at_228) rfl hs2 (by decide) (by decide) (XS.iload X89.here hx rfl (hb hby at_238) rfl k)) ?_
              show OwnGo _ _ _ _ (T89.setTop (mkF m 240 #[sI p0, sI p1, sI p2, sI p3, sJ p4, uS, sI p5, sI (3 : Int32), sI (3 : Int32), sI shf, sI lo, sI hi, sI mi, sI lo, sI mi, sI hi, sD dA, uS, sD dB, uS, sD dC, uS, sR a80, sR a81, sR a88, sI p0, uU, uU, uU] [(.int p0)]))
              exact K240 _ _ _
            · skip
              refine OwnGo.pre (fun t k => XS.icmpNo X89.here hx rfl (hb hby at_228) rfl (eq_false_of_ne_true hs2) (XS.iload X89.here hx rfl (hb hby at_231) rfl (XS.iconst X89.here hx rfl (hb hby at_233) (own_isub X89.here hx rfl (hb hby at_234) rfl rfl (XS.goto X89.here hx rfl (pc0 := 235) (pc' := 240) rfl (hb hby at_235) (by decide) (by decide) k))))) ?_
              show OwnGo _ _ _ _ (T89.setTop (mkF m 240 #[sI p0, sI p1, sI p2, sI p3, sJ p4, uS, sI p5, sI (3 : Int32), sI (3 : Int32), sI shf, sI lo, sI hi, sI mi, sI lo, sI mi, sI hi, sD dA, uS, sD dB, uS, sD dC, uS, sR a80, sR a81, sR a88, sI p0, uU, uU, uU] [(.int (p0 - (1 : Int32)))]))
              exact K240 _ _ _
          · skip
            refine OwnGo.pre (fun t k => XS.icmpNo X89.here hx rfl (hb hby at_215) rfl (eq_false_of_ne_true hs1) (XS.iload X89.here hx rfl (hb hby at_218) rfl (XS.iconst X89.here hx rfl (hb hby at_220) (own_iadd X89.here hx rfl (hb hby at_221) rfl rfl (XS.goto X89.here hx rfl (pc0 := 222) (pc' := 240) rfl (hb hby at_222) (by decide) (by decide) k))))) ?_
            show OwnGo _ _ _ _ (T89.setTop (mkF m 240 #[sI p0, sI p1, sI p2, sI p3, sJ p4, uS, sI p5, sI (3 : Int32), sI (3 : Int32), sI shf, sI lo, sI hi, sI mi, sI lo, sI mi, sI hi, sD dA, uS, sD dB, uS, sD dC, uS, sR a80, sR a81, sR a88, sI p0, uU, uU, uU] [(.int (p0 + (1 : Int32)))]))
            exact K240 _ _ _
set_option maxRecDepth 65536 in
set_option maxHeartbeats 40000000 in
theorem comes_1 {Post : Tables → Env → Array Value → State → Outcome → State → Prop} (hpost : ∀ tb e args s v u, (limb_1_1.after args s (.returned v) u = true ∧ limb_1_2.after args s (.returned v) u = true ∧ True) → FrameEnd s (.returned v) u (Jvm.fieldLocs frame_1_writes args s ++ Jvm.arrayLocs frame_1_arrays args s ++ Jvm.staticLocs frame_1_statics s) 24 128 → Post tb e args s (.returned v) u) :
    ArmFor flags0 classFile x code maxLocals ret World_1 tables_1 room_1 Calls_1 rest_1 Pre_1 Post := by
  intro l hfl _ _ p e ha hc hk s m args below hf hA hF happ hP
  obtain ⟨hcalls, hrest, hpre⟩ := hP
  obtain ⟨-, -, -, hnamed, -, -, -, hat⟩ := (Spec.applies_iff hf).mp happ
  obtain ⟨hg, hn⟩ := and_e (Cond.before_iff.mp (show (Jvm.Cond.and given_1 narrow_1).before args s = true from hpre))
  obtain ⟨hcnt, q0⟩ := and_e hg
  obtain ⟨b0, q1⟩ := and_e q0
  obtain ⟨b1, q2⟩ := and_e q1
  obtain ⟨b2, q3⟩ := and_e q2
  obtain ⟨b3, q4⟩ := and_e q3
  obtain ⟨b4, q5⟩ := and_e q4
  have b5 := q5
  obtain ⟨w0, w1, w2, w3, w4, w5, rfl⟩ : ∃ w0 w1 w2 w3 w4 w5 : Value, args = #[w0, w1, w2, w3, w4, w5] := by
    have hs : args.size = 6 := by simpa [Cond.value, given_1] using hcnt
    obtain ⟨L⟩ := args
    match L, hs with
    | [w0, w1, w2, w3, w4, w5], _ => exact ⟨w0, w1, w2, w3, w4, w5, rfl⟩
  have hw := fun d (hd : d ∈ tables_1) => atoms_spec (ws := Jvm.Cond.code x code maxLocals ret :: tables_1) hat d (List.mem_cons_of_mem _ hd)
  have hfit : Fit s := fun {y c} hc i hi => by
    obtain ⟨ha, rfl⟩ := Array.getElem?_eq_some_iff.mp hc
    have q := List.all_eq_true.mp ((Array.all_eq_true_iff_forall_mem.mp hF) _ (Array.getElem_mem ha)) i (List.mem_range.mpr hi)
    simpa [Array.getElem?_eq_getElem hi] using q
  obtain ⟨i0, ei0⟩ := is_v b0
  obtain rfl : w0 = (.int i0) := Option.some.inj ei0
  obtain ⟨i1, ei1⟩ := is_v b1
  obtain rfl : w1 = (.int i1) := Option.some.inj ei1
  obtain ⟨i2, ei2⟩ := is_v b2
  obtain rfl : w2 = (.int i2) := Option.some.inj ei2
  obtain ⟨i3, ei3⟩ := is_v b3
  obtain rfl : w3 = (.int i3) := Option.some.inj ei3
  obtain ⟨i4, ei4⟩ := isL_v b4
  obtain rfl : w4 = (.long i4) := Option.some.inj ei4
  obtain ⟨i5, ei5⟩ := is_v b5
  obtain rfl : w5 = (.int i5) := Option.some.inj ei5
  obtain ⟨n, o, h1, h2, h3, _, L, rfl, ⟨rfl, N⟩, hq⟩ := rmL l s _ hw tables_1 i0 i1 i2 i3 i4 i5  s.heap s.heap.size (Nat.le_refl _)  p e ha hc hk s m _ below hf ((Spec.applies_iff_loose hf).mp happ).1 ⟨rfl, State.Warmed39.refl s, rfl⟩ trivial
  refine ⟨n, _, h1, h2, h3, hpost _ _ _ _ _ _ ⟨Cond.after_iff.mpr rfl, Cond.after_iff.mpr (eq_i res_at (Term.int_eval (1)) rfl), trivial⟩ ⟨hq.1, hq.2.1, (hq.2.2.sift fun y hy => Or.inr (N y hy)).mono (by decide) (by decide)⟩⟩
theorem main_1_1 : Claimed_1_1 := comes_1 fun _ _ _ _ _ _ h hF => ⟨h.1, hF⟩
theorem main_1_2 : Claimed_1_2 := comes_1 fun _ _ _ _ _ _ h hF => ⟨h.2.1, hF⟩
end Jvm.Pilot.@@N@@
namespace Jvm.Pilot.@@N@@
open Jvm Jvm.ClassFile Sem Op Lib Jvm.Free Jvm.Stand Jvm.Pilot.@@N@@.Jvm.D
/-! MADE BY PROGRAM (witnessworld.py) out of the Statement's table words and the real class files: 12 classes; the members and pool entries that the words name. The judged class is class 1, her method 1. -/
namespace start1
open Jvm.ClassFile
def u (s : String) : CpInfo := .utf8 (stringToUtf16 s)
/-- a pool by its gaps: so many unusable entries, then the entry; so many at the end -/
def gap : Nat → List CpInfo → List CpInfo
  | 0, r => r
  | n + 1, r => .unusable :: gap n r
def poolList (es : List (Nat × CpInfo)) (last : Nat) : List CpInfo := es.foldr (fun e r => gap e.1 (e.2 :: r)) (gap last [])
def pool (es : List (Nat × CpInfo)) (last : Nat) : Array CpInfo := ⟨poolList es last⟩
def fileOf (pool : Array CpInfo) (this : Nat) (attrs : Array Attribute := #[]) (ms : Array MethodInfo := #[]) (fl : Nat := 33) (sup : Nat := 0) (ifs : Array Nat := #[]) (fds : Array FieldInfo := #[]) : ClassFile where
  minorVersion := 0
  majorVersion := 65
  constantPool := pool
  accessFlags := fl
  thisClass := this
  superClass := sup
  interfaces := ifs
  fields := fds
  methods := ms
  attributes := attrs
def plain (name : String) (sup : Option ClassId) : Class where
  name := name
  kind := .ordinary
  loader := none
  accessFlags := 33
  super := sup
  interfaces := #[]
  cf := none
  fields := #[]
  methods := #[]
  instanceTypes := #[]
  staticTypes := #[]
  resolved := #[]
  callSites := []
  init := .initialized
  statics := none
  mirror := none

def pool0 : Array CpInfo := pool [(5, u "<init>"), (0, u "()V"), (1, .class_ 10), (1, u "java/lang/Object"), (85, u "clone"), (0, u "()Ljava/lang/Object;")] 26

def k0c0 : Code := { maxStack := 0, maxLocals := 1, code := object_method_1_code, exceptionTable := #[], attributes := #[] }
def k0m0 : Method := { name := "<init>", desc := "()V", sig := { parameters := [], returnType := none }, accessFlags := 1, code := some k0c0 }
def k0m1 : Method := { name := "clone", desc := "()Ljava/lang/Object;", sig := { parameters := [], returnType := some (.object "java/lang/Object") }, accessFlags := 260, code := none }
/-- java/lang/Object -/
def k0 : Class := { plain "java/lang/Object" none with
  accessFlags := 33
  interfaces := #[]
  cf := some (fileOf pool0 8 #[] #[{ accessFlags := 1, nameIndex := 5, descriptorIndex := 6, attributes := #[] }, { accessFlags := 260, nameIndex := 96, descriptorIndex := 97, attributes := #[] }] 33 0 #[] #[])
  fields := #[]
  methods := #[k0m0, k0m1]
  instanceTypes := #[]
  staticTypes := #[]
  resolved := Array.replicate 124 none
  statics := none }

def pool1 : Array CpInfo := pool [(2, .class_ 4), (1, u "java/lang/Object"), (0, u "<init>"), (0, u "()V"), (0, .methodref 8 9), (0, .class_ 10), (0, .nameAndType 11 12), (0, u "java/lang/Math"), (0, u "min"), (0, u "(II)I"), (0, .methodref 8 14), (0, .nameAndType 15 12), (0, u "max"), (0, .class_ 17), (0, u "com/example/clausewright/clausewright/learning/ClauseModel$Weights"), (0, .methodref 16 19), (0, .nameAndType 5 20), (0, u "([I[D)V"), (0, .methodref 16 22), (0, .nameAndType 23 24), (0, u "valueIn"), (0, u "(I)D"), (0, .class_ 26), (0, u "com/example/clausewright/clausewright/learning/WeightsValueInPinLaw"), (2, u "law"), (0, u "(IIIIJI)Z")] 11

def k1m0 : Method := { name := "<init>", desc := "()V", sig := { parameters := [], returnType := none }, accessFlags := 1, code := none }
def k1c1 : Code := { maxStack := 4, maxLocals := 29, code := code, exceptionTable := #[], attributes := #[] }
def k1m1 : Method := { name := "law", desc := "(IIIIJI)Z", sig := { parameters := [.int, .int, .int, .int, .long, .int], returnType := some .boolean }, accessFlags := 9, code := some k1c1 }
/-- com/example/clausewright/clausewright/learning/WeightsValueInPinLaw -/
def k1 : Class := { plain "com/example/clausewright/clausewright/learning/WeightsValueInPinLaw" (some 0) with
  accessFlags := 49
  interfaces := #[]
  cf := some (fileOf pool1 25 #[] #[{ accessFlags := 1, nameIndex := 5, descriptorIndex := 6, attributes := #[] }, { accessFlags := 9, nameIndex := 29, descriptorIndex := 30, attributes := #[] }] 49 2 #[] #[])
  fields := #[]
  methods := #[k1m0, k1m1]
  instanceTypes := #[]
  staticTypes := #[]
  resolved := Array.replicate 42 none
  statics := none }

def pool2 : Array CpInfo := pool [(1, .class_ 2), (0, u "java/lang/Math"), (1, .class_ 6), (1, u "java/lang/Object"), (0, u "<init>"), (0, u "()V"), (89, .class_ 100), (1, u "java/lang/Math$RandomNumberGeneratorHolder"), (71, u "negativeZeroFloatBits"), (0, u "J"), (2, u "negativeZeroDoubleBits"), (21, u "max"), (2, u "min"), (43, u "$assertionsDisabled"), (0, u "Z"), (88, u "(II)I"), (2, u "twoToTheDoubleScaleDown"), (0, u "D"), (4, u "twoToTheDoubleScaleUp"), (9, u "E"), (3, u "PI"), (2, u "TAU"), (2, u "DEGREES_TO_RADIANS"), (0, u "RADIANS_TO_DEGREES")] 94

def k2m0 : Method := { name := "<init>", desc := "()V", sig := { parameters := [], returnType := none }, accessFlags := 2, code := none }
def k2c1 : Code := { maxStack := 2, maxLocals := 2, code := jdk_29_method_65_code, exceptionTable := #[], attributes := #[] }
def k2m1 : Method := { name := "max", desc := "(II)I", sig := { parameters := [.int, .int], returnType := some .int }, accessFlags := 9, code := some k2c1 }
def k2c2 : Code := { maxStack := 2, maxLocals := 2, code := jdk_29_method_69_code, exceptionTable := #[], attributes := #[] }
def k2m2 : Method := { name := "min", desc := "(II)I", sig := { parameters := [.int, .int], returnType := some .int }, accessFlags := 9, code := some k2c2 }
/-- java/lang/Math -/
def k2 : Class := { plain "java/lang/Math" (some 0) with
  accessFlags := 49
  interfaces := #[]
  cf := some (fileOf pool2 1 #[.nestMembers #[98]] #[{ accessFlags := 2, nameIndex := 7, descriptorIndex := 8, attributes := #[] }, { accessFlags := 9, nameIndex := 198, descriptorIndex := 335, attributes := #[] }, { accessFlags := 9, nameIndex := 201, descriptorIndex := 335, attributes := #[] }] 49 4 #[] #[{ accessFlags := 25, nameIndex := 354, descriptorIndex := 339, attributes := #[] }, { accessFlags := 25, nameIndex := 358, descriptorIndex := 339, attributes := #[] }, { accessFlags := 25, nameIndex := 361, descriptorIndex := 339, attributes := #[] }, { accessFlags := 26, nameIndex := 364, descriptorIndex := 339, attributes := #[] }, { accessFlags := 26, nameIndex := 365, descriptorIndex := 339, attributes := #[] }, { accessFlags := 26, nameIndex := 172, descriptorIndex := 173, attributes := #[] }, { accessFlags := 26, nameIndex := 176, descriptorIndex := 173, attributes := #[] }, { accessFlags := 8, nameIndex := 344, descriptorIndex := 339, attributes := #[] }, { accessFlags := 8, nameIndex := 338, descriptorIndex := 339, attributes := #[] }, { accessFlags := 4120, nameIndex := 245, descriptorIndex := 246, attributes := #[] }])
  fields := #[{ name := "E", type := .double, accessFlags := 25, slot := 0, constantValue := 0 }, { name := "PI", type := .double, accessFlags := 25, slot := 1, constantValue := 0 }, { name := "TAU", type := .double, accessFlags := 25, slot := 2, constantValue := 0 }, { name := "DEGREES_TO_RADIANS", type := .double, accessFlags := 26, slot := 3, constantValue := 0 }, { name := "RADIANS_TO_DEGREES", type := .double, accessFlags := 26, slot := 4, constantValue := 0 }, { name := "negativeZeroFloatBits", type := .long, accessFlags := 26, slot := 5, constantValue := 0 }, { name := "negativeZeroDoubleBits", type := .long, accessFlags := 26, slot := 6, constantValue := 0 }, { name := "twoToTheDoubleScaleUp", type := .double, accessFlags := 8, slot := 7, constantValue := 0 }, { name := "twoToTheDoubleScaleDown", type := .double, accessFlags := 8, slot := 8, constantValue := 0 }, { name := "$assertionsDisabled", type := .boolean, accessFlags := 4120, slot := 9, constantValue := 0 }]
  methods := #[k2m0, k2m1, k2m2]
  instanceTypes := #[]
  staticTypes := #[.double, .double, .double, .double, .double, .long, .long, .double, .double, .boolean]
  resolved := Array.replicate 460 none
  statics := none }

def pool3 : Array CpInfo := pool [(1, .methodref 2 3), (0, .class_ 4), (0, .nameAndType 5 6), (0, u "java/lang/Object"), (0, u "<init>"), (0, u "()V"), (0, .methodref 8 9), (0, .class_ 10), (0, .nameAndType 11 12), (0, u "[I"), (0, u "clone"), (0, u "()Ljava/lang/Object;"), (0, .fieldref 14 15), (0, .class_ 16), (0, .nameAndType 17 10), (0, u "com/example/clausewright/clausewright/learning/ClauseModel$Weights"), (0, u "columns"), (0, .methodref 19 9), (0, .class_ 20), (0, u "[D"), (0, .fieldref 14 22), (0, .nameAndType 23 20), (0, u "values"), (0, u "([I[D)V"), (7, u "(I)D"), (0, u "valueIn"), (4, .class_ 39), (0, u "com/example/clausewright/clausewright/learning/ClauseModel")] 2

def k3c0 : Code := { maxStack := 2, maxLocals := 3, code := prog_36_method_1_code, exceptionTable := #[], attributes := #[] }
def k3m0 : Method := { name := "<init>", desc := "([I[D)V", sig := { parameters := [(.array .int), (.array .double)], returnType := none }, accessFlags := 0, code := some k3c0 }
def k3c1 : Code := { maxStack := 2, maxLocals := 3, code := prog_36_method_5_code, exceptionTable := #[], attributes := #[] }
def k3m1 : Method := { name := "valueIn", desc := "(I)D", sig := { parameters := [.int], returnType := some .double }, accessFlags := 0, code := some k3c1 }
/-- com/example/clausewright/clausewright/learning/ClauseModel$Weights -/
def k3 : Class := { plain "com/example/clausewright/clausewright/learning/ClauseModel$Weights" (some 0) with
  accessFlags := 32
  interfaces := #[]
  cf := some (fileOf pool3 14 #[.nestHost 38] #[{ accessFlags := 0, nameIndex := 5, descriptorIndex := 24, attributes := #[] }, { accessFlags := 0, nameIndex := 33, descriptorIndex := 32, attributes := #[] }] 32 2 #[] #[{ accessFlags := 18, nameIndex := 17, descriptorIndex := 10, attributes := #[] }, { accessFlags := 18, nameIndex := 23, descriptorIndex := 20, attributes := #[] }])
  fields := #[{ name := "columns", type := (.array .int), accessFlags := 18, slot := 0, constantValue := 0 }, { name := "values", type := (.array .double), accessFlags := 18, slot := 1, constantValue := 0 }]
  methods := #[k3m0, k3m1]
  instanceTypes := #[(.array .int), (.array .double)]
  staticTypes := #[]
  resolved := Array.replicate 42 none
  statics := none }

def pool4 : Array CpInfo := pool [(1, .class_ 2), (0, u "java/lang/Cloneable"), (0, .class_ 4), (0, u "java/lang/Object")] 2

/-- java/lang/Cloneable -/
def k4 : Class := { plain "java/lang/Cloneable" (some 0) with
  accessFlags := 1537
  interfaces := #[]
  cf := some (fileOf pool4 1 #[] #[] 1537 3 #[] #[])
  fields := #[]
  methods := #[]
  instanceTypes := #[]
  staticTypes := #[]
  resolved := Array.replicate 7 none
  statics := none }

def pool5 : Array CpInfo := pool [(1, u "java/io/Serializable"), (0, .class_ 1), (0, u "java/lang/Object"), (0, .class_ 3)] 3

/-- java/io/Serializable -/
def k5 : Class := { plain "java/io/Serializable" (some 0) with
  accessFlags := 1537
  interfaces := #[]
  cf := some (fileOf pool5 2 #[] #[] 1537 4 #[] #[])
  fields := #[]
  methods := #[]
  instanceTypes := #[]
  staticTypes := #[]
  resolved := Array.replicate 8 none
  statics := none }

/-- the primitive byte -/
def k6 : Class := { plain "byte" none with kind := .primitive 'B', accessFlags := 0x411 }
/-- [B -/
def k7 : Class := { plain "[B" (some 0) with kind := .array 6 .byte, interfaces := #[4, 5], accessFlags := 1041 }

/-- the primitive double -/
def k8 : Class := { plain "double" none with kind := .primitive 'D', accessFlags := 0x411 }
/-- [D -/
def k9 : Class := { plain "[D" (some 0) with kind := .array 8 .double, interfaces := #[4, 5], accessFlags := 1041 }

/-- the primitive int -/
def k10 : Class := { plain "int" none with kind := .primitive 'I', accessFlags := 0x411 }
/-- [I -/
def k11 : Class := { plain "[I" (some 0) with kind := .array 10 .int, interfaces := #[4, 5], accessFlags := 1041 }

def heap : Heap := #[]
def classes : Array Class := #[k0, k1, k2, k3, k4, k5, k6, k7, k8, k9, k10, k11]
def interned : List (Array UInt16 × Addr) := []
def slotsUsed : Nat := 0
def theMethod : MethodId := ⟨1, 1⟩
def args0 : Array Value := #[.int 5, .int 3, .int 7, .int 2, .long 11, .int 4]
def aboutOver (below : List Frame) : State where
  vm := { classes := classes, interned := interned.toArray }
  heap := heap
  slotsUsed := slotsUsed
  threads := #[{ frames := .invoking theMethod args0 :: below }]
def below0 : List Frame := [.native { method := ⟨0, 0⟩, args := #[] }]
def about1 : State := aboutOver below0
def p0 : Program := .bare "" "" ""
def e0 : Env := launch0.env 0 0 0
theorem w_frames : about1.frames = Frame.invoking theMethod args0 :: below0 := rfl
set_option maxRecDepth 65536 in
theorem w_args : argsFit about1.vm theMethod args0 = true := by decide +kernel
set_option maxRecDepth 65536 in
theorem w_heap : heapFits about1 = true := by decide +kernel
set_option maxRecDepth 65536 in
theorem w_runnable : about1.curStatus? = some .runnable := by decide +kernel
set_option maxRecDepth 65536 in
theorem w_alone : about1.alone = true := by decide +kernel
set_option maxRecDepth 65536 in
theorem w_named : about1.methodNamed? x = some theMethod := by decide +kernel
set_option maxRecDepth 65536 in
theorem w_hears : about1.hears theMethod below0 = true := by decide +kernel
set_option maxRecDepth 65536 in
theorem w_ripe : about1.ripe theMethod args0 below0 = true := by decide +kernel
theorem w_running : about1.status = .running := rfl
set_option maxRecDepth 65536 in
theorem w_room : about1.hasRoom e0.platform room_1 = true :=
  launch0.hasRoom_least _ room_1 (by decide +kernel) (by decide +kernel) (by decide +kernel) (by decide +kernel) (by decide +kernel) (by decide +kernel)
theorem allAtoms_all (ts : List Jvm.Cond) (a : Array Jvm.Value) (st : Jvm.State) : (allAtoms ts).before a st = ts.all (fun c => c.before a st) := by
  induction ts with
  | nil => rfl
  | cons c t ih =>
    show (Jvm.Cond.and c (allAtoms t)).before a st = _
    rw [Jvm.Cond.before_and, ih, List.all_cons]
def words1 : List Jvm.Cond := Jvm.Cond.code x code maxLocals ret :: tables_1
/-- a 'code' word, met by the world's own term for the bytes: nothing is compared byte by byte -/
theorem code_word {y : MethodName} {bytes : ByteArray} {mx : Nat} {rt : Option FieldType} {a : Array Value} {s : State} {m : MethodId} {meth : Method} {c : Code} (h1 : s.methodNamed? y = some m) (h2 : s.vm.method? m = some meth) (h3 : meth.code = some c) (h4 : c.code = bytes)
    (h5 : (c.maxLocals == mx && c.exceptionTable.isEmpty && decide (c.maxStack ≤ mostOperands) && decide (meth.sig.returnType = rt) && !meth.locks && decide (parseMethodDescriptor y.desc = some meth.sig)) = true) : (Jvm.Cond.code y bytes mx rt).before a s = true := by
  simp only [Bool.and_eq_true, beq_iff_eq, Bool.not_eq_true', decide_eq_true_eq] at h5
  obtain ⟨⟨⟨⟨⟨g1, g2⟩, g3⟩, g4⟩, g5⟩, g6⟩ := h5
  simp [Cond.before, Cond.holds, Cond.value, h1, h2, h3, h4, g1, g2, g3, g4, g5, g6]
def isCode : Jvm.Cond → Bool
  | .code _ _ _ _ => true
  | _ => false
theorem all_split {L : List Jvm.Cond} {P : Jvm.Cond → Bool} (h1 : L.all (fun c => isCode c || P c) = true) (h2 : ∀ c ∈ L.filter isCode, P c = true) : L.all P = true := by
  refine List.all_eq_true.mpr fun c hc => ?_
  have h := List.all_eq_true.mp h1 c hc
  rcases Bool.eq_false_or_eq_true (isCode c) with hi | hi
  · exact h2 c (List.mem_filter.mpr ⟨hc, hi⟩)
  · simpa [hi] using h
set_option maxRecDepth 65536 in
theorem w_c0 : (Jvm.Cond.code x code maxLocals ret).before args0 about1 = true := code_word (m := ⟨1, 1⟩) (meth := k1m1) (c := k1c1) (by decide +kernel) rfl rfl rfl (by decide +kernel)
set_option maxRecDepth 65536 in
theorem w_c1 : (Jvm.Cond.code ({ cls := "java/lang/Math", name := "min", desc := "(II)I" } : Jvm.MethodName) jdk_29_method_69_code (2 : Nat) (Option.some Jvm.ClassFile.FieldType.int)).before args0 about1 = true := code_word (m := ⟨2, 2⟩) (meth := k2m2) (c := k2c2) (by decide +kernel) rfl rfl rfl (by decide +kernel)
set_option maxRecDepth 65536 in
theorem w_c2 : (Jvm.Cond.code ({ cls := "java/lang/Math", name := "max", desc := "(II)I" } : Jvm.MethodName) jdk_29_method_65_code (2 : Nat) (Option.some Jvm.ClassFile.FieldType.int)).before args0 about1 = true := code_word (m := ⟨2, 1⟩) (meth := k2m1) (c := k2c1) (by decide +kernel) rfl rfl rfl (by decide +kernel)
set_option maxRecDepth 65536 in
theorem w_c3 : (Jvm.Cond.code ({ cls := "com/example/clausewright/clausewright/learning/ClauseModel$Weights", name := "<init>", desc := "([I[D)V" } : Jvm.MethodName) prog_36_method_1_code (3 : Nat) (Option.none : Option Jvm.ClassFile.FieldType)).before args0 about1 = true := code_word (m := ⟨3, 0⟩) (meth := k3m0) (c := k3c0) (by decide +kernel) rfl rfl rfl (by decide +kernel)
set_option maxRecDepth 65536 in
theorem w_c4 : (Jvm.Cond.code ({ cls := "java/lang/Object", name := "<init>", desc := "()V" } : Jvm.MethodName) object_method_1_code (1 : Nat) (Option.none : Option Jvm.ClassFile.FieldType)).before args0 about1 = true := code_word (m := ⟨0, 0⟩) (meth := k0m0) (c := k0c0) (by decide +kernel) rfl rfl rfl (by decide +kernel)
set_option maxRecDepth 65536 in
theorem w_c5 : (Jvm.Cond.code ({ cls := "com/example/clausewright/clausewright/learning/ClauseModel$Weights", name := "valueIn", desc := "(I)D" } : Jvm.MethodName) prog_36_method_5_code (3 : Nat) (Option.some Jvm.ClassFile.FieldType.double)).before args0 about1 = true := code_word (m := ⟨3, 1⟩) (meth := k3m1) (c := k3c1) (by decide +kernel) rfl rfl rfl (by decide +kernel)
def codes1 : List Jvm.Cond := [Jvm.Cond.code x code maxLocals ret, Jvm.Cond.code ({ cls := "java/lang/Math", name := "min", desc := "(II)I" } : Jvm.MethodName) jdk_29_method_69_code (2 : Nat) (Option.some Jvm.ClassFile.FieldType.int), Jvm.Cond.code ({ cls := "java/lang/Math", name := "max", desc := "(II)I" } : Jvm.MethodName) jdk_29_method_65_code (2 : Nat) (Option.some Jvm.ClassFile.FieldType.int), Jvm.Cond.code ({ cls := "com/example/clausewright/clausewright/learning/ClauseModel$Weights", name := "<init>", desc := "([I[D)V" } : Jvm.MethodName) prog_36_method_1_code (3 : Nat) (Option.none : Option Jvm.ClassFile.FieldType), Jvm.Cond.code ({ cls := "java/lang/Object", name := "<init>", desc := "()V" } : Jvm.MethodName) object_method_1_code (1 : Nat) (Option.none : Option Jvm.ClassFile.FieldType), Jvm.Cond.code ({ cls := "com/example/clausewright/clausewright/learning/ClauseModel$Weights", name := "valueIn", desc := "(I)D" } : Jvm.MethodName) prog_36_method_5_code (3 : Nat) (Option.some Jvm.ClassFile.FieldType.double)]
set_option maxRecDepth 65536 in
theorem codes_eq : words1.filter isCode = codes1 := rfl
theorem w_codes : ∀ c ∈ words1.filter isCode, c.before args0 about1 = true := by
  rw [codes_eq]
  intro c hc
  simp only [codes1, List.mem_cons, List.not_mem_nil, or_false] at hc
  rcases hc with rfl | rfl | rfl | rfl | rfl | rfl
  · exact w_c0
  · exact w_c1
  · exact w_c2
  · exact w_c3
  · exact w_c4
  · exact w_c5
set_option maxRecDepth 65536 in
theorem w_t1 : (words1.take 24).all (fun c => isCode c || c.before args0 about1) = true := by decide +kernel
set_option maxRecDepth 65536 in
theorem w_t2 : (words1.drop 24).all (fun c => isCode c || c.before args0 about1) = true := by decide +kernel
theorem w_tables : (allAtoms (Jvm.Cond.code x code maxLocals ret :: tables_1)).before args0 about1 = true := by
  rw [allAtoms_all]
  show words1.all (fun c => c.before args0 about1) = true
  refine all_split ?_ w_codes
  rw [← List.take_append_drop 24 words1, List.all_append, w_t1, w_t2]
  rfl
set_option maxRecDepth 65536 in
theorem w_case : (Jvm.Cond.and given_1 narrow_1).before args0 about1 = true := by decide +kernel
theorem w_applies : (headSpec (Jvm.Cond.code x code maxLocals ret :: tables_1) room_1).applies x e0.platform about1 = true :=
  (Spec.applies_iff w_frames).mpr ⟨w_running, w_runnable, w_alone, w_named, w_hears, w_ripe, w_room, w_tables⟩
theorem atStart : AtStart classFile x code maxLocals ret World_1 tables_1 room_1 Calls_1 rest_1 Pre_1 launch0 p0 e0 about1 theMethod args0 below0 :=
  ⟨lists_1, trivial, launch0.admits_env _ _ _, launch0.least_env, fairChoices_fair.cas, fairChoices_fair.clock, w_frames, w_args, w_heap, w_applies, trivial, trivial, w_case⟩
end start1
theorem witness_1 : WitnessClaimed_1 := ⟨start1.p0, start1.e0, start1.about1, start1.theMethod, start1.args0, start1.below0, start1.atStart⟩
end Jvm.Pilot.@@N@@
