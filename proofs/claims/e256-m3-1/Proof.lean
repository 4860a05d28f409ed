import JvmDerived
import JvmDerived.Pilot.@@N@@Statement
import JvmDerived.Pilot.@@N@@Code
set_option linter.unusedVariables false
set_option linter.unusedSimpArgs false
@@BLOCK:NumsL.lean.txt@@
namespace Jvm.Pilot.@@N@@
open Jvm Jvm.ClassFile Sem Op Lib Jvm.Free Jvm.Stand Jvm.LawKit Jvm.RoadKit Bundle Jvm.Pilot.@@N@@.Jvm.D
section OwnFP
open Jvm.FP.Core
/-- the datum is i * 2^k -/
def OwnSc (k i : Int) : Datum → Prop
  | .fin s c q => Whole i (.fin s c (q - k))
  | _ => False
/-- the double is i * 2^k -/
def OwnDS (k i : Int) (a : UInt64) : Prop := OwnSc k i (val64 a)

theorem own_sc_fin {k i : Int} {d : Datum} (h : OwnSc k i d) : ∃ s c q, d = .fin s c q ∧ Whole i (.fin s c (q - k)) := by
  cases d with
  | nan => exact h.elim
  | inf => exact h.elim
  | fin s c q => exact ⟨s, c, q, rfl, h⟩

theorem own_ds_int {i : Int} {a : UInt64} (h : DInt i a) : OwnDS 0 i a := by
  have h' : Whole i (val64 a) := h
  show OwnSc 0 i (val64 a)
  cases hv : val64 a with
  | nan => rw [hv] at h'; exact h'.elim
  | inf => rw [hv] at h'; exact h'.elim
  | fin s c q => rw [hv] at h'; show Whole i (.fin s c (q - 0)); rw [Int.sub_zero]; exact h'

theorem own_int_ds {i : Int} {a : UInt64} (h : OwnDS 0 i a) : DInt i a := by
  obtain ⟨s, c, q, hv, h'⟩ := own_sc_fin h
  show Whole i (val64 a)
  rw [hv]; rw [Int.sub_zero] at h'; exact h'

theorem own_ds_ne_nan {k i : Int} {a : UInt64} (h : OwnDS k i a) : val64 a ≠ .nan := by
  obtain ⟨s, c, q, hv, -⟩ := own_sc_fin h
  rw [hv]; exact Datum.noConfusion

/-- the numbers i * 2^k with |i| < 2^n are doubles where n ≤ 53, n + k ≤ 1024, -1022 ≤ k -/
theorem own_fitAt (s : Bool) {n m : Nat} {k : Int} (hm : m < 2 ^ n) (hn : n ≤ 53) (h1 : (n : Int) + k ≤ 1024) (h2 : -1022 ≤ k) :
    ∃ c q, Jvm.FP.Core.fits b64 (.fin s c q) ∧ m * 2 ^ (k - q).toNat = c * 1 * 2 ^ (q - k).toNat := by
  have hq1 : b64.qmin = -1074 := by decide
  have hq2 : b64.qmax = 971 := by decide
  by_cases h0 : m = 0
  · subst h0
    exact ⟨0, b64.qmin, zero_fits good_b64 s, by simp⟩
  · have l1 : 2 ^ m.log2 ≤ m := Nat.log2_self_le h0
    have l2 : m < 2 ^ (m.log2 + 1) := Nat.lt_log2_self
    have l3 : m.log2 < n := (Nat.pow_lt_pow_iff_right (by decide : 1 < 2)).mp (Nat.lt_of_le_of_lt l1 hm)
    generalize m.log2 = L at l1 l2 l3
    refine ⟨m * 2 ^ (52 - L), (L : Int) - 52 + k, ⟨?_, by omega, by omega, .inr ?_⟩, ?_⟩
    · calc m * 2 ^ (52 - L) < 2 ^ (L + 1) * 2 ^ (52 - L) := Nat.mul_lt_mul_of_pos_right l2 (Nat.two_pow_pos _)
        _ = 2 ^ b64.p := by rw [← Nat.pow_add]; congr 1; show L + 1 + (52 - L) = 53; omega
    · calc b64.tails = 2 ^ L * 2 ^ (52 - L) := by rw [← Nat.pow_add]; show 2 ^ 52 = _; congr 1; omega
        _ ≤ m * 2 ^ (52 - L) := Nat.mul_le_mul_right _ l1
    · rw [show (k - ((L : Int) - 52 + k)).toNat = 52 - L by omega, show ((L : Int) - 52 + k - k).toNat = 0 by omega]
      simp

theorem own_signed_of {i : Int} {s : Bool} {c : Nat} {q : Int} (h : Whole i (.fin s c q)) : signed s i.natAbs = i := by
  by_cases hi : i = 0
  · rw [hi]; exact signed_zero s
  · rw [whole_sign h hi]
    by_cases h : i < 0
    · rw [decide_eq_true h]; show -(i.natAbs : Int) = i; omega
    · rw [decide_eq_false h]; show (i.natAbs : Int) = i; omega

/-- what roundRatio makes of a ratio that is m * 2^k, m < 2^n -/
theorem own_rr {s : Bool} {A B m n : Nat} {e k i : Int} (hB : 0 < B) (hv : A * 2 ^ (e - k).toNat = m * B * 2 ^ (k - e).toNat)
    (hm : m < 2 ^ n) (hn : n ≤ 53) (h1 : (n : Int) + k ≤ 1024) (h2 : -1022 ≤ k) (hi : signed s m = i) : OwnSc k i (roundRatio b64 s A B e) := by
  obtain ⟨c', q', hfit, hv'⟩ := own_fitAt s hm hn h1 h2
  rw [roundRatio_congr (A' := m) (B' := 1) (e' := k) hB (by decide) (by simpa using hv), roundRatio_exact good_b64 (by decide) hfit hv']
  show signed s (c' * 2 ^ (q' - k).toNat) = i * ((2 ^ (-(q' - k)).toNat : Nat) : Int)
  rw [show (-(q' - k)).toNat = (k - q').toNat by omega, ← hi, ← signed_mul, hv', Nat.mul_one]

theorem own_sc_round {n : Nat} {k i : Int} {d : Datum} (h : OwnSc k i d) (hi : i.natAbs < 2 ^ n) (hn : n ≤ 53) (h1 : (n : Int) + k ≤ 1024) (h2 : -1022 ≤ k) : OwnSc k i (round b64 d) := by
  obtain ⟨s, c, q, rfl, hw⟩ := own_sc_fin h
  refine own_rr (m := i.natAbs) (n := n) (by decide) ?_ hi hn h1 h2 (own_signed_of hw)
  have q1 := whole_natAbs hw
  rw [show (-(q - k)).toNat = (k - q).toNat by omega] at q1
  simpa using q1

theorem own_shift_sum (s : Bool) (c : Nat) (q : Int) (t : Bool) (d : Nat) (r k : Int) :
    ∃ u f w, exactSum (.fin s c q) (.fin t d r) = .fin u f w ∧ exactSum (.fin s c (q - k)) (.fin t d (r - k)) = .fin u f (w - k) := by
  refine ⟨_, _, _, rfl, ?_⟩
  have hmin : min (q - k) (r - k) = min q r - k := by omega
  have hu : sumUnits s c (q - k) t d (r - k) (min (q - k) (r - k)) = sumUnits s c q t d r (min q r) := by
    show signed s (c * 2 ^ (q - k - min (q - k) (r - k)).toNat) + signed t (d * 2 ^ (r - k - min (q - k) (r - k)).toNat) = signed s (c * 2 ^ (q - min q r).toNat) + signed t (d * 2 ^ (r - min q r).toNat)
    rw [hmin, show q - k - (min q r - k) = q - min q r by omega, show r - k - (min q r - k) = r - min q r by omega]
  show Datum.fin (sumSign s t (sumUnits s c (q - k) t d (r - k) (min (q - k) (r - k)))) (sumUnits s c (q - k) t d (r - k) (min (q - k) (r - k))).natAbs (min (q - k) (r - k)) = _
  rw [hu, hmin]

theorem own_sc_sum {k i j : Int} {x y : Datum} (hx : OwnSc k i x) (hy : OwnSc k j y) : OwnSc k (i + j) (exactSum x y) := by
  obtain ⟨s, c, q, rfl, h1⟩ := own_sc_fin hx
  obtain ⟨t, d, r, rfl, h2⟩ := own_sc_fin hy
  obtain ⟨u, f, w, e1, e2⟩ := own_shift_sum s c q t d r k
  have h3 := whole_sum h1 h2
  rw [e2] at h3
  rw [e1]; exact h3

theorem own_sc_neg {k i : Int} {x : Datum} (hx : OwnSc k i x) : OwnSc k (-i) (negate x) := by
  obtain ⟨s, c, q, rfl, h1⟩ := own_sc_fin hx
  exact whole_negate h1

theorem own_sc_mul {k l i j : Int} {x y : Datum} (hx : OwnSc k i x) (hy : OwnSc l j y) : OwnSc (k + l) (i * j) (exactProduct x y) := by
  obtain ⟨s, c, q, rfl, h1⟩ := own_sc_fin hx
  obtain ⟨t, d, r, rfl, h2⟩ := own_sc_fin hy
  have h3 : Whole (i * j) (.fin (s != t) (c * d) (q - k + (r - l))) := whole_product h1 h2
  show Whole (i * j) (.fin (s != t) (c * d) (q + r - (k + l)))
  rw [show q + r - (k + l) = q - k + (r - l) by omega]; exact h3

theorem own_ds_add {n : Nat} {k i j : Int} {a b : UInt64} (ha : OwnDS k i a) (hb : OwnDS k j b) (h : (i + j).natAbs < 2 ^ n) (hn : n ≤ 53 := by decide) (h1 : (n : Int) + k ≤ 1024 := by decide) (h2 : -1022 ≤ k := by decide) : OwnDS k (i + j) (dadd a b) := by
  show OwnSc _ _ _
  rw [val64_dadd]; exact own_sc_round (own_sc_sum ha hb) h hn h1 h2
theorem own_ds_sub {n : Nat} {k i j : Int} {a b : UInt64} (ha : OwnDS k i a) (hb : OwnDS k j b) (h : (i - j).natAbs < 2 ^ n) (hn : n ≤ 53 := by decide) (h1 : (n : Int) + k ≤ 1024 := by decide) (h2 : -1022 ≤ k := by decide) : OwnDS k (i - j) (dsub a b) := by
  show OwnSc _ _ _
  rw [val64_dsub]; exact own_sc_round (own_sc_sum ha (own_sc_neg hb)) h hn h1 h2
theorem own_ds_mul {n : Nat} {k l i j : Int} {a b : UInt64} (ha : OwnDS k i a) (hb : OwnDS l j b) (h : (i * j).natAbs < 2 ^ n) (hn : n ≤ 53 := by decide) (h1 : (n : Int) + (k + l) ≤ 1024 := by decide) (h2 : -1022 ≤ k + l := by decide) : OwnDS (k + l) (i * j) (dmul a b) := by
  show OwnSc _ _ _
  rw [val64_dmul]; exact own_sc_round (own_sc_mul ha hb) h hn h1 h2
theorem own_ds_negC {k i : Int} {a : UInt64} (ha : OwnDS k i a) : OwnDS k (-i) (dneg a) := by
  show OwnSc _ _ _
  rw [val64_dneg]; exact own_sc_neg ha

theorem own_order_shift (s : Bool) (c : Nat) (q : Int) (t : Bool) (d : Nat) (r k : Int) :
    order (.fin s c (q - k)) (.fin t d (r - k)) = order (.fin s c q) (.fin t d r) := by
  have hmin : min (q - k) (r - k) = min q r - k := by omega
  show some (compare (signed s (c * 2 ^ (q - k - min (q - k) (r - k)).toNat)) (signed t (d * 2 ^ (r - k - min (q - k) (r - k)).toNat))) = some (compare (signed s (c * 2 ^ (q - min q r).toNat)) (signed t (d * 2 ^ (r - min q r).toNat)))
  rw [hmin, show q - k - (min q r - k) = q - min q r by omega, show r - k - (min q r - k) = r - min q r by omega]

theorem own_ds_cmp {k i j : Int} {a b : UInt64} (ha : OwnDS k i a) (hb : OwnDS k j b) : dcmp a b = some (compare i j) := by
  obtain ⟨s, c, q, e1, h1⟩ := own_sc_fin ha
  obtain ⟨t, d, r, e2, h2⟩ := own_sc_fin hb
  show order (val64 a) (val64 b) = _
  rw [e1, e2, ← own_order_shift _ _ _ _ _ _ k]
  exact order_whole h1 h2

/-- the number kept, its scale moved down -/
theorem own_ds_down {k i : Int} {a : UInt64} (n : Nat) (h : OwnDS (k + n) i a) : OwnDS k (i * ((2 ^ n : Nat) : Int)) a := by
  obtain ⟨s, c, q, e1, h1⟩ := own_sc_fin h
  show OwnSc _ _ _
  rw [e1]
  have h2 : signed s (c * 2 ^ (q - (k + n)).toNat) = i * ((2 ^ (-(q - (k + n))).toNat : Nat) : Int) := h1
  show signed s (c * 2 ^ (q - k).toNat) = i * ((2 ^ n : Nat) : Int) * ((2 ^ (-(q - k)).toNat : Nat) : Int)
  have p2 : ((2 ^ (-(q - (k + n))).toNat : Nat) : Int) ≠ 0 := by
    have := Nat.two_pow_pos (-(q - (k + n))).toNat; omega
  refine Int.eq_of_mul_eq_mul_right p2 ?_
  have hx : (q - k).toNat + (-(q - (k + n))).toNat = (q - (k + n)).toNat + (n + (-(q - k)).toNat) := by omega
  rw [← signed_mul, Nat.mul_assoc, ← Nat.pow_add, hx, Nat.pow_add, ← Nat.mul_assoc, signed_mul, h2, Nat.pow_add]
  rw [Int.natCast_mul]; ac_rfl
theorem own_ds_up {k i : Int} {a : UInt64} (n : Nat) (h : OwnDS k (i * ((2 ^ n : Nat) : Int)) a) : OwnDS (k + n) i a := by
  obtain ⟨s, c, q, e1, h1⟩ := own_sc_fin h
  show OwnSc _ _ _
  rw [e1]
  have h2 : signed s (c * 2 ^ (q - k).toNat) = i * ((2 ^ n : Nat) : Int) * ((2 ^ (-(q - k)).toNat : Nat) : Int) := h1
  show signed s (c * 2 ^ (q - (k + n)).toNat) = i * ((2 ^ (-(q - (k + n))).toNat : Nat) : Int)
  have p2 : ((2 ^ (n + (-(q - k)).toNat) : Nat) : Int) ≠ 0 := by
    have := Nat.two_pow_pos (n + (-(q - k)).toNat); omega
  refine Int.eq_of_mul_eq_mul_right p2 ?_
  have hx : (q - (k + n)).toNat + (n + (-(q - k)).toNat) = (q - k).toNat + (-(q - (k + n))).toNat := by omega
  rw [← signed_mul, Nat.mul_assoc, ← Nat.pow_add, hx, Nat.pow_add, ← Nat.mul_assoc, signed_mul, h2, Nat.pow_add]
  rw [Int.natCast_mul]; ac_rfl

/-- a quotient that is whole (in its scale) is exact -/
theorem own_ds_div {n : Nat} {k l i j m : Int} {a b : UInt64} (ha : OwnDS k i a) (hb : OwnDS l j b) (hj : j ≠ 0) (hm : i = m * j) (h : m.natAbs < 2 ^ n) (hn : n ≤ 53 := by decide) (h1 : (n : Int) + (k - l) ≤ 1024 := by decide) (h2 : -1022 ≤ k - l := by decide) : OwnDS (k - l) m (ddiv a b) := by
  obtain ⟨s, c, q, e1, w1⟩ := own_sc_fin ha
  obtain ⟨t, d, r, e2, w2⟩ := own_sc_fin hb
  show OwnSc _ _ _
  rw [val64_ddiv, e1, e2]
  have hd : d ≠ 0 := fun h0 => hj ((whole_zero w2).mp h0)
  have hq : quotient b64 (.fin s c q) (.fin t d r) = roundRatio b64 (s != t) c d (q - r) := by
    show (if d = 0 then (if c = 0 then Datum.nan else .inf (s != t)) else roundRatio b64 (s != t) c d (q - r)) = _
    rw [if_neg hd]
  rw [hq]
  have q1 := whole_natAbs w1
  have q2 := whole_natAbs w2
  have hmn : i.natAbs = m.natAbs * j.natAbs := by rw [hm, Int.natAbs_mul]
  refine own_rr (m := m.natAbs) (n := n) (Nat.pos_of_ne_zero hd) ?_ h hn h1 h2 ?_
  · -- c 2^(q-k) = |m| |j| 2^(k-q), d 2^(r-l) = |j| 2^(l-r)
    have hjp : 0 < j.natAbs := Int.natAbs_pos.mpr hj
    rw [hmn] at q1
    generalize j.natAbs = J at q1 q2 hjp
    generalize m.natAbs = M at q1
    have hE : 0 < 2 ^ (-(r - l)).toNat * J * 2 ^ (-(q - k)).toNat * 2 ^ (r - l).toNat := by
      exact Nat.mul_pos (Nat.mul_pos (Nat.mul_pos (Nat.two_pow_pos _) hjp) (Nat.two_pow_pos _)) (Nat.two_pow_pos _)
    refine Nat.eq_of_mul_eq_mul_right hE ?_
    have x1 : (q - r - (k - l)).toNat + (-(q - k)).toNat + (r - l).toNat = (q - k).toNat + (-(r - l)).toNat + (k - l - (q - r)).toNat := by omega
    calc c * 2 ^ (q - r - (k - l)).toNat * (2 ^ (-(r - l)).toNat * J * 2 ^ (-(q - k)).toNat * 2 ^ (r - l).toNat)
        = c * (J * 2 ^ (-(r - l)).toNat) * 2 ^ ((q - r - (k - l)).toNat + (-(q - k)).toNat + (r - l).toNat) := by
          simp only [Nat.pow_add]; ac_rfl
      _ = c * (d * 2 ^ (r - l).toNat) * 2 ^ ((q - k).toNat + (-(r - l)).toNat + (k - l - (q - r)).toNat) := by rw [x1, ← q2]
      _ = (c * 2 ^ (q - k).toNat) * (d * 2 ^ (r - l).toNat) * 2 ^ (-(r - l)).toNat * 2 ^ (k - l - (q - r)).toNat := by
          simp only [Nat.pow_add]; ac_rfl
      _ = (M * J * 2 ^ (-(q - k)).toNat) * (d * 2 ^ (r - l).toNat) * 2 ^ (-(r - l)).toNat * 2 ^ (k - l - (q - r)).toNat := by rw [q1]
      _ = M * d * 2 ^ (k - l - (q - r)).toNat * (2 ^ (-(r - l)).toNat * J * 2 ^ (-(q - k)).toNat * 2 ^ (r - l).toNat) := by ac_rfl
  · have s1 := own_signed_of w1
    have s2 := own_signed_of w2
    have h3 : signed (s != t) (i.natAbs * j.natAbs) = i * j := by rw [signed_xor, s1, s2]
    have h4 : i.natAbs * j.natAbs = m.natAbs * (j.natAbs * j.natAbs) := by rw [hmn, Nat.mul_assoc]
    rw [h4, signed_mul] at h3
    have hjj : ((j.natAbs * j.natAbs : Nat) : Int) = j * j := by rw [Int.natAbs_mul_self]
    rw [hjj, hm, Int.mul_assoc] at h3
    exact Int.eq_of_mul_eq_mul_right (Int.mul_ne_zero hj hj) h3
end OwnFP
/-! own tools: a walk in continuation style, named values, the ends -/
abbrev uU : Slot := .unset
abbrev uS : Slot := .second
abbrev sN : Slot := .val .null
abbrev sI (x : Int32) : Slot := .val (.int x)
abbrev sJ (x : Int64) : Slot := .val (.long x)
abbrev sD (x : UInt64) : Slot := .val (.double x)
abbrev sR (x : Addr) : Slot := .val (.ref x)
def OwnGo (tb : Tables) (e : Env) (below : List Frame) (Q : Outcome → State → Prop) (S : State) : Prop := ∃ s₂ o, Steps tb e below S s₂ ∧ s₂.status = .running ∧ Ended s₂ below o ∧ Q o s₂
theorem OwnGo.pre {tb : Tables} {e : Env} {below : List Frame} {Q : Outcome → State → Prop} {S S' : State} (h : ∀ t, Steps tb e below S' t → Steps tb e below S t) (k : OwnGo tb e below Q S') : OwnGo tb e below Q S := by
  obtain ⟨t, o, h1, h2⟩ := k
  exact ⟨t, o, h t h1, h2⟩
abbrev OwnEnd (s : State) (Q : Option Value → Heap → List Loc → Prop) (kc ks : Nat) : Outcome → State → Prop := fun o s₂ => ∃ v L, o = .returned v ∧ Q v s₂.heap L ∧ FrameEnd s o s₂ L kc ks
section OwnEnds
variable {p : Program} {l : Launch} {e : Env} {R : Room} {s : State} {m : MethodId} {args : Array Value} {below : List Frame} {meth : Method} {c : Code} {T : State} {locs : List Loc} {cells slots : Nat}
theorem own_retZ (X : Stand p l e R s m args below meth c T locs cells slots) (hx : p.tables.exec = Jvm.exec) (hk : meth.locks = false) {pc : Nat} {Ls : Array Slot} {z : Int32} {rest : List Value} (hret : meth.sig.returnType = some .boolean) (hd : decode c.code pc = .ok (.ireturn, 1))
    {Q : Option Value → Heap → List Loc → Prop} {kc ks : Nat} (hq : Q (some (.int (nar .boolean z))) T.heap locs) (hc : cells ≤ kc) (hs : slots ≤ ks) : OwnGo p.tables e below (OwnEnd s Q kc ks) (T.setTop (mkF m pc Ls (.int z :: rest))) := by
  obtain ⟨fs, hr, hrun, hended, hW, hsame⟩ := X.leave (v := some (.int (nar .boolean z))) (fun h => by rw [hret] at h; cases h) hk
  exact ⟨_, _, retN X hx (t := .boolean) hret (by simp) hd hr, hrun, hended, _, _, rfl, hq, ⟨_, rfl⟩, hW, hsame.mono hc hs⟩
theorem own_retI (X : Stand p l e R s m args below meth c T locs cells slots) (hx : p.tables.exec = Jvm.exec) (hk : meth.locks = false) {pc : Nat} {Ls : Array Slot} {z : Int32} {rest : List Value} (hret : meth.sig.returnType = some .int) (hd : decode c.code pc = .ok (.ireturn, 1))
    {Q : Option Value → Heap → List Loc → Prop} {kc ks : Nat} (hq : Q (some (.int z)) T.heap locs) (hc : cells ≤ kc) (hs : slots ≤ ks) : OwnGo p.tables e below (OwnEnd s Q kc ks) (T.setTop (mkF m pc Ls (.int z :: rest))) := by
  obtain ⟨fs, hr, hrun, hended, hW, hsame⟩ := X.leave (v := some (.int z)) (fun h => by rw [hret] at h; cases h) hk
  exact ⟨_, _, retOut X hx hret rfl (Or.inl ⟨rfl, Or.inl rfl, _, rfl⟩) hd hr, hrun, hended, _, _, rfl, hq, ⟨_, rfl⟩, hW, hsame.mono hc hs⟩
theorem own_retJ (X : Stand p l e R s m args below meth c T locs cells slots) (hx : p.tables.exec = Jvm.exec) (hk : meth.locks = false) {pc : Nat} {Ls : Array Slot} {z : Int64} {rest : List Value} (hret : meth.sig.returnType = some .long) (hd : decode c.code pc = .ok (.lreturn, 1))
    {Q : Option Value → Heap → List Loc → Prop} {kc ks : Nat} (hq : Q (some (.long z)) T.heap locs) (hc : cells ≤ kc) (hs : slots ≤ ks) : OwnGo p.tables e below (OwnEnd s Q kc ks) (T.setTop (mkF m pc Ls (.long z :: rest))) := by
  obtain ⟨fs, hr, hrun, hended, hW, hsame⟩ := X.leave (v := some (.long z)) (fun h => by rw [hret] at h; cases h) hk
  exact ⟨_, _, retOut X hx hret rfl (Or.inr (Or.inl ⟨rfl, rfl, _, rfl⟩)) hd hr, hrun, hended, _, _, rfl, hq, ⟨_, rfl⟩, hW, hsame.mono hc hs⟩
theorem own_retD (X : Stand p l e R s m args below meth c T locs cells slots) (hx : p.tables.exec = Jvm.exec) (hk : meth.locks = false) {pc : Nat} {Ls : Array Slot} {z : UInt64} {rest : List Value} (hret : meth.sig.returnType = some .double) (hd : decode c.code pc = .ok (.dreturn, 1))
    {Q : Option Value → Heap → List Loc → Prop} {kc ks : Nat} (hq : Q (some (.double z)) T.heap locs) (hc : cells ≤ kc) (hs : slots ≤ ks) : OwnGo p.tables e below (OwnEnd s Q kc ks) (T.setTop (mkF m pc Ls (.double z :: rest))) := by
  obtain ⟨fs, hr, hrun, hended, hW, hsame⟩ := X.leave (v := some (.double z)) (fun h => by rw [hret] at h; cases h) hk
  exact ⟨_, _, retOut X hx hret rfl (Or.inr (Or.inr (Or.inl ⟨rfl, rfl, _, rfl⟩))) hd hr, hrun, hended, _, _, rfl, hq, ⟨_, rfl⟩, hW, hsame.mono hc hs⟩
theorem own_retA (X : Stand p l e R s m args below meth c T locs cells slots) (hx : p.tables.exec = Jvm.exec) (hk : meth.locks = false) {pc : Nat} {Ls : Array Slot} {C : String} {w : Value} {rest : List Value} (hret : meth.sig.returnType = some (.object C)) (hd : decode c.code pc = .ok (.areturn, 1)) (hw : w.isRef = true)
    {Q : Option Value → Heap → List Loc → Prop} {kc ks : Nat} (hq : Q (some w) T.heap locs) (hc : cells ≤ kc) (hs : slots ≤ ks) : OwnGo p.tables e below (OwnEnd s Q kc ks) (T.setTop (mkF m pc Ls (w :: rest))) := by
  obtain ⟨fs, hr, hrun, hended, hW, hsame⟩ := X.leave (v := some w) (fun h => by rw [hret] at h; cases h) hk
  exact ⟨_, _, retOut X hx hret (by cases w <;> first | rfl | cases hw) (Or.inr (Or.inr (Or.inr (Or.inr ⟨rfl, rfl, hw⟩)))) hd hr, hrun, hended, _, _, rfl, hq, ⟨_, rfl⟩, hW, hsame.mono hc hs⟩
theorem own_ret0 (X : Stand p l e R s m args below meth c T locs cells slots) (hx : p.tables.exec = Jvm.exec) (hk : meth.locks = false) {pc : Nat} {Ls : Array Slot} (hret : meth.sig.returnType = none) (hd : decode c.code pc = .ok (.return_, 1))
    {Q : Option Value → Heap → List Loc → Prop} {kc ks : Nat} (hq : Q none T.heap locs) (hc : cells ≤ kc) (hs : slots ≤ ks) : OwnGo p.tables e below (OwnEnd s Q kc ks) (T.setTop (mkF m pc Ls [])) := by
  obtain ⟨fs, hr, hrun, hended, hW, hsame⟩ := X.leave (v := none) (fun _ => rfl) hk
  exact ⟨_, _, X.returnOut hx hret hd hr, hrun, hended, _, _, rfl, hq, ⟨_, rfl⟩, hW, hsame.mono hc hs⟩
theorem own_ldcD (X : Stand p l e R s m args below meth c T locs cells slots) (hx : p.tables.exec = Jvm.exec) {own : String} {index : Nat} {b : UInt64} (hown : s.vm.findClass own = some m.cls) (hconst : (Cond.constantDouble own index b).before args s = true) {g : JFrame} {target : State} (hg : g.method = m) (hd : decode c.code g.pc = .ok (.ldc2_w index, 3))
    (hr : Steps p.tables e below (T.setTop { g with pc := g.pc + 3, stack := .double b :: g.stack }) target) : Steps p.tables e below (T.setTop g) target := X.ldc2DoubleC hx hown hconst hg hd target hr
theorem own_ldcJ (X : Stand p l e R s m args below meth c T locs cells slots) (hx : p.tables.exec = Jvm.exec) {own : String} {index : Nat} {b : Int64} (hown : s.vm.findClass own = some m.cls) (hconst : (Cond.constantLong own index b).before args s = true) {g : JFrame} {target : State} (hg : g.method = m) (hd : decode c.code g.pc = .ok (.ldc2_w index, 3))
    (hr : Steps p.tables e below (T.setTop { g with pc := g.pc + 3, stack := .long b :: g.stack }) target) : Steps p.tables e below (T.setTop g) target := X.ldc2Long hx hown hconst hg hd target hr
theorem own_ldcI (X : Stand p l e R s m args below meth c T locs cells slots) (hx : p.tables.exec = Jvm.exec) {own : String} {index : Nat} {b : Int32} (hown : s.vm.findClass own = some m.cls) (hconst : (Cond.constant own index b).before args s = true) {g : JFrame} {target : State} (hg : g.method = m) (hd : decode c.code g.pc = .ok (.ldc index, 2))
    (hr : Steps p.tables e below (T.setTop { g with pc := g.pc + 2, stack := .int b :: g.stack }) target) : Steps p.tables e below (T.setTop g) target := X.ldcInt hx hown hconst hg hd target hr
end OwnEnds
theorem own_iadd {tb : Tables} [Ours tb] {e : Env} {below : List Frame} {T target : State} {m : MethodId} {c : Code} {g : JFrame} (h : At T m c below) (hx : tb.exec = Jvm.exec) (hg : g.method = m) {x : Int32} {y : Int32} {v : Int32} {rest : List Value} (hd : decode c.code g.pc = .ok (.iadd, 1)) (hs : g.stack = .int y :: .int x :: rest) (hv : x + y = v)
    (hr : Steps tb e below (T.setTop { g with pc := g.pc + 1, stack := .int v :: rest }) target) : Steps tb e below (T.setTop g) target := by subst hv; exact XS.iadd h hx hg hd hs hr
theorem own_isub {tb : Tables} [Ours tb] {e : Env} {below : List Frame} {T target : State} {m : MethodId} {c : Code} {g : JFrame} (h : At T m c below) (hx : tb.exec = Jvm.exec) (hg : g.method = m) {x : Int32} {y : Int32} {v : Int32} {rest : List Value} (hd : decode c.code g.pc = .ok (.isub, 1)) (hs : g.stack = .int y :: .int x :: rest) (hv : x - y = v)
    (hr : Steps tb e below (T.setTop { g with pc := g.pc + 1, stack := .int v :: rest }) target) : Steps tb e below (T.setTop g) target := by subst hv; exact XS.isub h hx hg hd hs hr
theorem own_iand {tb : Tables} [Ours tb] {e : Env} {below : List Frame} {T target : State} {m : MethodId} {c : Code} {g : JFrame} (h : At T m c below) (hx : tb.exec = Jvm.exec) (hg : g.method = m) {x : Int32} {y : Int32} {v : Int32} {rest : List Value} (hd : decode c.code g.pc = .ok (.iand, 1)) (hs : g.stack = .int y :: .int x :: rest) (hv : x &&& y = v)
    (hr : Steps tb e below (T.setTop { g with pc := g.pc + 1, stack := .int v :: rest }) target) : Steps tb e below (T.setTop g) target := by subst hv; exact XS.iand h hx hg hd hs hr
theorem own_ishl {tb : Tables} [Ours tb] {e : Env} {below : List Frame} {T target : State} {m : MethodId} {c : Code} {g : JFrame} (h : At T m c below) (hx : tb.exec = Jvm.exec) (hg : g.method = m) {x : Int32} {y : Int32} {v : Int32} {rest : List Value} (hd : decode c.code g.pc = .ok (.ishl, 1)) (hs : g.stack = .int y :: .int x :: rest) (hv : x <<< (y &&& 31) = v)
    (hr : Steps tb e below (T.setTop { g with pc := g.pc + 1, stack := .int v :: rest }) target) : Steps tb e below (T.setTop g) target := by subst hv; exact XT.ishl h hx hg hd hs hr
theorem own_ishr {tb : Tables} [Ours tb] {e : Env} {below : List Frame} {T target : State} {m : MethodId} {c : Code} {g : JFrame} (h : At T m c below) (hx : tb.exec = Jvm.exec) (hg : g.method = m) {x : Int32} {y : Int32} {v : Int32} {rest : List Value} (hd : decode c.code g.pc = .ok (.ishr, 1)) (hs : g.stack = .int y :: .int x :: rest) (hv : x >>> (y &&& 31) = v)
    (hr : Steps tb e below (T.setTop { g with pc := g.pc + 1, stack := .int v :: rest }) target) : Steps tb e below (T.setTop g) target := by subst hv; exact XT.ishr h hx hg hd hs hr
theorem own_iushr {tb : Tables} [Ours tb] {e : Env} {below : List Frame} {T target : State} {m : MethodId} {c : Code} {g : JFrame} (h : At T m c below) (hx : tb.exec = Jvm.exec) (hg : g.method = m) {x : Int32} {y : Int32} {v : Int32} {rest : List Value} (hd : decode c.code g.pc = .ok (.iushr, 1)) (hs : g.stack = .int y :: .int x :: rest) (hv : XT.ushr x y = v)
    (hr : Steps tb e below (T.setTop { g with pc := g.pc + 1, stack := .int v :: rest }) target) : Steps tb e below (T.setTop g) target := by subst hv; exact XT.iushr h hx hg hd hs hr
theorem own_irem {tb : Tables} [Ours tb] {e : Env} {below : List Frame} {T target : State} {m : MethodId} {c : Code} {g : JFrame} (h : At T m c below) (hx : tb.exec = Jvm.exec) (hg : g.method = m) {x : Int32} {y : Int32} {v : Int32} {rest : List Value} (hd : decode c.code g.pc = .ok (.irem, 1)) (hs : g.stack = .int y :: .int x :: rest) (hy : y ≠ 0) (hv : x - x / y * y = v)
    (hr : Steps tb e below (T.setTop { g with pc := g.pc + 1, stack := .int v :: rest }) target) : Steps tb e below (T.setTop g) target := by subst hv; exact XS.irem h hx hg hd hs hy hr
theorem own_ladd {tb : Tables} [Ours tb] {e : Env} {below : List Frame} {T target : State} {m : MethodId} {c : Code} {g : JFrame} (h : At T m c below) (hx : tb.exec = Jvm.exec) (hg : g.method = m) {x : Int64} {y : Int64} {v : Int64} {rest : List Value} (hd : decode c.code g.pc = .ok (.ladd, 1)) (hs : g.stack = .long y :: .long x :: rest) (hv : x + y = v)
    (hr : Steps tb e below (T.setTop { g with pc := g.pc + 1, stack := .long v :: rest }) target) : Steps tb e below (T.setTop g) target := by subst hv; exact XT.ladd h hx hg hd hs hr
theorem own_lsub {tb : Tables} [Ours tb] {e : Env} {below : List Frame} {T target : State} {m : MethodId} {c : Code} {g : JFrame} (h : At T m c below) (hx : tb.exec = Jvm.exec) (hg : g.method = m) {x : Int64} {y : Int64} {v : Int64} {rest : List Value} (hd : decode c.code g.pc = .ok (.lsub, 1)) (hs : g.stack = .long y :: .long x :: rest) (hv : x - y = v)
    (hr : Steps tb e below (T.setTop { g with pc := g.pc + 1, stack := .long v :: rest }) target) : Steps tb e below (T.setTop g) target := by subst hv; exact XT.lsub h hx hg hd hs hr
theorem own_lmul {tb : Tables} [Ours tb] {e : Env} {below : List Frame} {T target : State} {m : MethodId} {c : Code} {g : JFrame} (h : At T m c below) (hx : tb.exec = Jvm.exec) (hg : g.method = m) {x : Int64} {y : Int64} {v : Int64} {rest : List Value} (hd : decode c.code g.pc = .ok (.lmul, 1)) (hs : g.stack = .long y :: .long x :: rest) (hv : x * y = v)
    (hr : Steps tb e below (T.setTop { g with pc := g.pc + 1, stack := .long v :: rest }) target) : Steps tb e below (T.setTop g) target := by subst hv; exact XT.lmul h hx hg hd hs hr
theorem own_land {tb : Tables} [Ours tb] {e : Env} {below : List Frame} {T target : State} {m : MethodId} {c : Code} {g : JFrame} (h : At T m c below) (hx : tb.exec = Jvm.exec) (hg : g.method = m) {x : Int64} {y : Int64} {v : Int64} {rest : List Value} (hd : decode c.code g.pc = .ok (.land, 1)) (hs : g.stack = .long y :: .long x :: rest) (hv : x &&& y = v)
    (hr : Steps tb e below (T.setTop { g with pc := g.pc + 1, stack := .long v :: rest }) target) : Steps tb e below (T.setTop g) target := by subst hv; exact XT.land h hx hg hd hs hr
theorem own_lshl {tb : Tables} [Ours tb] {e : Env} {below : List Frame} {T target : State} {m : MethodId} {c : Code} {g : JFrame} (h : At T m c below) (hx : tb.exec = Jvm.exec) (hg : g.method = m) {x : Int64} {y : Int32} {v : Int64} {rest : List Value} (hd : decode c.code g.pc = .ok (.lshl, 1)) (hs : g.stack = .int y :: .long x :: rest) (hv : x <<< (y.toInt64 &&& 63) = v)
    (hr : Steps tb e below (T.setTop { g with pc := g.pc + 1, stack := .long v :: rest }) target) : Steps tb e below (T.setTop g) target := by subst hv; exact XT.lshl h hx hg hd hs hr
theorem own_lshr {tb : Tables} [Ours tb] {e : Env} {below : List Frame} {T target : State} {m : MethodId} {c : Code} {g : JFrame} (h : At T m c below) (hx : tb.exec = Jvm.exec) (hg : g.method = m) {x : Int64} {y : Int32} {v : Int64} {rest : List Value} (hd : decode c.code g.pc = .ok (.lshr, 1)) (hs : g.stack = .int y :: .long x :: rest) (hv : x >>> (y.toInt64 &&& 63) = v)
    (hr : Steps tb e below (T.setTop { g with pc := g.pc + 1, stack := .long v :: rest }) target) : Steps tb e below (T.setTop g) target := by subst hv; exact XT.lshr h hx hg hd hs hr
theorem own_lushr {tb : Tables} [Ours tb] {e : Env} {below : List Frame} {T target : State} {m : MethodId} {c : Code} {g : JFrame} (h : At T m c below) (hx : tb.exec = Jvm.exec) (hg : g.method = m) {x : Int64} {y : Int32} {v : Int64} {rest : List Value} (hd : decode c.code g.pc = .ok (.lushr, 1)) (hs : g.stack = .int y :: .long x :: rest) (hv : XT.ushrL x y = v)
    (hr : Steps tb e below (T.setTop { g with pc := g.pc + 1, stack := .long v :: rest }) target) : Steps tb e below (T.setTop g) target := by subst hv; exact XT.lushr h hx hg hd hs hr
theorem own_lrem {tb : Tables} [Ours tb] {e : Env} {below : List Frame} {T target : State} {m : MethodId} {c : Code} {g : JFrame} (h : At T m c below) (hx : tb.exec = Jvm.exec) (hg : g.method = m) {x : Int64} {y : Int64} {v : Int64} {rest : List Value} (hd : decode c.code g.pc = .ok (.lrem, 1)) (hs : g.stack = .long y :: .long x :: rest) (hy : y ≠ 0) (hv : x - (x / y) * y = v)
    (hr : Steps tb e below (T.setTop { g with pc := g.pc + 1, stack := .long v :: rest }) target) : Steps tb e below (T.setTop g) target := by subst hv; exact XT.lrem h hx hg hd hs hy hr
theorem own_lcmp {tb : Tables} [Ours tb] {e : Env} {below : List Frame} {T target : State} {m : MethodId} {c : Code} {g : JFrame} (h : At T m c below) (hx : tb.exec = Jvm.exec) (hg : g.method = m) {x : Int64} {y : Int64} {v : Int32} {rest : List Value} (hd : decode c.code g.pc = .ok (.lcmp, 1)) (hs : g.stack = .long y :: .long x :: rest) (hv : XT.cmpL x y = v)
    (hr : Steps tb e below (T.setTop { g with pc := g.pc + 1, stack := .int v :: rest }) target) : Steps tb e below (T.setTop g) target := by subst hv; exact XT.lcmp h hx hg hd hs hr
theorem own_lneg {tb : Tables} [Ours tb] {e : Env} {below : List Frame} {T target : State} {m : MethodId} {c : Code} {g : JFrame} (h : At T m c below) (hx : tb.exec = Jvm.exec) (hg : g.method = m) {x : Int64} {v : Int64} {rest : List Value} (hd : decode c.code g.pc = .ok (.lneg, 1)) (hs : g.stack = .long x :: rest) (hv : -x = v)
    (hr : Steps tb e below (T.setTop { g with pc := g.pc + 1, stack := .long v :: rest }) target) : Steps tb e below (T.setTop g) target := by subst hv; exact XT.lneg h hx hg hd hs hr
theorem own_i2l {tb : Tables} [Ours tb] {e : Env} {below : List Frame} {T target : State} {m : MethodId} {c : Code} {g : JFrame} (h : At T m c below) (hx : tb.exec = Jvm.exec) (hg : g.method = m) {x : Int32} {v : Int64} {rest : List Value} (hd : decode c.code g.pc = .ok (.i2l, 1)) (hs : g.stack = .int x :: rest) (hv : x.toInt64 = v)
    (hr : Steps tb e below (T.setTop { g with pc := g.pc + 1, stack := .long v :: rest }) target) : Steps tb e below (T.setTop g) target := by subst hv; exact XT.i2l h hx hg hd hs hr
theorem own_l2i {tb : Tables} [Ours tb] {e : Env} {below : List Frame} {T target : State} {m : MethodId} {c : Code} {g : JFrame} (h : At T m c below) (hx : tb.exec = Jvm.exec) (hg : g.method = m) {x : Int64} {v : Int32} {rest : List Value} (hd : decode c.code g.pc = .ok (.l2i, 1)) (hs : g.stack = .long x :: rest) (hv : x.toInt32 = v)
    (hr : Steps tb e below (T.setTop { g with pc := g.pc + 1, stack := .int v :: rest }) target) : Steps tb e below (T.setTop g) target := by subst hv; exact XT.l2i h hx hg hd hs hr
theorem own_ineg {tb : Tables} [Ours tb] {e : Env} {below : List Frame} {T target : State} {m : MethodId} {c : Code} {g : JFrame} (h : At T m c below) (hx : tb.exec = Jvm.exec) (hg : g.method = m) {x : Int32} {v : Int32} {rest : List Value} (hd : decode c.code g.pc = .ok (.ineg, 1)) (hs : g.stack = .int x :: rest) (hv : -x = v)
    (hr : Steps tb e below (T.setTop { g with pc := g.pc + 1, stack := .int v :: rest }) target) : Steps tb e below (T.setTop g) target := by subst hv; exact XS.ineg h hx hg hd hs hr
section OwnFP2
open Jvm.FP.Core
/-- what a condition asks of two whole numbers -/
def own_rel : ClassFile.Cond → Int → Int → Bool
  | .eq, i, j => decide (i = j)
  | .ne, i, j => decide (i ≠ j)
  | .lt, i, j => decide (i < j)
  | .ge, i, j => decide (j ≤ i)
  | .gt, i, j => decide (j < i)
  | .le, i, j => decide (i ≤ j)
theorem own_br2 (cd : ClassFile.Cond) (x y : Int32) : if_icmp.holds cd x y = own_rel cd x.toInt y.toInt := by
  cases cd
  · show (x == y) = decide (x.toInt = y.toInt)
    by_cases h : x = y
    · subst h; simp
    · rw [beq_eq_false_iff_ne.mpr h, decide_eq_false (fun q => h (Int32.toInt_inj.mp q))]
  · show (x != y) = decide (x.toInt ≠ y.toInt)
    by_cases h : x = y
    · subst h; simp
    · rw [bne_iff_ne.mpr h]; exact (decide_eq_true (p := x.toInt ≠ y.toInt) (fun q => h (Int32.toInt_inj.mp q))).symm
  · exact decide_eq_decide.mpr Int32.lt_iff_toInt_lt
  · exact decide_eq_decide.mpr Int32.le_iff_toInt_le
  · exact decide_eq_decide.mpr Int32.lt_iff_toInt_lt
  · exact decide_eq_decide.mpr Int32.le_iff_toInt_le
theorem own_br0 (cd : ClassFile.Cond) (x : Int32) : ifCond.holds cd x = own_rel cd x.toInt 0 := by
  have h : ifCond.holds cd x = if_icmp.holds cd x 0 := by cases cd <;> rfl
  rw [h, own_br2]; rfl
theorem own_rel_iff (cd : ClassFile.Cond) {i j i' j' : Int} (h1 : i < j ↔ i' < j') (h2 : i = j ↔ i' = j') : own_rel cd i j = own_rel cd i' j' := by
  cases cd
  · exact decide_eq_decide.mpr h2
  · exact decide_eq_decide.mpr (not_congr h2)
  · exact decide_eq_decide.mpr h1
  · exact decide_eq_decide.mpr (by omega)
  · exact decide_eq_decide.mpr (by omega)
  · exact decide_eq_decide.mpr (by omega)
theorem own_sgn3 (cd : ClassFile.Cond) {z : Int32} {i j : Int} (h : (i < j ∧ z = -1) ∨ (i = j ∧ z = 0) ∨ (j < i ∧ z = 1)) : ifCond.holds cd z = own_rel cd i j := by
  rw [own_br0]
  refine own_rel_iff cd ?_ ?_ <;> rcases h with ⟨h1, rfl⟩ | ⟨h1, rfl⟩ | ⟨h1, rfl⟩
  · have e1 : (-1 : Int32).toInt = -1 := rfl
    omega
  · have e1 : (0 : Int32).toInt = 0 := rfl
    omega
  · have e1 : (1 : Int32).toInt = 1 := rfl
    omega
  · have e1 : (-1 : Int32).toInt = -1 := rfl
    omega
  · have e1 : (0 : Int32).toInt = 0 := rfl
    omega
  · have e1 : (1 : Int32).toInt = 1 := rfl
    omega
theorem own_brL (cd : ClassFile.Cond) (x y : Int64) : ifCond.holds cd (XT.cmpL x y) = own_rel cd x.toInt y.toInt := by
  refine own_sgn3 cd ?_
  have h := @Int64.toInt_inj x y
  by_cases h1 : y < x
  · refine Or.inr (Or.inr ⟨Int64.lt_iff_toInt_lt.mp h1, ?_⟩)
    show (if y < x then (1 : Int32) else if x = y then 0 else -1) = 1
    rw [if_pos h1]
  · by_cases h2 : x = y
    · refine Or.inr (Or.inl ⟨h.mpr h2, ?_⟩)
      show (if y < x then (1 : Int32) else if x = y then 0 else -1) = 0
      rw [if_neg h1, if_pos h2]
    · refine Or.inl ⟨?_, ?_⟩
      · rw [Int64.lt_iff_toInt_lt] at h1
        have : x.toInt ≠ y.toInt := fun q => h2 (h.mp q)
        omega
      · show (if y < x then (1 : Int32) else if x = y then 0 else -1) = -1
        rw [if_neg h1, if_neg h2]
theorem own_brD (cd : ClassFile.Cond) {k i j : Int} {a b : UInt64} (ha : OwnDS k i a) (hb : OwnDS k j b) (o : CmpOp) : ifCond.holds cd (cmpValue (FP.dcmp a b) o) = own_rel cd i j := by
  have hc : FP.dcmp a b = some (compare i j) := own_ds_cmp ha hb
  rw [hc]
  refine own_sgn3 cd ?_
  rcases Int.lt_trichotomy i j with q | q | q
  · refine Or.inl ⟨q, ?_⟩
    rw [show compare i j = .lt from Int.compare_eq_lt.mpr q]; rfl
  · refine Or.inr (Or.inl ⟨q, ?_⟩)
    rw [show compare i j = .eq from Int.compare_eq_eq.mpr q]; rfl
  · refine Or.inr (Or.inr ⟨q, ?_⟩)
    rw [show compare i j = .gt from Int.compare_eq_gt.mpr q]; rfl
theorem own_nn {k i : Int} {a : UInt64} (h : OwnDS k i a) : Jvm.Free.Fl.NoNaN64 a := Jvm.Free.Fl.val64_no.mpr (own_ds_ne_nan h)
theorem own_i2d (x : Int32) : OwnDS 0 x.toInt (FP.i2d x) := own_ds_int (i2d_int x)
theorem own_l2d {x : Int64} {i : Int} (h : x.toInt = i) (hb : i.natAbs ≤ 9007199254740992) : OwnDS 0 i (FP.l2d x) := by
  subst h; exact own_ds_int (l2d_int (by omega))
theorem own_i32 (x : Int32) : -2147483648 ≤ x.toInt ∧ x.toInt ≤ 2147483648 := by
  have h1 := x.toInt_lt
  have h2 := x.le_toInt
  omega
theorem own_mul_bd {i j A B : Int} (h1 : -A ≤ i ∧ i ≤ A) (h2 : -B ≤ j ∧ j ≤ B) : -(A * B) ≤ i * j ∧ i * j ≤ A * B := by
  have ha : i.natAbs ≤ A.toNat := by omega
  have hb : j.natAbs ≤ B.toNat := by omega
  have h := Nat.mul_le_mul ha hb
  rw [← Int.natAbs_mul] at h
  have e : ((A.toNat * B.toNat : Nat) : Int) = A * B := by
    rw [Int.natCast_mul, Int.toNat_of_nonneg (by omega), Int.toNat_of_nonneg (by omega)]
  generalize A.toNat * B.toNat = n at h e
  omega
theorem own_d2l {i : Int} {a : UInt64} (h : OwnDS 0 i a) (hb : i.natAbs ≤ 9007199254740992) : (FP.d2l a).toInt = i := by
  have e : (Int64.ofInt i).toInt = i := by rw [Int64.toInt_ofInt]; exact Jvm.Kit.bmod64 (by omega) (by omega)
  have q : FP.d2l a = Int64.ofInt i := d2l_int (a := Int64.ofInt i) (b := a) (by rw [e]; exact own_int_ds h)
  rw [q, e]
theorem own_ds_neg {k i : Int} {a : UInt64} (h : OwnDS k i a) : OwnDS k (-i) (FP.dneg a) := by
  show OwnSc _ _ _
  rw [Jvm.FP.val64_dneg]; exact own_sc_neg h
theorem own_fin {k i : Int} {a : UInt64} (h : OwnDS k i a) : DFin a := by
  obtain ⟨s, c, q, hv, -⟩ := own_sc_fin h
  exact ⟨s, c, q, hv⟩
theorem own_isfin {a : UInt64} (h : DFin a) : ifCond.holds .gt (cmpValue (FP.dcmp (a &&& 0x7fffffffffffffff) 9218868437227405311) .g) = false := by
  have hn : dIsNaN a = false := (notNaN_iff a).mpr (by obtain ⟨s, c, q, hv⟩ := h; rw [hv]; exact Datum.noConfusion)
  have q : FP.dcmp (a &&& 0x7fffffffffffffff) 9218868437227405311 = some .lt ∨ FP.dcmp (a &&& 0x7fffffffffffffff) 9218868437227405311 = some .eq := (le_max hn).mpr h
  rcases q with q | q <;> rw [q] <;> rfl
end OwnFP2
def OwnTA (Z : State) (h : Heap) (o : Addr) (tp fp fn : Int32) : Prop := Exa Z h o "com/example/clausewright/clausewright/scoring/Tally" ∧ Fld Z h o "com/example/clausewright/clausewright/scoring/Tally" "truePositives" "I" (.int tp) ∧ Fld Z h o "com/example/clausewright/clausewright/scoring/Tally" "falsePositives" "I" (.int fp) ∧ Fld Z h o "com/example/clausewright/clausewright/scoring/Tally" "falseNegatives" "I" (.int fn)
theorem own_and3 (x : Int32) : x &&& 3 = 0 ∨ x &&& 3 = 1 ∨ x &&& 3 = 2 ∨ x &&& 3 = 3 := by
  have q := Jvm.Kit.i32_mask x 3 (k := 2) (by decide) (by decide)
  have h0 : (0 : Int32).toInt = 0 := rfl
  have h1 : (1 : Int32).toInt = 1 := rfl
  have h2 : (2 : Int32).toInt = 2 := rfl
  have h3 : (3 : Int32).toInt = 3 := rfl
  rw [← Int32.toInt_inj, ← Int32.toInt_inj, ← Int32.toInt_inj, ← Int32.toInt_inj, h0, h1, h2, h3]
  omega
theorem own_pr {tp fp : Int32} (h1 : tp = 0 ∨ tp = 1 ∨ tp = 2 ∨ tp = 3) (h2 : fp = 0 ∨ fp = 1 ∨ fp = 2 ∨ fp = 3) (hz : ¬ tp + fp = 0) : ifCond.holds .lt (cmpValue (FP.dcmp (FP.ddiv (FP.i2d tp) (FP.i2d (tp + fp))) (0 : UInt64)) .g) = false ∧ ifCond.holds .gt (cmpValue (FP.dcmp (FP.ddiv (FP.i2d tp) (FP.i2d (tp + fp))) (4607182418800017408 : UInt64)) .l) = false := by
  rcases h1 with rfl | rfl | rfl | rfl <;> rcases h2 with rfl | rfl | rfl | rfl <;> first | exact absurd (by decide) hz | (constructor <;> decide +kernel)
theorem d1_0 : decode prog_53_method_1_code 0 = .ok (.aload_n 0, 1) := by decide +kernel
theorem d1_1 : decode prog_53_method_1_code 1 = .ok (.invokespecial 1, 3) := by decide +kernel
theorem d1_4 : decode prog_53_method_1_code 4 = .ok (.return_, 1) := by decide +kernel
theorem pn_rmI : plainName "com/example/clausewright/clausewright/scoring/Tally" = true := by first | (simp [plainName, overriddenIn]; done) | decide +kernel
theorem pd_rmI : parseMethodDescriptor "()V" = some ⟨[], none⟩ := by decide +kernel
theorem ef_rmI (m : MethodId) (o : Addr) : entryFrame m #[(.ref o)] 1 = (mkF m 0 #[sR o] []) := by first | (simp [entryFrame, mkF, argsToLocals, Value.category, maxLocals]; done) | rfl
def Q_rmI (Z : State) (o : Addr) (h0 : Heap) (n0 : Nat) (v : Option Value) (h : Heap) (L : List Loc) : Prop := v = none ∧ Fr n0 L ∧ h = h0
set_option maxRecDepth 65536 in
set_option maxHeartbeats 40000000 in
theorem rmI (l : Launch) (Z : State) (a0 : Array Value) (hw : ∀ d ∈ tables_1, d.before a0 Z = true) (ws : List Jvm.Cond) (o : Addr) (h0 : Heap) (n0 : Nat) (Z0 : n0 ≤ h0.size)  :
    MetFree l (⟨"com/example/clausewright/clausewright/scoring/Tally", "<init>", "()V"⟩ : MethodName) (head1 (Jvm.Cond.code (⟨"com/example/clausewright/clausewright/scoring/Tally", "<init>", "()V"⟩ : MethodName) prog_53_method_1_code 1 none :: ws) ({ frames := 1, cells := 0, slots := 0, locals := 12 } : Room)) (fun a U => a = #[(.ref o)] ∧ Z.Warmed39 U.vm ∧ U.heap = h0) (fun _ _ _ _ _ => True) (fun _ U oO U' => ∃ v L, oO = .returned v ∧ Q_rmI Z o h0 n0 v U'.heap L ∧ FrameEnd U oO U' L ({ frames := 1, cells := 0, slots := 0, locals := 12 } : Room).cells ({ frames := 1, cells := 0, slots := 0, locals := 12 } : Room).slots) := by
  refine MetFree.of_bodySF (plainFor_of_name pn_rmI) hisR ?_
  intro p e s m args below meth c s₁ Bd hml0 hP hK
  obtain ⟨rfl, hZ, hh⟩ := hP
  have hx := Bd.exec
  have hby := Bd.bytes
  have hml : c.maxLocals = 1 := hml0
  have hown : s.vm.findClass "com/example/clausewright/clausewright/scoring/Tally" = some m.cls := findClass_of_methodNamed Bd.named
  have hnm := (name_of_methodNamed Bd.named Bd.method).1
  have hk := Bd.notSynchronized
  have hrt := Bd.returns
  have X0 : Stand p l e ({ frames := 1, cells := 0, slots := 0, locals := 12 } : Room) s m #[(.ref o)] below meth c s₁ [] 0 0 := Stand.of_body Bd
  have e0 : s₁.heap = h0 := by rw [← hh, Bd.state]; rfl
  have N0 := Fr.nil n0
  show OwnGo p.tables e below (OwnEnd s (Q_rmI Z o h0 n0) ({ frames := 1, cells := 0, slots := 0, locals := 12 } : Room).cells ({ frames := 1, cells := 0, slots := 0, locals := 12 } : Room).slots) _
  refine OwnGo.pre (fun t k => castTop (ef_rmI m o) k) ?_
  show OwnGo _ _ _ _ (s₁.setTop (mkF m 0 #[sR o] []))
  refine OwnGo.pre (fun t k => XS.aloadN X0.here hx rfl (hb hby d1_0) rfl rfl k) ?_
  show OwnGo _ _ _ _ (s₁.setTop (mkF m 1 #[sR o] [(.ref o)]))
  obtain ⟨T1, X1, e1, st1⟩ := initO X0 hx hZ hown (hw _ (List.mem_of_getElem? (i := 6) rfl)) (hw _ (List.mem_of_getElem? (i := 7) rfl)) (hw _ (List.mem_of_getElem? (i := 8) rfl)) e0 (g := (mkF m 1 #[sR o] [(.ref o)])) rfl (by rw [hml]; rfl) rfl (hb hby d1_1) (by decide) (W := 0) (by show 2 * 0 + _ ≤ _; exact Nat.le_of_eq rfl) (by decide)
  refine OwnGo.pre (fun t k => st1 t k) ?_
  show OwnGo _ _ _ _ (T1.setTop (mkF m 4 #[sR o] []))
  exact own_ret0 X1 hx hk hrt (hb hby d1_4) ⟨rfl, N0, e1⟩ (by decide) (by decide)
theorem d3_0 : decode prog_53_method_3_code 0 = .ok (.aload_n 0, 1) := by decide +kernel
theorem d3_1 : decode prog_53_method_3_code 1 = .ok (.dup, 1) := by decide +kernel
theorem d3_2 : decode prog_53_method_3_code 2 = .ok (.getfield 16, 3) := by decide +kernel
theorem d3_5 : decode prog_53_method_3_code 5 = .ok (.iconst 1, 1) := by decide +kernel
theorem d3_6 : decode prog_53_method_3_code 6 = .ok (.iadd, 1) := by decide +kernel
theorem d3_7 : decode prog_53_method_3_code 7 = .ok (.putfield 16, 3) := by decide +kernel
theorem d3_10 : decode prog_53_method_3_code 10 = .ok (.return_, 1) := by decide +kernel
theorem pn_rmFP : plainName "com/example/clausewright/clausewright/scoring/Tally" = true := by first | (simp [plainName, overriddenIn]; done) | decide +kernel
theorem pd_rmFP : parseMethodDescriptor "()V" = some ⟨[], none⟩ := by decide +kernel
theorem ef_rmFP (m : MethodId) (o : Addr) (tp fp fn : Int32) : entryFrame m #[(.ref o)] 1 = (mkF m 0 #[sR o] []) := by first | (simp [entryFrame, mkF, argsToLocals, Value.category, maxLocals]; done) | rfl
def Q_rmFP (Z : State) (o : Addr) (tp fp fn : Int32) (h0 : Heap) (n0 : Nat) (v : Option Value) (h : Heap) (L : List Loc) : Prop := v = none ∧ Fr n0 L ∧ Keep h0 h [o] ∧ OwnTA Z h o tp (fp + 1) fn
set_option maxRecDepth 65536 in
set_option maxHeartbeats 40000000 in
theorem rmFP (l : Launch) (Z : State) (a0 : Array Value) (hw : ∀ d ∈ tables_1, d.before a0 Z = true) (ws : List Jvm.Cond) (o : Addr) (tp fp fn : Int32) (h0 : Heap) (n0 : Nat) (Z0 : n0 ≤ h0.size) (O : OwnTA Z h0 o tp fp fn) (g : n0 ≤ o) :
    MetFree l (⟨"com/example/clausewright/clausewright/scoring/Tally", "addFalsePositive", "()V"⟩ : MethodName) (head1 (Jvm.Cond.code (⟨"com/example/clausewright/clausewright/scoring/Tally", "addFalsePositive", "()V"⟩ : MethodName) prog_53_method_3_code 1 none :: ws) ({ frames := 0, cells := 0, slots := 0, locals := 0 } : Room)) (fun a U => a = #[(.ref o)] ∧ Z.Warmed39 U.vm ∧ U.heap = h0) (fun _ _ _ _ _ => True) (fun _ U oO U' => ∃ v L, oO = .returned v ∧ Q_rmFP Z o tp fp fn h0 n0 v U'.heap L ∧ FrameEnd U oO U' L ({ frames := 0, cells := 0, slots := 0, locals := 0 } : Room).cells ({ frames := 0, cells := 0, slots := 0, locals := 0 } : Room).slots) := by
  refine MetFree.of_bodySF (plainFor_of_name pn_rmFP) hisR ?_
  intro p e s m args below meth c s₁ Bd hml0 hP hK
  obtain ⟨rfl, hZ, hh⟩ := hP
  have hx := Bd.exec
  have hby := Bd.bytes
  have hml : c.maxLocals = 1 := hml0
  have hown : s.vm.findClass "com/example/clausewright/clausewright/scoring/Tally" = some m.cls := findClass_of_methodNamed Bd.named
  have hnm := (name_of_methodNamed Bd.named Bd.method).1
  have hk := Bd.notSynchronized
  have hrt := Bd.returns
  have X0 : Stand p l e ({ frames := 0, cells := 0, slots := 0, locals := 0 } : Room) s m #[(.ref o)] below meth c s₁ [] 0 0 := Stand.of_body Bd
  have e0 : s₁.heap = h0 := by rw [← hh, Bd.state]; rfl
  have N0 := Fr.nil n0
  show OwnGo p.tables e below (OwnEnd s (Q_rmFP Z o tp fp fn h0 n0) ({ frames := 0, cells := 0, slots := 0, locals := 0 } : Room).cells ({ frames := 0, cells := 0, slots := 0, locals := 0 } : Room).slots) _
  refine OwnGo.pre (fun t k => castTop (ef_rmFP m o tp fp fn) k) ?_
  show OwnGo _ _ _ _ (s₁.setTop (mkF m 0 #[sR o] []))
  refine OwnGo.pre (fun t k => XS.aloadN X0.here hx rfl (hb hby d3_0) rfl rfl (XS.dup X0.here hx rfl (hb hby d3_1) rfl rfl k)) ?_
  show OwnGo _ _ _ _ (s₁.setTop (mkF m 2 #[sR o] [(.ref o), (.ref o)]))
  obtain ⟨T2, X2, e2, st2⟩ := getF X0 hx hZ hown (host := "") (Or.inl (hw _ (List.mem_of_getElem? (i := 14) rfl))) Via.refl e0 O.2.2.1 (g := (mkF m 2 #[sR o] [(.ref o), (.ref o)])) rfl rfl (hb hby d3_2)
  refine OwnGo.pre (fun t k => st2 t k) ?_
  show OwnGo _ _ _ _ (T2.setTop (mkF m 5 #[sR o] [(.int fp), (.ref o)]))
  refine OwnGo.pre (fun t k => XS.iconst X2.here hx rfl (hb hby d3_5) (own_iadd X2.here hx rfl (hb hby d3_6) rfl rfl k)) ?_
  show OwnGo _ _ _ _ (T2.setTop (mkF m 7 #[sR o] [(.int (fp + (1 : Int32))), (.ref o)]))
  obtain ⟨T3, h3, X3, e3, W3, st3⟩ := putF X2 hx hZ hown (host := "") (Or.inl (hw _ (List.mem_of_getElem? (i := 14) rfl))) Via.refl e2 O.2.2.1 O.1 (Or.inl (hw _ (List.mem_of_getElem? (i := 15) rfl))) (hw _ (List.mem_of_getElem? (i := 1) rfl)) (ty := .int) (by decide) rfl rfl (g := (mkF m 7 #[sR o] [(.int (fp + (1 : Int32))), (.ref o)])) rfl rfl (hb hby d3_7)
  have N3 := Fr.snoc X3 N0 g
  refine OwnGo.pre (fun t k => st3 t k) ?_
  show OwnGo _ _ _ _ (T3.setTop (mkF m 10 #[sR o] []))
  have F3_0 := (O.2.1).other W3 (Or.inr (slot_ne (Or.inl (hw _ (List.mem_of_getElem? (i := 22) rfl))) (Or.inl (hw _ (List.mem_of_getElem? (i := 15) rfl))) (by decide) (t := .int) (by decide) (t' := .int) (by decide)))
  have F3_1 := (O.2.2.1).same W3
  have F3_2 := (O.2.2.2).other W3 (Or.inr (slot_ne (Or.inl (hw _ (List.mem_of_getElem? (i := 29) rfl))) (Or.inl (hw _ (List.mem_of_getElem? (i := 15) rfl))) (by decide) (t := .int) (by decide) (t' := .int) (by decide)))
  have E3 := O.1.wr W3
  have P3 := (Keep.refl h0 [o]).wr W3 (Or.inl (List.mem_of_getElem? (i := 0) rfl))
  rw [← e3] at P3 E3 F3_0 F3_1 F3_2
  exact own_ret0 X3 hx hk hrt (hb hby d3_10) ⟨rfl, N3, P3, E3, F3_0, F3_1, F3_2⟩ (by decide) (by decide)
theorem d5_0 : decode prog_53_method_2_code 0 = .ok (.iload_n 1, 1) := by decide +kernel
theorem d5_1 : decode prog_53_method_2_code 1 = .ok (.ifCond .eq 16, 3) := by decide +kernel
theorem d5_4 : decode prog_53_method_2_code 4 = .ok (.aload_n 0, 1) := by decide +kernel
theorem d5_5 : decode prog_53_method_2_code 5 = .ok (.dup, 1) := by decide +kernel
theorem d5_6 : decode prog_53_method_2_code 6 = .ok (.getfield 7, 3) := by decide +kernel
theorem d5_9 : decode prog_53_method_2_code 9 = .ok (.iconst 1, 1) := by decide +kernel
theorem d5_10 : decode prog_53_method_2_code 10 = .ok (.iadd, 1) := by decide +kernel
theorem d5_11 : decode prog_53_method_2_code 11 = .ok (.putfield 7, 3) := by decide +kernel
theorem d5_14 : decode prog_53_method_2_code 14 = .ok (.goto 13, 3) := by decide +kernel
theorem d5_17 : decode prog_53_method_2_code 17 = .ok (.aload_n 0, 1) := by decide +kernel
theorem d5_18 : decode prog_53_method_2_code 18 = .ok (.dup, 1) := by decide +kernel
theorem d5_19 : decode prog_53_method_2_code 19 = .ok (.getfield 13, 3) := by decide +kernel
theorem d5_22 : decode prog_53_method_2_code 22 = .ok (.iconst 1, 1) := by decide +kernel
theorem d5_23 : decode prog_53_method_2_code 23 = .ok (.iadd, 1) := by decide +kernel
theorem d5_24 : decode prog_53_method_2_code 24 = .ok (.putfield 13, 3) := by decide +kernel
theorem d5_27 : decode prog_53_method_2_code 27 = .ok (.return_, 1) := by decide +kernel
theorem pn_rmA1 : plainName "com/example/clausewright/clausewright/scoring/Tally" = true := by first | (simp [plainName, overriddenIn]; done) | decide +kernel
theorem pd_rmA1 : parseMethodDescriptor "(Z)V" = some ⟨[.boolean], none⟩ := by decide +kernel
theorem ef_rmA1 (m : MethodId) (o : Addr) (tp fp fn : Int32) : entryFrame m #[(.ref o), (.int (1 : Int32))] 2 = (mkF m 0 #[sR o, sI (1 : Int32)] []) := by first | (simp [entryFrame, mkF, argsToLocals, Value.category, maxLocals]; done) | rfl
def Q_rmA1 (Z : State) (o : Addr) (tp fp fn : Int32) (h0 : Heap) (n0 : Nat) (v : Option Value) (h : Heap) (L : List Loc) : Prop := v = none ∧ Fr n0 L ∧ Keep h0 h [o] ∧ OwnTA Z h o (tp + 1) fp fn
set_option maxRecDepth 65536 in
set_option maxHeartbeats 40000000 in
theorem rmA1 (l : Launch) (Z : State) (a0 : Array Value) (hw : ∀ d ∈ tables_1, d.before a0 Z = true) (ws : List Jvm.Cond) (o : Addr) (tp fp fn : Int32) (h0 : Heap) (n0 : Nat) (Z0 : n0 ≤ h0.size) (O : OwnTA Z h0 o tp fp fn) (g : n0 ≤ o) :
    MetFree l (⟨"com/example/clausewright/clausewright/scoring/Tally", "addAnswer", "(Z)V"⟩ : MethodName) (head1 (Jvm.Cond.code (⟨"com/example/clausewright/clausewright/scoring/Tally", "addAnswer", "(Z)V"⟩ : MethodName) prog_53_method_2_code 2 none :: ws) ({ frames := 0, cells := 0, slots := 0, locals := 0 } : Room)) (fun a U => a = #[(.ref o), (.int (1 : Int32))] ∧ Z.Warmed39 U.vm ∧ U.heap = h0) (fun _ _ _ _ _ => True) (fun _ U oO U' => ∃ v L, oO = .returned v ∧ Q_rmA1 Z o tp fp fn h0 n0 v U'.heap L ∧ FrameEnd U oO U' L ({ frames := 0, cells := 0, slots := 0, locals := 0 } : Room).cells ({ frames := 0, cells := 0, slots := 0, locals := 0 } : Room).slots) := by
  refine MetFree.of_bodySF (plainFor_of_name pn_rmA1) hisR ?_
  intro p e s m args below meth c s₁ Bd hml0 hP hK
  obtain ⟨rfl, hZ, hh⟩ := hP
  have hx := Bd.exec
  have hby := Bd.bytes
  have hml : c.maxLocals = 2 := hml0
  have hown : s.vm.findClass "com/example/clausewright/clausewright/scoring/Tally" = some m.cls := findClass_of_methodNamed Bd.named
  have hnm := (name_of_methodNamed Bd.named Bd.method).1
  have hk := Bd.notSynchronized
  have hrt := Bd.returns
  have X0 : Stand p l e ({ frames := 0, cells := 0, slots := 0, locals := 0 } : Room) s m #[(.ref o), (.int (1 : Int32))] below meth c s₁ [] 0 0 := Stand.of_body Bd
  have e0 : s₁.heap = h0 := by rw [← hh, Bd.state]; rfl
  have N0 := Fr.nil n0
  show OwnGo p.tables e below (OwnEnd s (Q_rmA1 Z o tp fp fn h0 n0) ({ frames := 0, cells := 0, slots := 0, locals := 0 } : Room).cells ({ frames := 0, cells := 0, slots := 0, locals := 0 } : Room).slots) _
  refine OwnGo.pre (fun t k => castTop (ef_rmA1 m o tp fp fn) k) ?_
  show OwnGo _ _ _ _ (s₁.setTop (mkF m 0 #[sR o, sI (1 : Int32)] []))
  refine OwnGo.pre (fun t k => XS.iloadN X0.here hx rfl (hb hby d5_0) rfl (XS.ifNo X0.here hx rfl (hb hby d5_1) rfl (by decide) (XS.aloadN X0.here hx rfl (hb hby d5_4) rfl rfl (XS.dup X0.here hx rfl (hb hby d5_5) rfl rfl k)))) ?_
  show OwnGo _ _ _ _ (s₁.setTop (mkF m 6 #[sR o, sI (1 : Int32)] [(.ref o), (.ref o)]))
  obtain ⟨T4, X4, e4, st4⟩ := getF X0 hx hZ hown (host := "") (Or.inl (hw _ (List.mem_of_getElem? (i := 21) rfl))) Via.refl e0 O.2.1 (g := (mkF m 6 #[sR o, sI (1 : Int32)] [(.ref o), (.ref o)])) rfl rfl (hb hby d5_6)
  refine OwnGo.pre (fun t k => st4 t k) ?_
  show OwnGo _ _ _ _ (T4.setTop (mkF m 9 #[sR o, sI (1 : Int32)] [(.int tp), (.ref o)]))
  refine OwnGo.pre (fun t k => XS.iconst X4.here hx rfl (hb hby d5_9) (own_iadd X4.here hx rfl (hb hby d5_10) rfl rfl k)) ?_
  show OwnGo _ _ _ _ (T4.setTop (mkF m 11 #[sR o, sI (1 : Int32)] [(.int (tp + (1 : Int32))), (.ref o)]))
  obtain ⟨T5, h5, X5, e5, W5, st5⟩ := putF X4 hx hZ hown (host := "") (Or.inl (hw _ (List.mem_of_getElem? (i := 21) rfl))) Via.refl e4 O.2.1 O.1 (Or.inl (hw _ (List.mem_of_getElem? (i := 22) rfl))) (hw _ (List.mem_of_getElem? (i := 1) rfl)) (ty := .int) (by decide) rfl rfl (g := (mkF m 11 #[sR o, sI (1 : Int32)] [(.int (tp + (1 : Int32))), (.ref o)])) rfl rfl (hb hby d5_11)
  have N5 := Fr.snoc X5 N0 g
  refine OwnGo.pre (fun t k => st5 t k) ?_
  show OwnGo _ _ _ _ (T5.setTop (mkF m 14 #[sR o, sI (1 : Int32)] []))
  have F5_0 := (O.2.1).same W5
  have F5_1 := (O.2.2.1).other W5 (Or.inr (slot_ne (Or.inl (hw _ (List.mem_of_getElem? (i := 15) rfl))) (Or.inl (hw _ (List.mem_of_getElem? (i := 22) rfl))) (by decide) (t := .int) (by decide) (t' := .int) (by decide)))
  have F5_2 := (O.2.2.2).other W5 (Or.inr (slot_ne (Or.inl (hw _ (List.mem_of_getElem? (i := 29) rfl))) (Or.inl (hw _ (List.mem_of_getElem? (i := 22) rfl))) (by decide) (t := .int) (by decide) (t' := .int) (by decide)))
  have E5 := O.1.wr W5
  have P5 := (Keep.refl h0 [o]).wr W5 (Or.inl (List.mem_of_getElem? (i := 0) rfl))
  rw [← e5] at P5 E5 F5_0 F5_1 F5_2
  refine OwnGo.pre (fun t k => XS.goto X5.here hx rfl (pc0 := 14) (pc' := 27) rfl (hb hby d5_14) (by decide) (by decide) k) ?_
  show OwnGo _ _ _ _ (T5.setTop (mkF m 27 #[sR o, sI (1 : Int32)] []))
  exact own_ret0 X5 hx hk hrt (hb hby d5_27) ⟨rfl, N5, P5, E5, F5_0, F5_1, F5_2⟩ (by decide) (by decide)
theorem pn_rmA0 : plainName "com/example/clausewright/clausewright/scoring/Tally" = true := by first | (simp [plainName, overriddenIn]; done) | decide +kernel
theorem pd_rmA0 : parseMethodDescriptor "(Z)V" = some ⟨[.boolean], none⟩ := by decide +kernel
theorem ef_rmA0 (m : MethodId) (o : Addr) (tp fp fn : Int32) : entryFrame m #[(.ref o), (.int (0 : Int32))] 2 = (mkF m 0 #[sR o, sI (0 : Int32)] []) := by first | (simp [entryFrame, mkF, argsToLocals, Value.category, maxLocals]; done) | rfl
def Q_rmA0 (Z : State) (o : Addr) (tp fp fn : Int32) (h0 : Heap) (n0 : Nat) (v : Option Value) (h : Heap) (L : List Loc) : Prop := v = none ∧ Fr n0 L ∧ Keep h0 h [o] ∧ OwnTA Z h o tp fp (fn + 1)
set_option maxRecDepth 65536 in
set_option maxHeartbeats 40000000 in
theorem rmA0 (l : Launch) (Z : State) (a0 : Array Value) (hw : ∀ d ∈ tables_1, d.before a0 Z = true) (ws : List Jvm.Cond) (o : Addr) (tp fp fn : Int32) (h0 : Heap) (n0 : Nat) (Z0 : n0 ≤ h0.size) (O : OwnTA Z h0 o tp fp fn) (g : n0 ≤ o) :
    MetFree l (⟨"com/example/clausewright/clausewright/scoring/Tally", "addAnswer", "(Z)V"⟩ : MethodName) (head1 (Jvm.Cond.code (⟨"com/example/clausewright/clausewright/scoring/Tally", "addAnswer", "(Z)V"⟩ : MethodName) prog_53_method_2_code 2 none :: ws) ({ frames := 0, cells := 0, slots := 0, locals := 0 } : Room)) (fun a U => a = #[(.ref o), (.int (0 : Int32))] ∧ Z.Warmed39 U.vm ∧ U.heap = h0) (fun _ _ _ _ _ => True) (fun _ U oO U' => ∃ v L, oO = .returned v ∧ Q_rmA0 Z o tp fp fn h0 n0 v U'.heap L ∧ FrameEnd U oO U' L ({ frames := 0, cells := 0, slots := 0, locals := 0 } : Room).cells ({ frames := 0, cells := 0, slots := 0, locals := 0 } : Room).slots) := by
  refine MetFree.of_bodySF (plainFor_of_name pn_rmA0) hisR ?_
  intro p e s m args below meth c s₁ Bd hml0 hP hK
  obtain ⟨rfl, hZ, hh⟩ := hP
  have hx := Bd.exec
  have hby := Bd.bytes
  have hml : c.maxLocals = 2 := hml0
  have hown : s.vm.findClass "com/example/clausewright/clausewright/scoring/Tally" = some m.cls := findClass_of_methodNamed Bd.named
  have hnm := (name_of_methodNamed Bd.named Bd.method).1
  have hk := Bd.notSynchronized
  have hrt := Bd.returns
  have X0 : Stand p l e ({ frames := 0, cells := 0, slots := 0, locals := 0 } : Room) s m #[(.ref o), (.int (0 : Int32))] below meth c s₁ [] 0 0 := Stand.of_body Bd
  have e0 : s₁.heap = h0 := by rw [← hh, Bd.state]; rfl
  have N0 := Fr.nil n0
  show OwnGo p.tables e below (OwnEnd s (Q_rmA0 Z o tp fp fn h0 n0) ({ frames := 0, cells := 0, slots := 0, locals := 0 } : Room).cells ({ frames := 0, cells := 0, slots := 0, locals := 0 } : Room).slots) _
  refine OwnGo.pre (fun t k => castTop (ef_rmA0 m o tp fp fn) k) ?_
  show OwnGo _ _ _ _ (s₁.setTop (mkF m 0 #[sR o, sI (0 : Int32)] []))
  refine OwnGo.pre (fun t k => XS.iloadN X0.here hx rfl (hb hby d5_0) rfl (XS.ifYes X0.here hx rfl (pc0 := 1) (pc' := 17) rfl (hb hby d5_1) rfl (by decide) (by decide) (by decide) (XS.aloadN X0.here hx rfl (hb hby d5_17) rfl rfl (XS.dup X0.here hx rfl (hb hby d5_18) rfl rfl k)))) ?_
  show OwnGo _ _ _ _ (s₁.setTop (mkF m 19 #[sR o, sI (0 : Int32)] [(.ref o), (.ref o)]))
  obtain ⟨T6, X6, e6, st6⟩ := getF X0 hx hZ hown (host := "") (Or.inl (hw _ (List.mem_of_getElem? (i := 28) rfl))) Via.refl e0 O.2.2.2 (g := (mkF m 19 #[sR o, sI (0 : Int32)] [(.ref o), (.ref o)])) rfl rfl (hb hby d5_19)
  refine OwnGo.pre (fun t k => st6 t k) ?_
  show OwnGo _ _ _ _ (T6.setTop (mkF m 22 #[sR o, sI (0 : Int32)] [(.int fn), (.ref o)]))
  refine OwnGo.pre (fun t k => XS.iconst X6.here hx rfl (hb hby d5_22) (own_iadd X6.here hx rfl (hb hby d5_23) rfl rfl k)) ?_
  show OwnGo _ _ _ _ (T6.setTop (mkF m 24 #[sR o, sI (0 : Int32)] [(.int (fn + (1 : Int32))), (.ref o)]))
  obtain ⟨T7, h7, X7, e7, W7, st7⟩ := putF X6 hx hZ hown (host := "") (Or.inl (hw _ (List.mem_of_getElem? (i := 28) rfl))) Via.refl e6 O.2.2.2 O.1 (Or.inl (hw _ (List.mem_of_getElem? (i := 29) rfl))) (hw _ (List.mem_of_getElem? (i := 1) rfl)) (ty := .int) (by decide) rfl rfl (g := (mkF m 24 #[sR o, sI (0 : Int32)] [(.int (fn + (1 : Int32))), (.ref o)])) rfl rfl (hb hby d5_24)
  have N7 := Fr.snoc X7 N0 g
  refine OwnGo.pre (fun t k => st7 t k) ?_
  show OwnGo _ _ _ _ (T7.setTop (mkF m 27 #[sR o, sI (0 : Int32)] []))
  have F7_0 := (O.2.1).other W7 (Or.inr (slot_ne (Or.inl (hw _ (List.mem_of_getElem? (i := 22) rfl))) (Or.inl (hw _ (List.mem_of_getElem? (i := 29) rfl))) (by decide) (t := .int) (by decide) (t' := .int) (by decide)))
  have F7_1 := (O.2.2.1).other W7 (Or.inr (slot_ne (Or.inl (hw _ (List.mem_of_getElem? (i := 15) rfl))) (Or.inl (hw _ (List.mem_of_getElem? (i := 29) rfl))) (by decide) (t := .int) (by decide) (t' := .int) (by decide)))
  have F7_2 := (O.2.2.2).same W7
  have E7 := O.1.wr W7
  have P7 := (Keep.refl h0 [o]).wr W7 (Or.inl (List.mem_of_getElem? (i := 0) rfl))
  rw [← e7] at P7 E7 F7_0 F7_1 F7_2
  exact own_ret0 X7 hx hk hrt (hb hby d5_27) ⟨rfl, N7, P7, E7, F7_0, F7_1, F7_2⟩ (by decide) (by decide)
theorem d4_0 : decode prog_53_method_4_code 0 = .ok (.aload_n 0, 1) := by decide +kernel
theorem d4_1 : decode prog_53_method_4_code 1 = .ok (.getfield 7, 3) := by decide +kernel
theorem d4_4 : decode prog_53_method_4_code 4 = .ok (.aload_n 0, 1) := by decide +kernel
theorem d4_5 : decode prog_53_method_4_code 5 = .ok (.getfield 16, 3) := by decide +kernel
theorem d4_8 : decode prog_53_method_4_code 8 = .ok (.iadd, 1) := by decide +kernel
theorem d4_9 : decode prog_53_method_4_code 9 = .ok (.istore_n 1, 1) := by decide +kernel
theorem d4_10 : decode prog_53_method_4_code 10 = .ok (.iload_n 1, 1) := by decide +kernel
theorem d4_11 : decode prog_53_method_4_code 11 = .ok (.ifCond .ne 9, 3) := by decide +kernel
theorem d4_14 : decode prog_53_method_4_code 14 = .ok (.ldc2_w 21, 3) := by decide +kernel
theorem d4_17 : decode prog_53_method_4_code 17 = .ok (.goto 11, 3) := by decide +kernel
theorem d4_20 : decode prog_53_method_4_code 20 = .ok (.aload_n 0, 1) := by decide +kernel
theorem d4_21 : decode prog_53_method_4_code 21 = .ok (.getfield 7, 3) := by decide +kernel
theorem d4_24 : decode prog_53_method_4_code 24 = .ok (.i2d, 1) := by decide +kernel
theorem d4_25 : decode prog_53_method_4_code 25 = .ok (.iload_n 1, 1) := by decide +kernel
theorem d4_26 : decode prog_53_method_4_code 26 = .ok (.i2d, 1) := by decide +kernel
theorem d4_27 : decode prog_53_method_4_code 27 = .ok (.ddiv, 1) := by decide +kernel
theorem d4_28 : decode prog_53_method_4_code 28 = .ok (.dreturn, 1) := by decide +kernel
theorem pn_rmP : plainName "com/example/clausewright/clausewright/scoring/Tally" = true := by first | (simp [plainName, overriddenIn]; done) | decide +kernel
theorem pd_rmP : parseMethodDescriptor "()D" = some ⟨[], (some .double)⟩ := by decide +kernel
theorem ef_rmP (m : MethodId) (o : Addr) (tp fp fn : Int32) : entryFrame m #[(.ref o)] 2 = (mkF m 0 #[sR o, uU] []) := by first | (simp [entryFrame, mkF, argsToLocals, Value.category, maxLocals]; done) | rfl
def Q_rmP (Z : State) (o : Addr) (tp fp fn : Int32) (h0 : Heap) (n0 : Nat) (v : Option Value) (h : Heap) (L : List Loc) : Prop := ∃ r, v = some (.double r) ∧ (tp + fp = 0 → r = 9221120237041090560) ∧ (tp + fp ≠ 0 → r = FP.ddiv (FP.i2d tp) (FP.i2d (tp + fp))) ∧ Fr n0 L ∧ h = h0
set_option maxRecDepth 65536 in
set_option maxHeartbeats 40000000 in
theorem rmP (l : Launch) (Z : State) (a0 : Array Value) (hw : ∀ d ∈ tables_1, d.before a0 Z = true) (ws : List Jvm.Cond) (o : Addr) (tp fp fn : Int32) (h0 : Heap) (n0 : Nat) (Z0 : n0 ≤ h0.size) (O : OwnTA Z h0 o tp fp fn) :
    MetFree l (⟨"com/example/clausewright/clausewright/scoring/Tally", "precision", "()D"⟩ : MethodName) (head1 (Jvm.Cond.code (⟨"com/example/clausewright/clausewright/scoring/Tally", "precision", "()D"⟩ : MethodName) prog_53_method_4_code 2 (some .double) :: ws) ({ frames := 0, cells := 0, slots := 0, locals := 0 } : Room)) (fun a U => a = #[(.ref o)] ∧ Z.Warmed39 U.vm ∧ U.heap = h0) (fun _ _ _ _ _ => True) (fun _ U oO U' => ∃ v L, oO = .returned v ∧ Q_rmP Z o tp fp fn h0 n0 v U'.heap L ∧ FrameEnd U oO U' L ({ frames := 0, cells := 0, slots := 0, locals := 0 } : Room).cells ({ frames := 0, cells := 0, slots := 0, locals := 0 } : Room).slots) := by
  refine MetFree.of_bodySF (plainFor_of_name pn_rmP) hisR ?_
  intro p e s m args below meth c s₁ Bd hml0 hP hK
  obtain ⟨rfl, hZ, hh⟩ := hP
  have hx := Bd.exec
  have hby := Bd.bytes
  have hml : c.maxLocals = 2 := hml0
  have hown : s.vm.findClass "com/example/clausewright/clausewright/scoring/Tally" = some m.cls := findClass_of_methodNamed Bd.named
  have hnm := (name_of_methodNamed Bd.named Bd.method).1
  have hk := Bd.notSynchronized
  have hrt := Bd.returns
  have X0 : Stand p l e ({ frames := 0, cells := 0, slots := 0, locals := 0 } : Room) s m #[(.ref o)] below meth c s₁ [] 0 0 := Stand.of_body Bd
  have e0 : s₁.heap = h0 := by rw [← hh, Bd.state]; rfl
  have N0 := Fr.nil n0
  show OwnGo p.tables e below (OwnEnd s (Q_rmP Z o tp fp fn h0 n0) ({ frames := 0, cells := 0, slots := 0, locals := 0 } : Room).cells ({ frames := 0, cells := 0, slots := 0, locals := 0 } : Room).slots) _
  refine OwnGo.pre (fun t k => castTop (ef_rmP m o tp fp fn) k) ?_
  show OwnGo _ _ _ _ (s₁.setTop (mkF m 0 #[sR o, uU] []))
  refine OwnGo.pre (fun t k => XS.aloadN X0.here hx rfl (hb hby d4_0) rfl rfl k) ?_
  show OwnGo _ _ _ _ (s₁.setTop (mkF m 1 #[sR o, uU] [(.ref o)]))
  obtain ⟨T8, X8, e8, st8⟩ := getF X0 hx hZ hown (host := "") (Or.inl (hw _ (List.mem_of_getElem? (i := 21) rfl))) Via.refl e0 O.2.1 (g := (mkF m 1 #[sR o, uU] [(.ref o)])) rfl rfl (hb hby d4_1)
  refine OwnGo.pre (fun t k => st8 t k) ?_
  show OwnGo _ _ _ _ (T8.setTop (mkF m 4 #[sR o, uU] [(.int tp)]))
  refine OwnGo.pre (fun t k => XS.aloadN X8.here hx rfl (hb hby d4_4) rfl rfl k) ?_
  show OwnGo _ _ _ _ (T8.setTop (mkF m 5 #[sR o, uU] [(.ref o), (.int tp)]))
  obtain ⟨T9, X9, e9, st9⟩ := getF X8 hx hZ hown (host := "") (Or.inl (hw _ (List.mem_of_getElem? (i := 14) rfl))) Via.refl e8 O.2.2.1 (g := (mkF m 5 #[sR o, uU] [(.ref o), (.int tp)])) rfl rfl (hb hby d4_5)
  refine OwnGo.pre (fun t k => st9 t k) ?_
  show OwnGo _ _ _ _ (T9.setTop (mkF m 8 #[sR o, uU] [(.int fp), (.int tp)]))
  refine OwnGo.pre (fun t k => own_iadd X9.here hx rfl (hb hby d4_8) rfl rfl (XS.istoreN X9.here hx rfl (hb hby d4_9) rfl (l' := #[sR o, sI (tp + fp)]) rfl (XS.iloadN X9.here hx rfl (hb hby d4_10) rfl k))) ?_
  show OwnGo _ _ _ _ (T9.setTop (mkF m 11 #[sR o, sI (tp + fp)] [(.int (tp + fp))]))
  by_cases hz : tp + fp = 0
  · skip
    refine OwnGo.pre (fun t k => XS.ifNo X9.here hx rfl (hb hby d4_11) rfl (by rw [hz]; rfl) (own_ldcD X9 hx hown (mvT hZ (hw _ (List.mem_of_getElem? (i := 30) rfl))) rfl (hb hby d4_14) (XS.goto X9.here hx rfl (pc0 := 17) (pc' := 28) rfl (hb hby d4_17) (by decide) (by decide) k))) ?_
    show OwnGo _ _ _ _ (T9.setTop (mkF m 28 #[sR o, sI (tp + fp)] [(.double (9221120237041090560 : UInt64))]))
    exact own_retD X9 hx hk hrt (hb hby d4_28) ⟨_, rfl, fun _ => rfl, fun q => absurd hz q, N0, e9⟩ (by decide) (by decide)
  · skip
    refine OwnGo.pre (fun t k => XS.ifYes X9.here hx rfl (pc0 := 11) (pc' := 20) rfl (hb hby d4_11) rfl ((own_br0 .ne _).trans (decide_eq_true fun q => hz (Int32.toInt_inj.mp q))) (by decide) (by decide) (XS.aloadN X9.here hx rfl (hb hby d4_20) rfl rfl k)) ?_
    show OwnGo _ _ _ _ (T9.setTop (mkF m 21 #[sR o, sI (tp + fp)] [(.ref o)]))
    obtain ⟨T10, X10, e10, st10⟩ := getF X9 hx hZ hown (host := "") (Or.inl (hw _ (List.mem_of_getElem? (i := 21) rfl))) Via.refl e9 O.2.1 (g := (mkF m 21 #[sR o, sI (tp + fp)] [(.ref o)])) rfl rfl (hb hby d4_21)
    refine OwnGo.pre (fun t k => st10 t k) ?_
    show OwnGo _ _ _ _ (T10.setTop (mkF m 24 #[sR o, sI (tp + fp)] [(.int tp)]))
    have nn : Jvm.Free.Fl.NoNaN64 (FP.ddiv (FP.i2d tp) (FP.i2d (tp + fp))) := Jvm.Free.Fl.ddiv_out (Jvm.Free.Fl.i2d_fin tp).noNaN (Jvm.Free.Fl.i2d_fin _) (Jvm.Free.Fl.i2d_nz hz)
    refine OwnGo.pre (fun t k => XS.i2dS X10.here hx rfl (hb hby d4_24) rfl rfl (XS.iloadN X10.here hx rfl (hb hby d4_25) rfl (XS.i2dS X10.here hx rfl (hb hby d4_26) rfl rfl (XS.ddivS X10.here hx rfl (hb hby d4_27) rfl nn rfl k)))) ?_
    show OwnGo _ _ _ _ (T10.setTop (mkF m 28 #[sR o, sI (tp + fp)] [(.double (FP.ddiv (FP.i2d tp) (FP.i2d (tp + fp))))]))
    exact own_retD X10 hx hk hrt (hb hby d4_28) ⟨_, rfl, fun q => absurd q hz, fun _ => rfl, N0, e10⟩ (by decide) (by decide)
theorem pn_rmL : plainName "com/example/clausewright/clausewright/scoring/TallyPrecisionPinLaw" = true := by first | (simp [plainName, overriddenIn]; done) | decide +kernel
theorem ef_rmL (m : MethodId) (p0 p1 p2 : Int32) : entryFrame m #[(.int p0), (.int p1), (.int p2)] maxLocals = (mkF m 0 #[sI p0, sI p1, sI p2, uU, uU, uU, uU, uU, uU, uU, uU, uU, uU] []) := by first | (simp [entryFrame, mkF, argsToLocals, Value.category, maxLocals]; done) | rfl
def Q_rmL (Z : State) (p0 p1 p2 : Int32) (h0 : Heap) (n0 : Nat) (v : Option Value) (h : Heap) (L : List Loc) : Prop := v = some (.int 1) ∧ Fr n0 L
set_option maxRecDepth 65536 in
set_option maxHeartbeats 40000000 in
theorem rmL (l : Launch) (Z : State) (a0 : Array Value) (hw : ∀ d ∈ tables_1, d.before a0 Z = true) (ws : List Jvm.Cond) (p0 p1 p2 : Int32) (h0 : Heap) (n0 : Nat) (Z0 : n0 ≤ h0.size)  :
    MetFree l x (head1 (Jvm.Cond.code x code maxLocals ret :: ws) room_1) (fun a U => a = #[(.int p0), (.int p1), (.int p2)] ∧ Z.Warmed39 U.vm ∧ U.heap = h0) (fun _ _ _ _ _ => True) (fun _ U oO U' => ∃ v L, oO = .returned v ∧ Q_rmL Z p0 p1 p2 h0 n0 v U'.heap L ∧ FrameEnd U oO U' L room_1.cells room_1.slots) := by
  refine MetFree.of_bodySF (plainFor_of_name pn_rmL) hisR ?_
  intro p e s m args below meth c s₁ Bd hml0 hP hK
  obtain ⟨rfl, hZ, hh⟩ := hP
  have hx := Bd.exec
  have hby := Bd.bytes
  have hml : c.maxLocals = 13 := hml0
  have hown : s.vm.findClass "com/example/clausewright/clausewright/scoring/TallyPrecisionPinLaw" = some m.cls := findClass_of_methodNamed Bd.named
  have hnm := (name_of_methodNamed Bd.named Bd.method).1
  have hk := Bd.notSynchronized
  have hrt := Bd.returns
  have X0 : Stand p l e room_1 s m #[(.int p0), (.int p1), (.int p2)] below meth c s₁ [] 0 0 := Stand.of_body Bd
  have e0 : s₁.heap = h0 := by rw [← hh, Bd.state]; rfl
  have N0 := Fr.nil n0
  show OwnGo p.tables e below (OwnEnd s (Q_rmL Z p0 p1 p2 h0 n0) room_1.cells room_1.slots) _
  refine OwnGo.pre (fun t k => castTop (ef_rmL m p0 p1 p2) k) ?_
  show OwnGo _ _ _ _ (s₁.setTop (mkF m 0 #[sI p0, sI p1, sI p2, uU, uU, uU, uU, uU, uU, uU, uU, uU, uU] []))
  obtain ⟨tp, htp⟩ : ∃ v, p0 &&& (3 : Int32) = v := ⟨_, rfl⟩
  obtain ⟨fp, hfp⟩ : ∃ v, p1 &&& (3 : Int32) = v := ⟨_, rfl⟩
  refine OwnGo.pre (fun t k => XS.iloadN X0.here hx rfl (hb hby at_0) rfl (XS.iconst X0.here hx rfl (hb hby at_1) (own_iand X0.here hx rfl (hb hby at_2) rfl htp (XS.istoreN X0.here hx rfl (hb hby at_3) rfl (l' := #[sI p0, sI p1, sI p2, sI tp, uU, uU, uU, uU, uU, uU, uU, uU, uU]) rfl (XS.iloadN X0.here hx rfl (hb hby at_4) rfl (XS.iconst X0.here hx rfl (hb hby at_5) (own_iand X0.here hx rfl (hb hby at_6) rfl hfp (XS.istore X0.here hx rfl (hb hby at_7) rfl (l' := #[sI p0, sI p1, sI p2, sI tp, sI fp, uU, uU, uU, uU, uU, uU, uU, uU]) rfl k)))))))) ?_
  show OwnGo _ _ _ _ (s₁.setTop (mkF m 9 #[sI p0, sI p1, sI p2, sI tp, sI fp, uU, uU, uU, uU, uU, uU, uU, uU] []))
  obtain ⟨fn, hfn⟩ : ∃ v, p2 &&& (1 : Int32) = v := ⟨_, rfl⟩
  refine OwnGo.pre (fun t k => XS.iloadN X0.here hx rfl (hb hby at_9) rfl (XS.iconst X0.here hx rfl (hb hby at_10) (own_iand X0.here hx rfl (hb hby at_11) rfl hfn (XS.istore X0.here hx rfl (hb hby at_12) rfl (l' := #[sI p0, sI p1, sI p2, sI tp, sI fp, sI fn, uU, uU, uU, uU, uU, uU, uU]) rfl k)))) ?_
  show OwnGo _ _ _ _ (s₁.setTop (mkF m 14 #[sI p0, sI p1, sI p2, sI tp, sI fp, sI fn, uU, uU, uU, uU, uU, uU, uU] []))
  obtain ⟨T11, h11, X11, e11, E11, A11, D11, -, st11⟩ := newO X0 hx hZ hown (hw _ (List.mem_of_getElem? (i := 0) rfl)) (hw _ (List.mem_of_getElem? (i := 1) rfl)) (hw _ (List.mem_of_getElem? (i := 2) rfl)) e0 (g := (mkF m 14 #[sI p0, sI p1, sI p2, sI tp, sI fp, sI fn, uU, uU, uU, uU, uU, uU, uU] [])) rfl (hb hby at_14) (by decide) (by decide)
  obtain ⟨a11, g11⟩ : ∃ z, z = h0.size := ⟨_, rfl⟩
  rw [← g11] at A11 D11 st11
  have G11 : n0 ≤ a11 := Nat.le_trans Z0 (Nat.le_of_eq g11.symm)
  have Z11 : n0 ≤ h11.size := Nat.le_trans Z0 E11.1
  refine OwnGo.pre (fun t k => st11 t k) ?_
  show OwnGo _ _ _ _ (T11.setTop (mkF m 17 #[sI p0, sI p1, sI p2, sI tp, sI fp, sI fn, uU, uU, uU, uU, uU, uU, uU] [(.ref a11)]))
  refine OwnGo.pre (fun t k => XS.dup X11.here hx rfl (hb hby at_17) rfl rfl k) ?_
  show OwnGo _ _ _ _ (T11.setTop (mkF m 18 #[sI p0, sI p1, sI p2, sI tp, sI fp, sI fn, uU, uU, uU, uU, uU, uU, uU] [(.ref a11), (.ref a11)]))
  obtain ⟨_, _, ⟨T12, L12, k12, n12⟩, -, X12, ⟨Lc12, hQ12, l12, y12, z12⟩, st12⟩ := X11.specialBack hx (y := (⟨"com/example/clausewright/clausewright/scoring/Tally", "<init>", "()V"⟩ : MethodName)) rfl hown (mvT hZ (hw _ (List.mem_of_getElem? (i := 3) rfl))) (mvT hZ (hw _ (List.mem_of_getElem? (i := 4) rfl))) (mvT hZ (hw _ (List.mem_of_getElem? (i := 5) rfl))) (by decide) (backOf (W := 1) (rmI l Z a0 hw [] a11 h11 n0 Z11 ) hZ (hw _ (List.mem_of_getElem? (i := 5) rfl)) (hw _ (List.mem_of_getElem? (i := 2) rfl)) (by decide) (by decide)) (g := (mkF m 18 #[sI p0, sI p1, sI p2, sI tp, sI fp, sI fn, uU, uU, uU, uU, uU, uU, uU] [(.ref a11), (.ref a11)])) rfl (by rw [hml]; rfl) (Steps.refl _) (a := a11) (argsL := []) (rest := [(.ref a11)]) (lenOf pd_rmI rfl) rfl (by show 2 * 0 + _ ≤ _; exact Nat.le_of_eq rfl) (hb hby at_18) (fun _ _ => ⟨rfl, e11, (by decide : 1 + 0 ≤ _), (by decide : 3 + 0 ≤ _)⟩)
  dsimp only [Pt.U, Pt.locs, Pt.cells, Pt.slots] at X12 l12 y12 z12 st12 hQ12
  subst l12 y12 z12
  obtain ⟨rfl, N12, e12⟩ := hQ12
  refine OwnGo.pre (fun t k => st12.trans k) ?_
  show OwnGo _ _ _ _ (T12.setTop (mkF m 21 #[sI p0, sI p1, sI p2, sI tp, sI fp, sI fn, uU, uU, uU, uU, uU, uU, uU] [(.ref a11)]))
  have M12 := Fr.app N0 N12
  have O0 : OwnTA Z h11 a11 0 0 0 := ⟨A11, D11 (Or.inl (hw _ (List.mem_of_getElem? (i := 22) rfl))) (ty := .int) (by decide), D11 (Or.inl (hw _ (List.mem_of_getElem? (i := 15) rfl))) (ty := .int) (by decide), D11 (Or.inl (hw _ (List.mem_of_getElem? (i := 29) rfl))) (ty := .int) (by decide)⟩
  have ctp : tp = 0 ∨ tp = 1 ∨ tp = 2 ∨ tp = 3 := htp ▸ own_and3 p0
  have cfp : fp = 0 ∨ fp = 1 ∨ fp = 2 ∨ fp = 3 := hfp ▸ own_and3 p1
  have cfn : fn = 0 ∨ fn = 1 := hfn ▸ and_one p2
  have btp : 0 ≤ tp.toInt ∧ tp.toInt ≤ 3 := by rcases ctp with q | q | q | q <;> rw [q] <;> decide
  have bfp : 0 ≤ fp.toInt ∧ fp.toInt ≤ 3 := by rcases cfp with q | q | q | q <;> rw [q] <;> decide
  have c1i : (1 : Int32).toInt = 1 := rfl
  have c2i : (2 : Int32).toInt = 2 := rfl
  have c3i : (3 : Int32).toInt = 3 := rfl
  have c0i : (0 : Int32).toInt = 0 := rfl
  refine OwnGo.pre (fun t k => XS.astore X12.here hx rfl (hb hby at_21) rfl rfl (l' := #[sI p0, sI p1, sI p2, sI tp, sI fp, sI fn, sR a11, uU, uU, uU, uU, uU, uU]) rfl (XS.iload X12.here hx rfl (hb hby at_23) rfl (XS.iconst X12.here hx rfl (hb hby at_25) k))) ?_
  show OwnGo _ _ _ _ (T12.setTop (mkF m 26 #[sI p0, sI p1, sI p2, sI tp, sI fp, sI fn, sR a11, uU, uU, uU, uU, uU, uU] [(.int (1 : Int32)), (.int fn)]))
  have K101 : ∀ (T : State) (locs : List Loc) (cells slots : Nat) (tv fv nv : Int32), Stand p l e room_1 s m #[(.int p0), (.int p1), (.int p2)] below meth c T locs cells slots → Fr n0 locs → cells ≤ 1 → slots ≤ 3 → n0 ≤ T.heap.size → (OwnTA Z T.heap a11 tv fv nv) → (tv = tp) → (fv = fp) → OwnGo p.tables e below (OwnEnd s (Q_rmL Z p0 p1 p2 h0 n0) room_1.cells room_1.slots) (T.setTop (mkF m 101 #[sI p0, sI p1, sI p2, sI tp, sI fp, sI fn, sR a11, uU, uU, uU, uU, uU, uU] [])) := by
    intro T locs cells slots tv fv nv X N hcc hss hz0 O et ef
    subst et ef
    show OwnGo _ _ _ _ (T.setTop (mkF m 101 #[sI p0, sI p1, sI p2, sI tv, sI fv, sI fn, sR a11, uU, uU, uU, uU, uU, uU] []))
    refine OwnGo.pre (fun t k => XS.aload X.here hx rfl (hb hby at_101) rfl rfl k) ?_
    show OwnGo _ _ _ _ (T.setTop (mkF m 103 #[sI p0, sI p1, sI p2, sI tv, sI fv, sI fn, sR a11, uU, uU, uU, uU, uU, uU] [(.ref a11)]))
    obtain ⟨cq13, kq13, qa13, qb13, qc13⟩ := isOf hZ rfl O.1
    obtain ⟨_, _, ⟨T13, L13, k13, n13⟩, -, X13, ⟨Lc13, hQ13, l13, y13, z13⟩, st13⟩ := X.virtualBack hx (y := (⟨"com/example/clausewright/clausewright/scoring/Tally", "precision", "()D"⟩ : MethodName)) (z := (⟨"com/example/clausewright/clausewright/scoring/Tally", "precision", "()D"⟩ : MethodName)) hown (mvT hZ (hw _ (List.mem_of_getElem? (i := 16) rfl))) (mvT hZ (hw _ (List.mem_of_getElem? (i := 17) rfl))) (notFace_of_selects (args := #[]) (mvT hZ (hw _ (List.mem_of_getElem? (i := 19) rfl)))) (mvT hZ (hw _ (List.mem_of_getElem? (i := 19) rfl))) (mvT hZ (hw _ (List.mem_of_getElem? (i := 18) rfl))) (by decide) (backOf (W := 0) (rmP l Z a0 hw [] a11 tv fv nv T.heap n0 hz0 O) hZ (hw _ (List.mem_of_getElem? (i := 20) rfl)) (hw _ (List.mem_of_getElem? (i := 2) rfl)) (by decide) (by decide)) qa13 qc13 (g := (mkF m 103 #[sI p0, sI p1, sI p2, sI tv, sI fv, sI fn, sR a11, uU, uU, uU, uU, uU, uU] [(.ref a11)])) rfl (by rw [hml]; rfl) (Steps.refl _) (argsL := []) (rest := []) (lenOf pd_rmP rfl) rfl (by show 2 * 0 + _ ≤ _; exact Nat.le_of_eq rfl) (hb hby at_103) (fun _ _ => ⟨rfl, rfl, (by show cells + 0 ≤ 16; omega), (by show slots + 0 ≤ 128; omega)⟩)
    dsimp only [Pt.U, Pt.locs, Pt.cells, Pt.slots] at X13 l13 y13 z13 st13 hQ13
    subst l13 y13 z13
    obtain ⟨rr, rfl, hr1, hr2, N13, e13⟩ := hQ13
    refine OwnGo.pre (fun t k => st13.trans k) ?_
    show OwnGo _ _ _ _ (T13.setTop (mkF m 106 #[sI p0, sI p1, sI p2, sI tv, sI fv, sI fn, sR a11, uU, uU, uU, uU, uU, uU] [(.double rr)]))
    have M13 := Fr.app N N13
    refine OwnGo.pre (fun t k => XS.dstore X13.here hx rfl (hb hby at_106) rfl (l' := #[sI p0, sI p1, sI p2, sI tv, sI fv, sI fn, sR a11, sD rr, uS, uU, uU, uU, uU]) rfl (XS.iloadN X13.here hx rfl (hb hby at_108) rfl (XS.iload X13.here hx rfl (hb hby at_109) rfl (own_iadd X13.here hx rfl (hb hby at_111) rfl rfl (XS.istore X13.here hx rfl (hb hby at_112) rfl (l' := #[sI p0, sI p1, sI p2, sI tv, sI fv, sI fn, sR a11, sD rr, uS, sI (tv + fv), uU, uU, uU]) rfl (XS.iload X13.here hx rfl (hb hby at_114) rfl k)))))) ?_
    show OwnGo _ _ _ _ (T13.setTop (mkF m 116 #[sI p0, sI p1, sI p2, sI tv, sI fv, sI fn, sR a11, sD rr, uS, sI (tv + fv), uU, uU, uU] [(.int (tv + fv))]))
    by_cases hz : tv + fv = 0
    · skip
      have er := hr1 hz
      refine OwnGo.pre (fun t k => XS.ifNo X13.here hx rfl (hb hby at_116) rfl (by rw [hz]; rfl) (XS.dload X13.here hx rfl (hb hby at_119) rfl (XS.dload X13.here hx rfl (hb hby at_121) rfl (XS.dcmpS X13.here hx rfl (hb hby at_123) rfl rfl (XS.ifNo X13.here hx rfl (hb hby at_124) rfl (by rw [er]; decide +kernel) (XS.iconst X13.here hx rfl (hb hby at_127) (XS.goto X13.here hx rfl (pc0 := 128) (pc' := 132) rfl (hb hby at_128) (by decide) (by decide) k))))))) ?_
      show OwnGo _ _ _ _ (T13.setTop (mkF m 132 #[sI p0, sI p1, sI p2, sI tv, sI fv, sI fn, sR a11, sD rr, uS, sI (tv + fv), uU, uU, uU] [(.int (1 : Int32))]))
      exact own_retZ X13 hx hk hrt (hb hby at_132) ⟨rfl, M13⟩ (by show _ + 0 ≤ 16; omega) (by show _ + 0 ≤ 128; omega)
    · skip
      have er := hr2 hz
      have nn : Jvm.Free.Fl.NoNaN64 (FP.ddiv (FP.i2d tv) (FP.i2d (tv + fv))) := Jvm.Free.Fl.ddiv_out (Jvm.Free.Fl.i2d_fin tv).noNaN (Jvm.Free.Fl.i2d_fin _) (Jvm.Free.Fl.i2d_nz hz)
      obtain ⟨b1, b2⟩ := own_pr ctp cfp hz
      obtain ⟨dx, hdx⟩ : ∃ v, FP.ddiv (FP.i2d tv) (FP.i2d (tv + fv)) = v := ⟨_, rfl⟩
      refine OwnGo.pre (fun t k => XS.ifYes X13.here hx rfl (pc0 := 116) (pc' := 133) rfl (hb hby at_116) rfl ((own_br0 .ne _).trans (decide_eq_true fun q => hz (Int32.toInt_inj.mp q))) (by decide) (by decide) (XS.iloadN X13.here hx rfl (hb hby at_133) rfl (XS.i2dS X13.here hx rfl (hb hby at_134) rfl rfl (XS.iload X13.here hx rfl (hb hby at_135) rfl (XS.i2dS X13.here hx rfl (hb hby at_137) rfl rfl (XS.ddivS X13.here hx rfl (hb hby at_138) rfl nn hdx (XS.dstore X13.here hx rfl (hb hby at_139) rfl (l' := #[sI p0, sI p1, sI p2, sI tv, sI fv, sI fn, sR a11, sD rr, uS, sI (tv + fv), sD dx, uS, uU]) rfl (XS.dload X13.here hx rfl (hb hby at_141) rfl k)))))))) ?_
      show OwnGo _ _ _ _ (T13.setTop (mkF m 143 #[sI p0, sI p1, sI p2, sI tv, sI fv, sI fn, sR a11, sD rr, uS, sI (tv + fv), sD dx, uS, uU] [(.double rr)]))
      refine OwnGo.pre (fun t k => XS.dconst0 X13.here hx rfl (hb hby at_143) rfl (XS.dcmpS X13.here hx rfl (hb hby at_144) rfl rfl (XS.ifNo X13.here hx rfl (hb hby at_145) rfl (by rw [er]; exact b1) (XS.dload X13.here hx rfl (hb hby at_148) rfl (XS.dconst1 X13.here hx rfl (hb hby at_150) rfl (XS.dcmpS X13.here hx rfl (hb hby at_151) rfl rfl (XS.ifNo X13.here hx rfl (hb hby at_152) rfl (by rw [er]; exact b2) (XS.dload X13.here hx rfl (hb hby at_155) rfl k)))))))) ?_
      show OwnGo _ _ _ _ (T13.setTop (mkF m 157 #[sI p0, sI p1, sI p2, sI tv, sI fv, sI fn, sR a11, sD rr, uS, sI (tv + fv), sD dx, uS, uU] [(.double rr)]))
      refine OwnGo.pre (fun t k => XS.dload X13.here hx rfl (hb hby at_157) rfl (XS.dcmpS X13.here hx rfl (hb hby at_159) rfl rfl (XS.ifNo X13.here hx rfl (hb hby at_160) rfl (by rw [er, dcmpV_self nn]; rfl) (XS.iconst X13.here hx rfl (hb hby at_163) (XS.goto X13.here hx rfl (pc0 := 164) (pc' := 168) rfl (hb hby at_164) (by decide) (by decide) (XS.istore X13.here hx rfl (hb hby at_168) rfl (l' := #[sI p0, sI p1, sI p2, sI tv, sI fv, sI fn, sR a11, sD rr, uS, sI (tv + fv), sD dx, uS, sI (1 : Int32)]) rfl (XS.iload X13.here hx rfl (hb hby at_170) rfl (XS.ifNo X13.here hx rfl (hb hby at_172) rfl (by decide) k)))))))) ?_
      show OwnGo _ _ _ _ (T13.setTop (mkF m 175 #[sI p0, sI p1, sI p2, sI tv, sI fv, sI fn, sR a11, sD rr, uS, sI (tv + fv), sD dx, uS, sI (1 : Int32)] []))
      refine OwnGo.pre (fun t k => XS.dload X13.here hx rfl (hb hby at_175) rfl (XS.dload X13.here hx rfl (hb hby at_177) rfl (XS.dcmpS X13.here hx rfl (hb hby at_179) rfl rfl (XS.ifNo X13.here hx rfl (hb hby at_180) rfl (by rw [er, ← hdx, dcmpV_self nn]; rfl) (XS.iconst X13.here hx rfl (hb hby at_183) (XS.goto X13.here hx rfl (pc0 := 184) (pc' := 188) rfl (hb hby at_184) (by decide) (by decide) k)))))) ?_
      show OwnGo _ _ _ _ (T13.setTop (mkF m 188 #[sI p0, sI p1, sI p2, sI tv, sI fv, sI fn, sR a11, sD rr, uS, sI (tv + fv), sD dx, uS, sI (1 : Int32)] [(.int (1 : Int32))]))
      exact own_retZ X13 hx hk hrt (hb hby at_188) ⟨rfl, M13⟩ (by show _ + 0 ≤ 16; omega) (by show _ + 0 ≤ 128; omega)
  have K90 : ∀ (T : State) (locs : List Loc) (cells slots : Nat) (tv fv nv : Int32), Stand p l e room_1 s m #[(.int p0), (.int p1), (.int p2)] below meth c T locs cells slots → Fr n0 locs → cells ≤ 1 → slots ≤ 3 → n0 ≤ T.heap.size → (OwnTA Z T.heap a11 tv fv nv) → (tv.toInt = min tp.toInt 3) → (fv.toInt = min fp.toInt 2) → OwnGo p.tables e below (OwnEnd s (Q_rmL Z p0 p1 p2 h0 n0) room_1.cells room_1.slots) (T.setTop (mkF m 90 #[sI p0, sI p1, sI p2, sI tp, sI fp, sI fn, sR a11, uU, uU, uU, uU, uU, uU] [])) := by
    intro T locs cells slots tv fv nv X N hcc hss hz0 O et ef
    show OwnGo _ _ _ _ (T.setTop (mkF m 90 #[sI p0, sI p1, sI p2, sI tp, sI fp, sI fn, sR a11, uU, uU, uU, uU, uU, uU] []))
    refine OwnGo.pre (fun t k => XS.iload X.here hx rfl (hb hby at_90) rfl (XS.iconst X.here hx rfl (hb hby at_92) k)) ?_
    show OwnGo _ _ _ _ (T.setTop (mkF m 93 #[sI p0, sI p1, sI p2, sI tp, sI fp, sI fn, sR a11, uU, uU, uU, uU, uU, uU] [(.int (3 : Int32)), (.int fp)]))
    by_cases hq : fp.toInt < 3
    · skip
      refine OwnGo.pre (fun t k => XS.icmpYes X.here hx rfl (pc0 := 93) (pc' := 101) rfl (hb hby at_93) rfl ((own_br2 .lt _ _).trans (decide_eq_true (by omega))) (by decide) (by decide) k) ?_
      show OwnGo _ _ _ _ (T.setTop (mkF m 101 #[sI p0, sI p1, sI p2, sI tp, sI fp, sI fn, sR a11, uU, uU, uU, uU, uU, uU] []))
      exact K101 _ _ _ _ tv fv nv X N (by omega) (by omega) hz0 O (Int32.toInt_inj.mp (by omega)) (Int32.toInt_inj.mp (by omega))
    · skip
      refine OwnGo.pre (fun t k => XS.icmpNo X.here hx rfl (hb hby at_93) rfl ((own_br2 .lt _ _).trans (decide_eq_false (by omega))) (XS.aload X.here hx rfl (hb hby at_96) rfl rfl k)) ?_
      show OwnGo _ _ _ _ (T.setTop (mkF m 98 #[sI p0, sI p1, sI p2, sI tp, sI fp, sI fn, sR a11, uU, uU, uU, uU, uU, uU] [(.ref a11)]))
      obtain ⟨cq14, kq14, qa14, qb14, qc14⟩ := isOf hZ rfl O.1
      obtain ⟨_, _, ⟨T14, L14, k14, n14⟩, -, X14, ⟨Lc14, hQ14, l14, y14, z14⟩, st14⟩ := X.virtualBack hx (y := (⟨"com/example/clausewright/clausewright/scoring/Tally", "addFalsePositive", "()V"⟩ : MethodName)) (z := (⟨"com/example/clausewright/clausewright/scoring/Tally", "addFalsePositive", "()V"⟩ : MethodName)) hown (mvT hZ (hw _ (List.mem_of_getElem? (i := 9) rfl))) (mvT hZ (hw _ (List.mem_of_getElem? (i := 10) rfl))) (notFace_of_selects (args := #[]) (mvT hZ (hw _ (List.mem_of_getElem? (i := 12) rfl)))) (mvT hZ (hw _ (List.mem_of_getElem? (i := 12) rfl))) (mvT hZ (hw _ (List.mem_of_getElem? (i := 11) rfl))) (by decide) (backOf (W := 0) (rmFP l Z a0 hw [] a11 tv fv nv T.heap n0 hz0 O G11) hZ (hw _ (List.mem_of_getElem? (i := 13) rfl)) (hw _ (List.mem_of_getElem? (i := 2) rfl)) (by decide) (by decide)) qa14 qc14 (g := (mkF m 98 #[sI p0, sI p1, sI p2, sI tp, sI fp, sI fn, sR a11, uU, uU, uU, uU, uU, uU] [(.ref a11)])) rfl (by rw [hml]; rfl) (Steps.refl _) (argsL := []) (rest := []) (lenOf pd_rmFP rfl) rfl (by show 2 * 0 + _ ≤ _; exact Nat.le_of_eq rfl) (hb hby at_98) (fun _ _ => ⟨rfl, rfl, (by show cells + 0 ≤ 16; omega), (by show slots + 0 ≤ 128; omega)⟩)
      dsimp only [Pt.U, Pt.locs, Pt.cells, Pt.slots] at X14 l14 y14 z14 st14 hQ14
      subst l14 y14 z14
      obtain ⟨rfl, N14, K14, O14⟩ := hQ14
      refine OwnGo.pre (fun t k => st14.trans k) ?_
      show OwnGo _ _ _ _ (T14.setTop (mkF m 101 #[sI p0, sI p1, sI p2, sI tp, sI fp, sI fn, sR a11, uU, uU, uU, uU, uU, uU] []))
      have M14 := Fr.app N N14
      have Z14 : n0 ≤ T14.heap.size := Nat.le_trans hz0 K14.1
      have ei : (fv + 1).toInt = fv.toInt + 1 := Jvm.Kit.i32_add (by omega) (by omega)
      exact K101 _ _ _ _ tv (fv + 1) nv X14 M14 (by show _ + 0 ≤ 1; omega) (by show _ + 0 ≤ 3; omega) Z14 O14 (Int32.toInt_inj.mp (by omega)) (Int32.toInt_inj.mp (by omega))
  have K79 : ∀ (T : State) (locs : List Loc) (cells slots : Nat) (tv fv nv : Int32), Stand p l e room_1 s m #[(.int p0), (.int p1), (.int p2)] below meth c T locs cells slots → Fr n0 locs → cells ≤ 1 → slots ≤ 3 → n0 ≤ T.heap.size → (OwnTA Z T.heap a11 tv fv nv) → (tv.toInt = min tp.toInt 2) → (fv.toInt = min fp.toInt 2) → OwnGo p.tables e below (OwnEnd s (Q_rmL Z p0 p1 p2 h0 n0) room_1.cells room_1.slots) (T.setTop (mkF m 79 #[sI p0, sI p1, sI p2, sI tp, sI fp, sI fn, sR a11, uU, uU, uU, uU, uU, uU] [])) := by
    intro T locs cells slots tv fv nv X N hcc hss hz0 O et ef
    show OwnGo _ _ _ _ (T.setTop (mkF m 79 #[sI p0, sI p1, sI p2, sI tp, sI fp, sI fn, sR a11, uU, uU, uU, uU, uU, uU] []))
    refine OwnGo.pre (fun t k => XS.iloadN X.here hx rfl (hb hby at_79) rfl (XS.iconst X.here hx rfl (hb hby at_80) k)) ?_
    show OwnGo _ _ _ _ (T.setTop (mkF m 81 #[sI p0, sI p1, sI p2, sI tp, sI fp, sI fn, sR a11, uU, uU, uU, uU, uU, uU] [(.int (3 : Int32)), (.int tp)]))
    by_cases hq : tp.toInt < 3
    · skip
      refine OwnGo.pre (fun t k => XS.icmpYes X.here hx rfl (pc0 := 81) (pc' := 90) rfl (hb hby at_81) rfl ((own_br2 .lt _ _).trans (decide_eq_true (by omega))) (by decide) (by decide) k) ?_
      show OwnGo _ _ _ _ (T.setTop (mkF m 90 #[sI p0, sI p1, sI p2, sI tp, sI fp, sI fn, sR a11, uU, uU, uU, uU, uU, uU] []))
      exact K90 _ _ _ _ tv fv nv X N (by omega) (by omega) hz0 O (by omega) (by omega)
    · skip
      refine OwnGo.pre (fun t k => XS.icmpNo X.here hx rfl (hb hby at_81) rfl ((own_br2 .lt _ _).trans (decide_eq_false (by omega))) (XS.aload X.here hx rfl (hb hby at_84) rfl rfl (XS.iconst X.here hx rfl (hb hby at_86) k))) ?_
      show OwnGo _ _ _ _ (T.setTop (mkF m 87 #[sI p0, sI p1, sI p2, sI tp, sI fp, sI fn, sR a11, uU, uU, uU, uU, uU, uU] [(.int (1 : Int32)), (.ref a11)]))
      obtain ⟨cq15, kq15, qa15, qb15, qc15⟩ := isOf hZ rfl O.1
      obtain ⟨_, _, ⟨T15, L15, k15, n15⟩, -, X15, ⟨Lc15, hQ15, l15, y15, z15⟩, st15⟩ := X.virtualBack hx (y := (⟨"com/example/clausewright/clausewright/scoring/Tally", "addAnswer", "(Z)V"⟩ : MethodName)) (z := (⟨"com/example/clausewright/clausewright/scoring/Tally", "addAnswer", "(Z)V"⟩ : MethodName)) hown (mvT hZ (hw _ (List.mem_of_getElem? (i := 23) rfl))) (mvT hZ (hw _ (List.mem_of_getElem? (i := 24) rfl))) (notFace_of_selects (args := #[]) (mvT hZ (hw _ (List.mem_of_getElem? (i := 26) rfl)))) (mvT hZ (hw _ (List.mem_of_getElem? (i := 26) rfl))) (mvT hZ (hw _ (List.mem_of_getElem? (i := 25) rfl))) (by decide) (backOf (W := 0) (rmA1 l Z a0 hw [] a11 tv fv nv T.heap n0 hz0 O G11) hZ (hw _ (List.mem_of_getElem? (i := 27) rfl)) (hw _ (List.mem_of_getElem? (i := 2) rfl)) (by decide) (by decide)) qa15 qc15 (g := (mkF m 87 #[sI p0, sI p1, sI p2, sI tp, sI fp, sI fn, sR a11, uU, uU, uU, uU, uU, uU] [(.int (1 : Int32)), (.ref a11)])) rfl (by rw [hml]; rfl) (Steps.refl _) (argsL := [(.int (1 : Int32))]) (rest := []) (lenOf pd_rmA1 rfl) rfl (by show 2 * 0 + _ ≤ _; exact Nat.le_of_eq rfl) (hb hby at_87) (fun _ _ => ⟨rfl, rfl, (by show cells + 0 ≤ 16; omega), (by show slots + 0 ≤ 128; omega)⟩)
      dsimp only [Pt.U, Pt.locs, Pt.cells, Pt.slots] at X15 l15 y15 z15 st15 hQ15
      subst l15 y15 z15
      obtain ⟨rfl, N15, K15, O15⟩ := hQ15
      refine OwnGo.pre (fun t k => st15.trans k) ?_
      show OwnGo _ _ _ _ (T15.setTop (mkF m 90 #[sI p0, sI p1, sI p2, sI tp, sI fp, sI fn, sR a11, uU, uU, uU, uU, uU, uU] []))
      have M15 := Fr.app N N15
      have Z15 : n0 ≤ T15.heap.size := Nat.le_trans hz0 K15.1
      have ei : (tv + 1).toInt = tv.toInt + 1 := Jvm.Kit.i32_add (by omega) (by omega)
      exact K90 _ _ _ _ (tv + 1) fv nv X15 M15 (by show _ + 0 ≤ 1; omega) (by show _ + 0 ≤ 3; omega) Z15 O15 (by omega) (by omega)
  have K68 : ∀ (T : State) (locs : List Loc) (cells slots : Nat) (tv fv nv : Int32), Stand p l e room_1 s m #[(.int p0), (.int p1), (.int p2)] below meth c T locs cells slots → Fr n0 locs → cells ≤ 1 → slots ≤ 3 → n0 ≤ T.heap.size → (OwnTA Z T.heap a11 tv fv nv) → (tv.toInt = min tp.toInt 2) → (fv.toInt = min fp.toInt 1) → OwnGo p.tables e below (OwnEnd s (Q_rmL Z p0 p1 p2 h0 n0) room_1.cells room_1.slots) (T.setTop (mkF m 68 #[sI p0, sI p1, sI p2, sI tp, sI fp, sI fn, sR a11, uU, uU, uU, uU, uU, uU] [])) := by
    intro T locs cells slots tv fv nv X N hcc hss hz0 O et ef
    show OwnGo _ _ _ _ (T.setTop (mkF m 68 #[sI p0, sI p1, sI p2, sI tp, sI fp, sI fn, sR a11, uU, uU, uU, uU, uU, uU] []))
    refine OwnGo.pre (fun t k => XS.iload X.here hx rfl (hb hby at_68) rfl (XS.iconst X.here hx rfl (hb hby at_70) k)) ?_
    show OwnGo _ _ _ _ (T.setTop (mkF m 71 #[sI p0, sI p1, sI p2, sI tp, sI fp, sI fn, sR a11, uU, uU, uU, uU, uU, uU] [(.int (2 : Int32)), (.int fp)]))
    by_cases hq : fp.toInt < 2
    · skip
      refine OwnGo.pre (fun t k => XS.icmpYes X.here hx rfl (pc0 := 71) (pc' := 79) rfl (hb hby at_71) rfl ((own_br2 .lt _ _).trans (decide_eq_true (by omega))) (by decide) (by decide) k) ?_
      show OwnGo _ _ _ _ (T.setTop (mkF m 79 #[sI p0, sI p1, sI p2, sI tp, sI fp, sI fn, sR a11, uU, uU, uU, uU, uU, uU] []))
      exact K79 _ _ _ _ tv fv nv X N (by omega) (by omega) hz0 O (by omega) (by omega)
    · skip
      refine OwnGo.pre (fun t k => XS.icmpNo X.here hx rfl (hb hby at_71) rfl ((own_br2 .lt _ _).trans (decide_eq_false (by omega))) (XS.aload X.here hx rfl (hb hby at_74) rfl rfl k)) ?_
      show OwnGo _ _ _ _ (T.setTop (mkF m 76 #[sI p0, sI p1, sI p2, sI tp, sI fp, sI fn, sR a11, uU, uU, uU, uU, uU, uU] [(.ref a11)]))
      obtain ⟨cq16, kq16, qa16, qb16, qc16⟩ := isOf hZ rfl O.1
      obtain ⟨_, _, ⟨T16, L16, k16, n16⟩, -, X16, ⟨Lc16, hQ16, l16, y16, z16⟩, st16⟩ := X.virtualBack hx (y := (⟨"com/example/clausewright/clausewright/scoring/Tally", "addFalsePositive", "()V"⟩ : MethodName)) (z := (⟨"com/example/clausewright/clausewright/scoring/Tally", "addFalsePositive", "()V"⟩ : MethodName)) hown (mvT hZ (hw _ (List.mem_of_getElem? (i := 9) rfl))) (mvT hZ (hw _ (List.mem_of_getElem? (i := 10) rfl))) (notFace_of_selects (args := #[]) (mvT hZ (hw _ (List.mem_of_getElem? (i := 12) rfl)))) (mvT hZ (hw _ (List.mem_of_getElem? (i := 12) rfl))) (mvT hZ (hw _ (List.mem_of_getElem? (i := 11) rfl))) (by decide) (backOf (W := 0) (rmFP l Z a0 hw [] a11 tv fv nv T.heap n0 hz0 O G11) hZ (hw _ (List.mem_of_getElem? (i := 13) rfl)) (hw _ (List.mem_of_getElem? (i := 2) rfl)) (by decide) (by decide)) qa16 qc16 (g := (mkF m 76 #[sI p0, sI p1, sI p2, sI tp, sI fp, sI fn, sR a11, uU, uU, uU, uU, uU, uU] [(.ref a11)])) rfl (by rw [hml]; rfl) (Steps.refl _) (argsL := []) (rest := []) (lenOf pd_rmFP rfl) rfl (by show 2 * 0 + _ ≤ _; exact Nat.le_of_eq rfl) (hb hby at_76) (fun _ _ => ⟨rfl, rfl, (by show cells + 0 ≤ 16; omega), (by show slots + 0 ≤ 128; omega)⟩)
      dsimp only [Pt.U, Pt.locs, Pt.cells, Pt.slots] at X16 l16 y16 z16 st16 hQ16
      subst l16 y16 z16
      obtain ⟨rfl, N16, K16, O16⟩ := hQ16
      refine OwnGo.pre (fun t k => st16.trans k) ?_
      show OwnGo _ _ _ _ (T16.setTop (mkF m 79 #[sI p0, sI p1, sI p2, sI tp, sI fp, sI fn, sR a11, uU, uU, uU, uU, uU, uU] []))
      have M16 := Fr.app N N16
      have Z16 : n0 ≤ T16.heap.size := Nat.le_trans hz0 K16.1
      have ei : (fv + 1).toInt = fv.toInt + 1 := Jvm.Kit.i32_add (by omega) (by omega)
      exact K79 _ _ _ _ tv (fv + 1) nv X16 M16 (by show _ + 0 ≤ 1; omega) (by show _ + 0 ≤ 3; omega) Z16 O16 (by omega) (by omega)
  have K57 : ∀ (T : State) (locs : List Loc) (cells slots : Nat) (tv fv nv : Int32), Stand p l e room_1 s m #[(.int p0), (.int p1), (.int p2)] below meth c T locs cells slots → Fr n0 locs → cells ≤ 1 → slots ≤ 3 → n0 ≤ T.heap.size → (OwnTA Z T.heap a11 tv fv nv) → (tv.toInt = min tp.toInt 1) → (fv.toInt = min fp.toInt 1) → OwnGo p.tables e below (OwnEnd s (Q_rmL Z p0 p1 p2 h0 n0) room_1.cells room_1.slots) (T.setTop (mkF m 57 #[sI p0, sI p1, sI p2, sI tp, sI fp, sI fn, sR a11, uU, uU, uU, uU, uU, uU] [])) := by
    intro T locs cells slots tv fv nv X N hcc hss hz0 O et ef
    show OwnGo _ _ _ _ (T.setTop (mkF m 57 #[sI p0, sI p1, sI p2, sI tp, sI fp, sI fn, sR a11, uU, uU, uU, uU, uU, uU] []))
    refine OwnGo.pre (fun t k => XS.iloadN X.here hx rfl (hb hby at_57) rfl (XS.iconst X.here hx rfl (hb hby at_58) k)) ?_
    show OwnGo _ _ _ _ (T.setTop (mkF m 59 #[sI p0, sI p1, sI p2, sI tp, sI fp, sI fn, sR a11, uU, uU, uU, uU, uU, uU] [(.int (2 : Int32)), (.int tp)]))
    by_cases hq : tp.toInt < 2
    · skip
      refine OwnGo.pre (fun t k => XS.icmpYes X.here hx rfl (pc0 := 59) (pc' := 68) rfl (hb hby at_59) rfl ((own_br2 .lt _ _).trans (decide_eq_true (by omega))) (by decide) (by decide) k) ?_
      show OwnGo _ _ _ _ (T.setTop (mkF m 68 #[sI p0, sI p1, sI p2, sI tp, sI fp, sI fn, sR a11, uU, uU, uU, uU, uU, uU] []))
      exact K68 _ _ _ _ tv fv nv X N (by omega) (by omega) hz0 O (by omega) (by omega)
    · skip
      refine OwnGo.pre (fun t k => XS.icmpNo X.here hx rfl (hb hby at_59) rfl ((own_br2 .lt _ _).trans (decide_eq_false (by omega))) (XS.aload X.here hx rfl (hb hby at_62) rfl rfl (XS.iconst X.here hx rfl (hb hby at_64) k))) ?_
      show OwnGo _ _ _ _ (T.setTop (mkF m 65 #[sI p0, sI p1, sI p2, sI tp, sI fp, sI fn, sR a11, uU, uU, uU, uU, uU, uU] [(.int (1 : Int32)), (.ref a11)]))
      obtain ⟨cq17, kq17, qa17, qb17, qc17⟩ := isOf hZ rfl O.1
      obtain ⟨_, _, ⟨T17, L17, k17, n17⟩, -, X17, ⟨Lc17, hQ17, l17, y17, z17⟩, st17⟩ := X.virtualBack hx (y := (⟨"com/example/clausewright/clausewright/scoring/Tally", "addAnswer", "(Z)V"⟩ : MethodName)) (z := (⟨"com/example/clausewright/clausewright/scoring/Tally", "addAnswer", "(Z)V"⟩ : MethodName)) hown (mvT hZ (hw _ (List.mem_of_getElem? (i := 23) rfl))) (mvT hZ (hw _ (List.mem_of_getElem? (i := 24) rfl))) (notFace_of_selects (args := #[]) (mvT hZ (hw _ (List.mem_of_getElem? (i := 26) rfl)))) (mvT hZ (hw _ (List.mem_of_getElem? (i := 26) rfl))) (mvT hZ (hw _ (List.mem_of_getElem? (i := 25) rfl))) (by decide) (backOf (W := 0) (rmA1 l Z a0 hw [] a11 tv fv nv T.heap n0 hz0 O G11) hZ (hw _ (List.mem_of_getElem? (i := 27) rfl)) (hw _ (List.mem_of_getElem? (i := 2) rfl)) (by decide) (by decide)) qa17 qc17 (g := (mkF m 65 #[sI p0, sI p1, sI p2, sI tp, sI fp, sI fn, sR a11, uU, uU, uU, uU, uU, uU] [(.int (1 : Int32)), (.ref a11)])) rfl (by rw [hml]; rfl) (Steps.refl _) (argsL := [(.int (1 : Int32))]) (rest := []) (lenOf pd_rmA1 rfl) rfl (by show 2 * 0 + _ ≤ _; exact Nat.le_of_eq rfl) (hb hby at_65) (fun _ _ => ⟨rfl, rfl, (by show cells + 0 ≤ 16; omega), (by show slots + 0 ≤ 128; omega)⟩)
      dsimp only [Pt.U, Pt.locs, Pt.cells, Pt.slots] at X17 l17 y17 z17 st17 hQ17
      subst l17 y17 z17
      obtain ⟨rfl, N17, K17, O17⟩ := hQ17
      refine OwnGo.pre (fun t k => st17.trans k) ?_
      show OwnGo _ _ _ _ (T17.setTop (mkF m 68 #[sI p0, sI p1, sI p2, sI tp, sI fp, sI fn, sR a11, uU, uU, uU, uU, uU, uU] []))
      have M17 := Fr.app N N17
      have Z17 : n0 ≤ T17.heap.size := Nat.le_trans hz0 K17.1
      have ei : (tv + 1).toInt = tv.toInt + 1 := Jvm.Kit.i32_add (by omega) (by omega)
      exact K68 _ _ _ _ (tv + 1) fv nv X17 M17 (by show _ + 0 ≤ 1; omega) (by show _ + 0 ≤ 3; omega) Z17 O17 (by omega) (by omega)
  have K46 : ∀ (T : State) (locs : List Loc) (cells slots : Nat) (tv fv nv : Int32), Stand p l e room_1 s m #[(.int p0), (.int p1), (.int p2)] below meth c T locs cells slots → Fr n0 locs → cells ≤ 1 → slots ≤ 3 → n0 ≤ T.heap.size → (OwnTA Z T.heap a11 tv fv nv) → (tv.toInt = min tp.toInt 1) → (fv.toInt = min fp.toInt 0) → OwnGo p.tables e below (OwnEnd s (Q_rmL Z p0 p1 p2 h0 n0) room_1.cells room_1.slots) (T.setTop (mkF m 46 #[sI p0, sI p1, sI p2, sI tp, sI fp, sI fn, sR a11, uU, uU, uU, uU, uU, uU] [])) := by
    intro T locs cells slots tv fv nv X N hcc hss hz0 O et ef
    show OwnGo _ _ _ _ (T.setTop (mkF m 46 #[sI p0, sI p1, sI p2, sI tp, sI fp, sI fn, sR a11, uU, uU, uU, uU, uU, uU] []))
    refine OwnGo.pre (fun t k => XS.iload X.here hx rfl (hb hby at_46) rfl (XS.iconst X.here hx rfl (hb hby at_48) k)) ?_
    show OwnGo _ _ _ _ (T.setTop (mkF m 49 #[sI p0, sI p1, sI p2, sI tp, sI fp, sI fn, sR a11, uU, uU, uU, uU, uU, uU] [(.int (1 : Int32)), (.int fp)]))
    by_cases hq : fp.toInt < 1
    · skip
      refine OwnGo.pre (fun t k => XS.icmpYes X.here hx rfl (pc0 := 49) (pc' := 57) rfl (hb hby at_49) rfl ((own_br2 .lt _ _).trans (decide_eq_true (by omega))) (by decide) (by decide) k) ?_
      show OwnGo _ _ _ _ (T.setTop (mkF m 57 #[sI p0, sI p1, sI p2, sI tp, sI fp, sI fn, sR a11, uU, uU, uU, uU, uU, uU] []))
      exact K57 _ _ _ _ tv fv nv X N (by omega) (by omega) hz0 O (by omega) (by omega)
    · skip
      refine OwnGo.pre (fun t k => XS.icmpNo X.here hx rfl (hb hby at_49) rfl ((own_br2 .lt _ _).trans (decide_eq_false (by omega))) (XS.aload X.here hx rfl (hb hby at_52) rfl rfl k)) ?_
      show OwnGo _ _ _ _ (T.setTop (mkF m 54 #[sI p0, sI p1, sI p2, sI tp, sI fp, sI fn, sR a11, uU, uU, uU, uU, uU, uU] [(.ref a11)]))
      obtain ⟨cq18, kq18, qa18, qb18, qc18⟩ := isOf hZ rfl O.1
      obtain ⟨_, _, ⟨T18, L18, k18, n18⟩, -, X18, ⟨Lc18, hQ18, l18, y18, z18⟩, st18⟩ := X.virtualBack hx (y := (⟨"com/example/clausewright/clausewright/scoring/Tally", "addFalsePositive", "()V"⟩ : MethodName)) (z := (⟨"com/example/clausewright/clausewright/scoring/Tally", "addFalsePositive", "()V"⟩ : MethodName)) hown (mvT hZ (hw _ (List.mem_of_getElem? (i := 9) rfl))) (mvT hZ (hw _ (List.mem_of_getElem? (i := 10) rfl))) (notFace_of_selects (args := #[]) (mvT hZ (hw _ (List.mem_of_getElem? (i := 12) rfl)))) (mvT hZ (hw _ (List.mem_of_getElem? (i := 12) rfl))) (mvT hZ (hw _ (List.mem_of_getElem? (i := 11) rfl))) (by decide) (backOf (W := 0) (rmFP l Z a0 hw [] a11 tv fv nv T.heap n0 hz0 O G11) hZ (hw _ (List.mem_of_getElem? (i := 13) rfl)) (hw _ (List.mem_of_getElem? (i := 2) rfl)) (by decide) (by decide)) qa18 qc18 (g := (mkF m 54 #[sI p0, sI p1, sI p2, sI tp, sI fp, sI fn, sR a11, uU, uU, uU, uU, uU, uU] [(.ref a11)])) rfl (by rw [hml]; rfl) (Steps.refl _) (argsL := []) (rest := []) (lenOf pd_rmFP rfl) rfl (by show 2 * 0 + _ ≤ _; exact Nat.le_of_eq rfl) (hb hby at_54) (fun _ _ => ⟨rfl, rfl, (by show cells + 0 ≤ 16; omega), (by show slots + 0 ≤ 128; omega)⟩)
      dsimp only [Pt.U, Pt.locs, Pt.cells, Pt.slots] at X18 l18 y18 z18 st18 hQ18
      subst l18 y18 z18
      obtain ⟨rfl, N18, K18, O18⟩ := hQ18
      refine OwnGo.pre (fun t k => st18.trans k) ?_
      show OwnGo _ _ _ _ (T18.setTop (mkF m 57 #[sI p0, sI p1, sI p2, sI tp, sI fp, sI fn, sR a11, uU, uU, uU, uU, uU, uU] []))
      have M18 := Fr.app N N18
      have Z18 : n0 ≤ T18.heap.size := Nat.le_trans hz0 K18.1
      have ei : (fv + 1).toInt = fv.toInt + 1 := Jvm.Kit.i32_add (by omega) (by omega)
      exact K57 _ _ _ _ tv (fv + 1) nv X18 M18 (by show _ + 0 ≤ 1; omega) (by show _ + 0 ≤ 3; omega) Z18 O18 (by omega) (by omega)
  have K35 : ∀ (T : State) (locs : List Loc) (cells slots : Nat) (tv fv nv : Int32), Stand p l e room_1 s m #[(.int p0), (.int p1), (.int p2)] below meth c T locs cells slots → Fr n0 locs → cells ≤ 1 → slots ≤ 3 → n0 ≤ T.heap.size → (OwnTA Z T.heap a11 tv fv nv) → (tv.toInt = min tp.toInt 0) → (fv.toInt = min fp.toInt 0) → OwnGo p.tables e below (OwnEnd s (Q_rmL Z p0 p1 p2 h0 n0) room_1.cells room_1.slots) (T.setTop (mkF m 35 #[sI p0, sI p1, sI p2, sI tp, sI fp, sI fn, sR a11, uU, uU, uU, uU, uU, uU] [])) := by
    intro T locs cells slots tv fv nv X N hcc hss hz0 O et ef
    show OwnGo _ _ _ _ (T.setTop (mkF m 35 #[sI p0, sI p1, sI p2, sI tp, sI fp, sI fn, sR a11, uU, uU, uU, uU, uU, uU] []))
    refine OwnGo.pre (fun t k => XS.iloadN X.here hx rfl (hb hby at_35) rfl (XS.iconst X.here hx rfl (hb hby at_36) k)) ?_
    show OwnGo _ _ _ _ (T.setTop (mkF m 37 #[sI p0, sI p1, sI p2, sI tp, sI fp, sI fn, sR a11, uU, uU, uU, uU, uU, uU] [(.int (1 : Int32)), (.int tp)]))
    by_cases hq : tp.toInt < 1
    · skip
      refine OwnGo.pre (fun t k => XS.icmpYes X.here hx rfl (pc0 := 37) (pc' := 46) rfl (hb hby at_37) rfl ((own_br2 .lt _ _).trans (decide_eq_true (by omega))) (by decide) (by decide) k) ?_
      show OwnGo _ _ _ _ (T.setTop (mkF m 46 #[sI p0, sI p1, sI p2, sI tp, sI fp, sI fn, sR a11, uU, uU, uU, uU, uU, uU] []))
      exact K46 _ _ _ _ tv fv nv X N (by omega) (by omega) hz0 O (by omega) (by omega)
    · skip
      refine OwnGo.pre (fun t k => XS.icmpNo X.here hx rfl (hb hby at_37) rfl ((own_br2 .lt _ _).trans (decide_eq_false (by omega))) (XS.aload X.here hx rfl (hb hby at_40) rfl rfl (XS.iconst X.here hx rfl (hb hby at_42) k))) ?_
      show OwnGo _ _ _ _ (T.setTop (mkF m 43 #[sI p0, sI p1, sI p2, sI tp, sI fp, sI fn, sR a11, uU, uU, uU, uU, uU, uU] [(.int (1 : Int32)), (.ref a11)]))
      obtain ⟨cq19, kq19, qa19, qb19, qc19⟩ := isOf hZ rfl O.1
      obtain ⟨_, _, ⟨T19, L19, k19, n19⟩, -, X19, ⟨Lc19, hQ19, l19, y19, z19⟩, st19⟩ := X.virtualBack hx (y := (⟨"com/example/clausewright/clausewright/scoring/Tally", "addAnswer", "(Z)V"⟩ : MethodName)) (z := (⟨"com/example/clausewright/clausewright/scoring/Tally", "addAnswer", "(Z)V"⟩ : MethodName)) hown (mvT hZ (hw _ (List.mem_of_getElem? (i := 23) rfl))) (mvT hZ (hw _ (List.mem_of_getElem? (i := 24) rfl))) (notFace_of_selects (args := #[]) (mvT hZ (hw _ (List.mem_of_getElem? (i := 26) rfl)))) (mvT hZ (hw _ (List.mem_of_getElem? (i := 26) rfl))) (mvT hZ (hw _ (List.mem_of_getElem? (i := 25) rfl))) (by decide) (backOf (W := 0) (rmA1 l Z a0 hw [] a11 tv fv nv T.heap n0 hz0 O G11) hZ (hw _ (List.mem_of_getElem? (i := 27) rfl)) (hw _ (List.mem_of_getElem? (i := 2) rfl)) (by decide) (by decide)) qa19 qc19 (g := (mkF m 43 #[sI p0, sI p1, sI p2, sI tp, sI fp, sI fn, sR a11, uU, uU, uU, uU, uU, uU] [(.int (1 : Int32)), (.ref a11)])) rfl (by rw [hml]; rfl) (Steps.refl _) (argsL := [(.int (1 : Int32))]) (rest := []) (lenOf pd_rmA1 rfl) rfl (by show 2 * 0 + _ ≤ _; exact Nat.le_of_eq rfl) (hb hby at_43) (fun _ _ => ⟨rfl, rfl, (by show cells + 0 ≤ 16; omega), (by show slots + 0 ≤ 128; omega)⟩)
      dsimp only [Pt.U, Pt.locs, Pt.cells, Pt.slots] at X19 l19 y19 z19 st19 hQ19
      subst l19 y19 z19
      obtain ⟨rfl, N19, K19, O19⟩ := hQ19
      refine OwnGo.pre (fun t k => st19.trans k) ?_
      show OwnGo _ _ _ _ (T19.setTop (mkF m 46 #[sI p0, sI p1, sI p2, sI tp, sI fp, sI fn, sR a11, uU, uU, uU, uU, uU, uU] []))
      have M19 := Fr.app N N19
      have Z19 : n0 ≤ T19.heap.size := Nat.le_trans hz0 K19.1
      have ei : (tv + 1).toInt = tv.toInt + 1 := Jvm.Kit.i32_add (by omega) (by omega)
      exact K46 _ _ _ _ (tv + 1) fv nv X19 M19 (by show _ + 0 ≤ 1; omega) (by show _ + 0 ≤ 3; omega) Z19 O19 (by omega) (by omega)
  show OwnGo _ _ _ _ (T12.setTop (mkF m 26 #[sI p0, sI p1, sI p2, sI tp, sI fp, sI fn, sR a11, uU, uU, uU, uU, uU, uU] [(.int (1 : Int32)), (.int fn)]))
  by_cases hq : fn.toInt < 1
  · skip
    rw [← e12] at O0 Z11
    refine OwnGo.pre (fun t k => XS.icmpYes X12.here hx rfl (pc0 := 26) (pc' := 35) rfl (hb hby at_26) rfl ((own_br2 .lt _ _).trans (decide_eq_true (by omega))) (by decide) (by decide) k) ?_
    show OwnGo _ _ _ _ (T12.setTop (mkF m 35 #[sI p0, sI p1, sI p2, sI tp, sI fp, sI fn, sR a11, uU, uU, uU, uU, uU, uU] []))
    exact K35 _ _ _ _ 0 0 0 X12 M12 (by decide) (by decide) Z11 O0 (by omega) (by omega)
  · skip
    refine OwnGo.pre (fun t k => XS.icmpNo X12.here hx rfl (hb hby at_26) rfl ((own_br2 .lt _ _).trans (decide_eq_false (by omega))) (XS.aload X12.here hx rfl (hb hby at_29) rfl rfl (XS.iconst X12.here hx rfl (hb hby at_31) k))) ?_
    show OwnGo _ _ _ _ (T12.setTop (mkF m 32 #[sI p0, sI p1, sI p2, sI tp, sI fp, sI fn, sR a11, uU, uU, uU, uU, uU, uU] [(.int (0 : Int32)), (.ref a11)]))
    obtain ⟨cq20, kq20, qa20, qb20, qc20⟩ := isOf hZ e12 O0.1
    obtain ⟨_, _, ⟨T20, L20, k20, n20⟩, -, X20, ⟨Lc20, hQ20, l20, y20, z20⟩, st20⟩ := X12.virtualBack hx (y := (⟨"com/example/clausewright/clausewright/scoring/Tally", "addAnswer", "(Z)V"⟩ : MethodName)) (z := (⟨"com/example/clausewright/clausewright/scoring/Tally", "addAnswer", "(Z)V"⟩ : MethodName)) hown (mvT hZ (hw _ (List.mem_of_getElem? (i := 23) rfl))) (mvT hZ (hw _ (List.mem_of_getElem? (i := 24) rfl))) (notFace_of_selects (args := #[]) (mvT hZ (hw _ (List.mem_of_getElem? (i := 26) rfl)))) (mvT hZ (hw _ (List.mem_of_getElem? (i := 26) rfl))) (mvT hZ (hw _ (List.mem_of_getElem? (i := 25) rfl))) (by decide) (backOf (W := 0) (rmA0 l Z a0 hw [] a11 0 0 0 h11 n0 Z11 O0 G11) hZ (hw _ (List.mem_of_getElem? (i := 27) rfl)) (hw _ (List.mem_of_getElem? (i := 2) rfl)) (by decide) (by decide)) qa20 qc20 (g := (mkF m 32 #[sI p0, sI p1, sI p2, sI tp, sI fp, sI fn, sR a11, uU, uU, uU, uU, uU, uU] [(.int (0 : Int32)), (.ref a11)])) rfl (by rw [hml]; rfl) (Steps.refl _) (argsL := [(.int (0 : Int32))]) (rest := []) (lenOf pd_rmA0 rfl) rfl (by show 2 * 0 + _ ≤ _; exact Nat.le_of_eq rfl) (hb hby at_32) (fun _ _ => ⟨rfl, e12, (by decide : 1 + 0 ≤ _), (by decide : 3 + 0 ≤ _)⟩)
    dsimp only [Pt.U, Pt.locs, Pt.cells, Pt.slots] at X20 l20 y20 z20 st20 hQ20
    subst l20 y20 z20
    obtain ⟨rfl, N20, K20, O20⟩ := hQ20
    refine OwnGo.pre (fun t k => st20.trans k) ?_
    show OwnGo _ _ _ _ (T20.setTop (mkF m 35 #[sI p0, sI p1, sI p2, sI tp, sI fp, sI fn, sR a11, uU, uU, uU, uU, uU, uU] []))
    have M20 := Fr.app M12 N20
    have Z20 : n0 ≤ T20.heap.size := Nat.le_trans Z11 K20.1
    exact K35 _ _ _ _ 0 0 (0 + 1) X20 M20 (by decide) (by decide) Z20 O20 (by omega) (by omega)
set_option maxRecDepth 65536 in
set_option maxHeartbeats 40000000 in
theorem comes_1 {Post : Tables → Env → Array Value → State → Outcome → State → Prop} (hpost : ∀ tb e args s v u, (limb_1_1.after args s (.returned v) u = true ∧ limb_1_2.after args s (.returned v) u = true ∧ True) → FrameEnd s (.returned v) u (Jvm.fieldLocs frame_1_writes args s ++ Jvm.arrayLocs frame_1_arrays args s ++ Jvm.staticLocs frame_1_statics s) 16 128 → Post tb e args s (.returned v) u) :
    ArmFor flags0 classFile x code maxLocals ret World_1 tables_1 room_1 Calls_1 rest_1 Pre_1 Post := by
  intro l hfl _ _ p e ha hc hk s m args below hf hA hF happ hP
  obtain ⟨hcalls, hrest, hpre⟩ := hP
  obtain ⟨-, -, -, hnamed, -, -, -, hat⟩ := (Spec.applies_iff hf).mp happ
  obtain ⟨hg, hn⟩ := and_e (Cond.before_iff.mp (show (Jvm.Cond.and given_1 narrow_1).before args s = true from hpre))
  obtain ⟨hcnt, q0⟩ := and_e hg
  obtain ⟨b0, q1⟩ := and_e q0
  obtain ⟨b1, q2⟩ := and_e q1
  have b2 := q2
  obtain ⟨w0, w1, w2, rfl⟩ : ∃ w0 w1 w2 : Value, args = #[w0, w1, w2] := by
    have hs : args.size = 3 := by simpa [Cond.value, given_1] using hcnt
    obtain ⟨L⟩ := args
    match L, hs with
    | [w0, w1, w2], _ => exact ⟨w0, w1, w2, rfl⟩
  have hw := fun d (hd : d ∈ tables_1) => atoms_spec (ws := Jvm.Cond.code x code maxLocals ret :: tables_1) hat d (List.mem_cons_of_mem _ hd)
  have hfit : Fit s := fun {y c} hc i hi => by
    obtain ⟨ha, rfl⟩ := Array.getElem?_eq_some_iff.mp hc
    have q := List.all_eq_true.mp ((Array.all_eq_true_iff_forall_mem.mp hF) _ (Array.getElem_mem ha)) i (List.mem_range.mpr hi)
    simpa [Array.getElem?_eq_getElem hi] using q
  obtain ⟨i0, ei0⟩ := is_v b0
  obtain rfl : w0 = (.int i0) := Option.some.inj ei0
  obtain ⟨i1, ei1⟩ := is_v b1
  obtain rfl : w1 = (.int i1) := Option.some.inj ei1
  obtain ⟨i2, ei2⟩ := is_v b2
  obtain rfl : w2 = (.int i2) := Option.some.inj ei2
  obtain ⟨n, o, h1, h2, h3, _, L, rfl, ⟨rfl, N⟩, hq⟩ := rmL l s _ hw tables_1 i0 i1 i2  s.heap s.heap.size (Nat.le_refl _)  p e ha hc hk s m _ below hf ((Spec.applies_iff_loose hf).mp happ).1 ⟨rfl, State.Warmed39.refl s, rfl⟩ trivial
  refine ⟨n, _, h1, h2, h3, hpost _ _ _ _ _ _ ⟨Cond.after_iff.mpr rfl, Cond.after_iff.mpr (eq_i res_at (Term.int_eval (1)) rfl), trivial⟩ ⟨hq.1, hq.2.1, (hq.2.2.sift fun y hy => Or.inr (N y hy)).mono (by decide) (by decide)⟩⟩
theorem main_1_1 : Claimed_1_1 := comes_1 fun _ _ _ _ _ _ h hF => ⟨h.1, hF⟩
theorem main_1_2 : Claimed_1_2 := comes_1 fun _ _ _ _ _ _ h hF => ⟨h.2.1, hF⟩
end Jvm.Pilot.@@N@@
namespace Jvm.Pilot.@@N@@
open Jvm Jvm.ClassFile Sem Op Lib Jvm.Free Jvm.Stand Jvm.Pilot.@@N@@.Jvm.D
/-! MADE BY PROGRAM (witnessworld.py) out of the Statement's table words and the real class files: 9 classes; the members and pool entries that the words name. The judged class is class 1, her method 1. -/
namespace start1
open Jvm.ClassFile
def u (s : String) : CpInfo := .utf8 (stringToUtf16 s)
/-- a pool by its gaps: so many unusable entries, then the entry; so many at the end -/
def gap : Nat → List CpInfo → List CpInfo
  | 0, r => r
  | n + 1, r => .unusable :: gap n r
def poolList (es : List (Nat × CpInfo)) (last : Nat) : List CpInfo := es.foldr (fun e r => gap e.1 (e.2 :: r)) (gap last [])
def pool (es : List (Nat × CpInfo)) (last : Nat) : Array CpInfo := ⟨poolList es last⟩
def fileOf (pool : Array CpInfo) (this : Nat) (attrs : Array Attribute := #[]) (ms : Array MethodInfo := #[]) (fl : Nat := 33) (sup : Nat := 0) (ifs : Array Nat := #[]) (fds : Array FieldInfo := #[]) : ClassFile where
  minorVersion := 0
  majorVersion := 65
  constantPool := pool
  accessFlags := fl
  thisClass := this
  superClass := sup
  interfaces := ifs
  fields := fds
  methods := ms
  attributes := attrs
def plain (name : String) (sup : Option ClassId) : Class where
  name := name
  kind := .ordinary
  loader := none
  accessFlags := 33
  super := sup
  interfaces := #[]
  cf := none
  fields := #[]
  methods := #[]
  instanceTypes := #[]
  staticTypes := #[]
  resolved := #[]
  callSites := []
  init := .initialized
  statics := none
  mirror := none

def pool0 : Array CpInfo := pool [(5, u "<init>"), (0, u "()V"), (1, .class_ 10), (1, u "java/lang/Object")] 113

def k0c0 : Code := { maxStack := 0, maxLocals := 1, code := object_method_1_code, exceptionTable := #[], attributes := #[] }
def k0m0 : Method := { name := "<init>", desc := "()V", sig := { parameters := [], returnType := none }, accessFlags := 1, code := some k0c0 }
/-- java/lang/Object -/
def k0 : Class := { plain "java/lang/Object" none with
  accessFlags := 33
  interfaces := #[]
  cf := some (fileOf pool0 8 #[] #[{ accessFlags := 1, nameIndex := 5, descriptorIndex := 6, attributes := #[] }] 33 0 #[] #[])
  fields := #[]
  methods := #[k0m0]
  instanceTypes := #[]
  staticTypes := #[]
  resolved := Array.replicate 124 none
  statics := none }

def pool1 : Array CpInfo := pool [(2, .class_ 4), (0, .nameAndType 5 6), (0, u "java/lang/Object"), (0, u "<init>"), (0, u "()V"), (0, .class_ 8), (0, u "com/example/clausewright/clausewright/scoring/Tally"), (0, .methodref 7 3), (0, .methodref 7 11), (0, .nameAndType 12 13), (0, u "addAnswer"), (0, u "(Z)V"), (0, .methodref 7 15), (0, .nameAndType 16 6), (0, u "addFalsePositive"), (0, .methodref 7 18), (0, .nameAndType 19 20), (0, u "precision"), (0, u "()D"), (0, .class_ 22), (0, u "com/example/clausewright/clausewright/scoring/TallyPrecisionPinLaw"), (2, u "law"), (0, u "(III)Z")] 3

def k1m0 : Method := { name := "<init>", desc := "()V", sig := { parameters := [], returnType := none }, accessFlags := 1, code := none }
def k1c1 : Code := { maxStack := 4, maxLocals := 13, code := code, exceptionTable := #[], attributes := #[] }
def k1m1 : Method := { name := "law", desc := "(III)Z", sig := { parameters := [.int, .int, .int], returnType := some .boolean }, accessFlags := 9, code := some k1c1 }
/-- com/example/clausewright/clausewright/scoring/TallyPrecisionPinLaw -/
def k1 : Class := { plain "com/example/clausewright/clausewright/scoring/TallyPrecisionPinLaw" (some 0) with
  accessFlags := 49
  interfaces := #[]
  cf := some (fileOf pool1 21 #[] #[{ accessFlags := 1, nameIndex := 5, descriptorIndex := 6, attributes := #[] }, { accessFlags := 9, nameIndex := 25, descriptorIndex := 26, attributes := #[] }] 49 2 #[] #[])
  fields := #[]
  methods := #[k1m0, k1m1]
  instanceTypes := #[]
  staticTypes := #[]
  resolved := Array.replicate 30 none
  statics := none }

def pool2 : Array CpInfo := pool [(1, .methodref 2 3), (0, .class_ 4), (0, .nameAndType 5 6), (0, u "java/lang/Object"), (0, u "<init>"), (0, u "()V"), (0, .fieldref 8 9), (0, .class_ 10), (0, .nameAndType 11 12), (0, u "com/example/clausewright/clausewright/scoring/Tally"), (0, u "truePositives"), (0, u "I"), (0, .fieldref 8 14), (0, .nameAndType 15 12), (0, u "falseNegatives"), (0, .fieldref 8 17), (0, .nameAndType 18 12), (0, u "falsePositives"), (2, .double 9221120237041090560), (3, u "addAnswer"), (0, u "(Z)V"), (1, u "addFalsePositive"), (0, u "precision"), (0, u "()D")] 3

def k2c0 : Code := { maxStack := 1, maxLocals := 1, code := prog_53_method_1_code, exceptionTable := #[], attributes := #[] }
def k2m0 : Method := { name := "<init>", desc := "()V", sig := { parameters := [], returnType := none }, accessFlags := 0, code := some k2c0 }
def k2c1 : Code := { maxStack := 3, maxLocals := 2, code := prog_53_method_2_code, exceptionTable := #[], attributes := #[] }
def k2m1 : Method := { name := "addAnswer", desc := "(Z)V", sig := { parameters := [.boolean], returnType := none }, accessFlags := 0, code := some k2c1 }
def k2c2 : Code := { maxStack := 3, maxLocals := 1, code := prog_53_method_3_code, exceptionTable := #[], attributes := #[] }
def k2m2 : Method := { name := "addFalsePositive", desc := "()V", sig := { parameters := [], returnType := none }, accessFlags := 0, code := some k2c2 }
def k2c3 : Code := { maxStack := 4, maxLocals := 2, code := prog_53_method_4_code, exceptionTable := #[], attributes := #[] }
def k2m3 : Method := { name := "precision", desc := "()D", sig := { parameters := [], returnType := some .double }, accessFlags := 0, code := some k2c3 }
/-- com/example/clausewright/clausewright/scoring/Tally -/
def k2 : Class := { plain "com/example/clausewright/clausewright/scoring/Tally" (some 0) with
  accessFlags := 32
  interfaces := #[]
  cf := some (fileOf pool2 8 #[] #[{ accessFlags := 0, nameIndex := 5, descriptorIndex := 6, attributes := #[] }, { accessFlags := 0, nameIndex := 25, descriptorIndex := 26, attributes := #[] }, { accessFlags := 0, nameIndex := 28, descriptorIndex := 6, attributes := #[] }, { accessFlags := 0, nameIndex := 29, descriptorIndex := 30, attributes := #[] }] 32 2 #[] #[{ accessFlags := 2, nameIndex := 11, descriptorIndex := 12, attributes := #[] }, { accessFlags := 2, nameIndex := 18, descriptorIndex := 12, attributes := #[] }, { accessFlags := 2, nameIndex := 15, descriptorIndex := 12, attributes := #[] }])
  fields := #[{ name := "truePositives", type := .int, accessFlags := 2, slot := 0, constantValue := 0 }, { name := "falsePositives", type := .int, accessFlags := 2, slot := 1, constantValue := 0 }, { name := "falseNegatives", type := .int, accessFlags := 2, slot := 2, constantValue := 0 }]
  methods := #[k2m0, k2m1, k2m2, k2m3]
  instanceTypes := #[.int, .int, .int]
  staticTypes := #[]
  resolved := Array.replicate 34 none
  statics := none }

def pool3 : Array CpInfo := pool [(1, u "java/lang/Cloneable"), (0, .class_ 1), (0, u "java/lang/Object"), (0, .class_ 3)] 3

/-- java/lang/Cloneable -/
def k3 : Class := { plain "java/lang/Cloneable" (some 0) with
  accessFlags := 1537
  interfaces := #[]
  cf := some (fileOf pool3 2 #[] #[] 1537 4 #[] #[])
  fields := #[]
  methods := #[]
  instanceTypes := #[]
  staticTypes := #[]
  resolved := Array.replicate 8 none
  statics := none }

def pool4 : Array CpInfo := pool [(1, u "java/io/Serializable"), (0, .class_ 1), (0, u "java/lang/Object"), (0, .class_ 3)] 3

/-- java/io/Serializable -/
def k4 : Class := { plain "java/io/Serializable" (some 0) with
  accessFlags := 1537
  interfaces := #[]
  cf := some (fileOf pool4 2 #[] #[] 1537 4 #[] #[])
  fields := #[]
  methods := #[]
  instanceTypes := #[]
  staticTypes := #[]
  resolved := Array.replicate 8 none
  statics := none }

/-- the primitive byte -/
def k5 : Class := { plain "byte" none with kind := .primitive 'B', accessFlags := 0x411 }
/-- [B -/
def k6 : Class := { plain "[B" (some 0) with kind := .array 5 .byte, interfaces := #[3, 4], accessFlags := 1041 }

/-- the primitive int -/
def k7 : Class := { plain "int" none with kind := .primitive 'I', accessFlags := 0x411 }
/-- [I -/
def k8 : Class := { plain "[I" (some 0) with kind := .array 7 .int, interfaces := #[3, 4], accessFlags := 1041 }

def heap : Heap := #[]
def classes : Array Class := #[k0, k1, k2, k3, k4, k5, k6, k7, k8]
def interned : List (Array UInt16 × Addr) := []
def slotsUsed : Nat := 0
def theMethod : MethodId := ⟨1, 1⟩
def args0 : Array Value := #[.int 5, .int 3, .int 9]
def aboutOver (below : List Frame) : State where
  vm := { classes := classes, interned := interned.toArray }
  heap := heap
  slotsUsed := slotsUsed
  threads := #[{ frames := .invoking theMethod args0 :: below }]
def below0 : List Frame := [.native { method := ⟨0, 0⟩, args := #[] }]
def about1 : State := aboutOver below0
def p0 : Program := .bare "" "" ""
def e0 : Env := launch0.env 0 0 0
theorem w_frames : about1.frames = Frame.invoking theMethod args0 :: below0 := rfl
set_option maxRecDepth 65536 in
theorem w_args : argsFit about1.vm theMethod args0 = true := by decide +kernel
set_option maxRecDepth 65536 in
theorem w_heap : heapFits about1 = true := by decide +kernel
set_option maxRecDepth 65536 in
theorem w_runnable : about1.curStatus? = some .runnable := by decide +kernel
set_option maxRecDepth 65536 in
theorem w_alone : about1.alone = true := by decide +kernel
set_option maxRecDepth 65536 in
theorem w_named : about1.methodNamed? x = some theMethod := by decide +kernel
set_option maxRecDepth 65536 in
theorem w_hears : about1.hears theMethod below0 = true := by decide +kernel
set_option maxRecDepth 65536 in
theorem w_ripe : about1.ripe theMethod args0 below0 = true := by decide +kernel
theorem w_running : about1.status = .running := rfl
set_option maxRecDepth 65536 in
theorem w_room : about1.hasRoom e0.platform room_1 = true :=
  launch0.hasRoom_least _ room_1 (by decide +kernel) (by decide +kernel) (by decide +kernel) (by decide +kernel) (by decide +kernel) (by decide +kernel)
theorem allAtoms_all (ts : List Jvm.Cond) (a : Array Jvm.Value) (st : Jvm.State) : (allAtoms ts).before a st = ts.all (fun c => c.before a st) := by
  induction ts with
  | nil => rfl
  | cons c t ih =>
    show (Jvm.Cond.and c (allAtoms t)).before a st = _
    rw [Jvm.Cond.before_and, ih, List.all_cons]
def words1 : List Jvm.Cond := Jvm.Cond.code x code maxLocals ret :: tables_1
/-- a 'code' word, met by the world's own term for the bytes: nothing is compared byte by byte -/
theorem code_word {y : MethodName} {bytes : ByteArray} {mx : Nat} {rt : Option FieldType} {a : Array Value} {s : State} {m : MethodId} {meth : Method} {c : Code} (h1 : s.methodNamed? y = some m) (h2 : s.vm.method? m = some meth) (h3 : meth.code = some c) (h4 : c.code = bytes)
    (h5 : (c.maxLocals == mx && c.exceptionTable.isEmpty && decide (c.maxStack ≤ mostOperands) && decide (meth.sig.returnType = rt) && !meth.locks && decide (parseMethodDescriptor y.desc = some meth.sig)) = true) : (Jvm.Cond.code y bytes mx rt).before a s = true := by
  simp only [Bool.and_eq_true, beq_iff_eq, Bool.not_eq_true', decide_eq_true_eq] at h5
  obtain ⟨⟨⟨⟨⟨g1, g2⟩, g3⟩, g4⟩, g5⟩, g6⟩ := h5
  simp [Cond.before, Cond.holds, Cond.value, h1, h2, h3, h4, g1, g2, g3, g4, g5, g6]
def isCode : Jvm.Cond → Bool
  | .code _ _ _ _ => true
  | _ => false
theorem all_split {L : List Jvm.Cond} {P : Jvm.Cond → Bool} (h1 : L.all (fun c => isCode c || P c) = true) (h2 : ∀ c ∈ L.filter isCode, P c = true) : L.all P = true := by
  refine List.all_eq_true.mpr fun c hc => ?_
  have h := List.all_eq_true.mp h1 c hc
  rcases Bool.eq_false_or_eq_true (isCode c) with hi | hi
  · exact h2 c (List.mem_filter.mpr ⟨hc, hi⟩)
  · simpa [hi] using h
set_option maxRecDepth 65536 in
theorem w_c0 : (Jvm.Cond.code x code maxLocals ret).before args0 about1 = true := code_word (m := ⟨1, 1⟩) (meth := k1m1) (c := k1c1) (by decide +kernel) rfl rfl rfl (by decide +kernel)
set_option maxRecDepth 65536 in
theorem w_c1 : (Jvm.Cond.code ({ cls := "com/example/clausewright/clausewright/scoring/Tally", name := "<init>", desc := "()V" } : Jvm.MethodName) prog_53_method_1_code (1 : Nat) (Option.none : Option Jvm.ClassFile.FieldType)).before args0 about1 = true := code_word (m := ⟨2, 0⟩) (meth := k2m0) (c := k2c0) (by decide +kernel) rfl rfl rfl (by decide +kernel)
set_option maxRecDepth 65536 in
theorem w_c2 : (Jvm.Cond.code ({ cls := "java/lang/Object", name := "<init>", desc := "()V" } : Jvm.MethodName) object_method_1_code (1 : Nat) (Option.none : Option Jvm.ClassFile.FieldType)).before args0 about1 = true := code_word (m := ⟨0, 0⟩) (meth := k0m0) (c := k0c0) (by decide +kernel) rfl rfl rfl (by decide +kernel)
set_option maxRecDepth 65536 in
theorem w_c3 : (Jvm.Cond.code ({ cls := "com/example/clausewright/clausewright/scoring/Tally", name := "addFalsePositive", desc := "()V" } : Jvm.MethodName) prog_53_method_3_code (1 : Nat) (Option.none : Option Jvm.ClassFile.FieldType)).before args0 about1 = true := code_word (m := ⟨2, 2⟩) (meth := k2m2) (c := k2c2) (by decide +kernel) rfl rfl rfl (by decide +kernel)
set_option maxRecDepth 65536 in
theorem w_c4 : (Jvm.Cond.code ({ cls := "com/example/clausewright/clausewright/scoring/Tally", name := "precision", desc := "()D" } : Jvm.MethodName) prog_53_method_4_code (2 : Nat) (Option.some Jvm.ClassFile.FieldType.double)).before args0 about1 = true := code_word (m := ⟨2, 3⟩) (meth := k2m3) (c := k2c3) (by decide +kernel) rfl rfl rfl (by decide +kernel)
set_option maxRecDepth 65536 in
theorem w_c5 : (Jvm.Cond.code ({ cls := "com/example/clausewright/clausewright/scoring/Tally", name := "addAnswer", desc := "(Z)V" } : Jvm.MethodName) prog_53_method_2_code (2 : Nat) (Option.none : Option Jvm.ClassFile.FieldType)).before args0 about1 = true := code_word (m := ⟨2, 1⟩) (meth := k2m1) (c := k2c1) (by decide +kernel) rfl rfl rfl (by decide +kernel)
def codes1 : List Jvm.Cond := [Jvm.Cond.code x code maxLocals ret, Jvm.Cond.code ({ cls := "com/example/clausewright/clausewright/scoring/Tally", name := "<init>", desc := "()V" } : Jvm.MethodName) prog_53_method_1_code (1 : Nat) (Option.none : Option Jvm.ClassFile.FieldType), Jvm.Cond.code ({ cls := "java/lang/Object", name := "<init>", desc := "()V" } : Jvm.MethodName) object_method_1_code (1 : Nat) (Option.none : Option Jvm.ClassFile.FieldType), Jvm.Cond.code ({ cls := "com/example/clausewright/clausewright/scoring/Tally", name := "addFalsePositive", desc := "()V" } : Jvm.MethodName) prog_53_method_3_code (1 : Nat) (Option.none : Option Jvm.ClassFile.FieldType), Jvm.Cond.code ({ cls := "com/example/clausewright/clausewright/scoring/Tally", name := "precision", desc := "()D" } : Jvm.MethodName) prog_53_method_4_code (2 : Nat) (Option.some Jvm.ClassFile.FieldType.double), Jvm.Cond.code ({ cls := "com/example/clausewright/clausewright/scoring/Tally", name := "addAnswer", desc := "(Z)V" } : Jvm.MethodName) prog_53_method_2_code (2 : Nat) (Option.none : Option Jvm.ClassFile.FieldType)]
set_option maxRecDepth 65536 in
theorem codes_eq : words1.filter isCode = codes1 := rfl
theorem w_codes : ∀ c ∈ words1.filter isCode, c.before args0 about1 = true := by
  rw [codes_eq]
  intro c hc
  simp only [codes1, List.mem_cons, List.not_mem_nil, or_false] at hc
  rcases hc with rfl | rfl | rfl | rfl | rfl | rfl
  · exact w_c0
  · exact w_c1
  · exact w_c2
  · exact w_c3
  · exact w_c4
  · exact w_c5
set_option maxRecDepth 65536 in
theorem w_t1 : (words1.take 24).all (fun c => isCode c || c.before args0 about1) = true := by decide +kernel
set_option maxRecDepth 65536 in
theorem w_t2 : (words1.drop 24).all (fun c => isCode c || c.before args0 about1) = true := by decide +kernel
theorem w_tables : (allAtoms (Jvm.Cond.code x code maxLocals ret :: tables_1)).before args0 about1 = true := by
  rw [allAtoms_all]
  show words1.all (fun c => c.before args0 about1) = true
  refine all_split ?_ w_codes
  rw [← List.take_append_drop 24 words1, List.all_append, w_t1, w_t2]
  rfl
set_option maxRecDepth 65536 in
theorem w_case : (Jvm.Cond.and given_1 narrow_1).before args0 about1 = true := by decide +kernel
theorem w_applies : (headSpec (Jvm.Cond.code x code maxLocals ret :: tables_1) room_1).applies x e0.platform about1 = true :=
  (Spec.applies_iff w_frames).mpr ⟨w_running, w_runnable, w_alone, w_named, w_hears, w_ripe, w_room, w_tables⟩
theorem atStart : AtStart classFile x code maxLocals ret World_1 tables_1 room_1 Calls_1 rest_1 Pre_1 launch0 p0 e0 about1 theMethod args0 below0 :=
  ⟨lists_1, trivial, launch0.admits_env _ _ _, launch0.least_env, fairChoices_fair.cas, fairChoices_fair.clock, w_frames, w_args, w_heap, w_applies, trivial, trivial, w_case⟩
end start1
theorem witness_1 : WitnessClaimed_1 := ⟨start1.p0, start1.e0, start1.about1, start1.theMethod, start1.args0, start1.below0, start1.atStart⟩
end Jvm.Pilot.@@N@@
