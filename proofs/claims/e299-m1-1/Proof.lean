import JvmDerived
import JvmDerived.Pilot.@@N@@Statement
import JvmDerived.Pilot.@@N@@Code
set_option linter.unusedVariables false
set_option linter.unusedSimpArgs false
@@BLOCK:NumsL.lean.txt@@
namespace Jvm.Pilot.@@N@@
open Jvm Jvm.ClassFile Sem Op Lib Jvm.Free Jvm.Stand Jvm.LawKit Jvm.RoadKit Bundle Jvm.Pilot.@@N@@.Jvm.D
section OwnFP
open Jvm.FP.Core
/-- the datum is i * 2^k -/
def OwnSc (k i : Int) : Datum → Prop
  | .fin s c q => Whole i (.fin s c (q - k))
  | _ => False
/-- the double is i * 2^k -/
def OwnDS (k i : Int) (a : UInt64) : Prop := OwnSc k i (val64 a)

theorem own_sc_fin {k i : Int} {d : Datum} (h : OwnSc k i d) : ∃ s c q, d = .fin s c q ∧ Whole i (.fin s c (q - k)) := by
  cases d with
  | nan => exact h.elim
  | inf => exact h.elim
  | fin s c q => exact ⟨s, c, q, rfl, h⟩

theorem own_ds_int {i : Int} {a : UInt64} (h : DInt i a) : OwnDS 0 i a := by
  have h' : Whole i (val64 a) := h
  show OwnSc 0 i (val64 a)
  cases hv : val64 a with
  | nan => rw [hv] at h'; exact h'.elim
  | inf => rw [hv] at h'; exact h'.elim
  | fin s c q => rw [hv] at h'; show Whole i (.fin s c (q - 0)); rw [Int.sub_zero]; exact h'

theorem own_int_ds {i : Int} {a : UInt64} (h : OwnDS 0 i a) : DInt i a := by
  obtain ⟨s, c, q, hv, h'⟩ := own_sc_fin h
  show Whole i (val64 a)
  rw [hv]; rw [Int.sub_zero] at h'; exact h'

theorem own_ds_ne_nan {k i : Int} {a : UInt64} (h : OwnDS k i a) : val64 a ≠ .nan := by
  obtain ⟨s, c, q, hv, -⟩ := own_sc_fin h
  rw [hv]; exact Datum.noConfusion

/-- the numbers i * 2^k with |i| < 2^n are doubles where n ≤ 53, n + k ≤ 1024, -1022 ≤ k -/
theorem own_fitAt (s : Bool) {n m : Nat} {k : Int} (hm : m < 2 ^ n) (hn : n ≤ 53) (h1 : (n : Int) + k ≤ 1024) (h2 : -1022 ≤ k) :
    ∃ c q, Jvm.FP.Core.fits b64 (.fin s c q) ∧ m * 2 ^ (k - q).toNat = c * 1 * 2 ^ (q - k).toNat := by
  have hq1 : b64.qmin = -1074 := by decide
  have hq2 : b64.qmax = 971 := by decide
  by_cases h0 : m = 0
  · subst h0
    exact ⟨0, b64.qmin, zero_fits good_b64 s, by simp⟩
  · have l1 : 2 ^ m.log2 ≤ m := Nat.log2_self_le h0
    have l2 : m < 2 ^ (m.log2 + 1) := Nat.lt_log2_self
    have l3 : m.log2 < n := (Nat.pow_lt_pow_iff_right (by decide : 1 < 2)).mp (Nat.lt_of_le_of_lt l1 hm)
    generalize m.log2 = L at l1 l2 l3
    refine ⟨m * 2 ^ (52 - L), (L : Int) - 52 + k, ⟨?_, by omega, by omega, .inr ?_⟩, ?_⟩
    · calc m * 2 ^ (52 - L) < 2 ^ (L + 1) * 2 ^ (52 - L) := Nat.mul_lt_mul_of_pos_right l2 (Nat.two_pow_pos _)
        _ = 2 ^ b64.p := by rw [← Nat.pow_add]; congr 1; show L + 1 + (52 - L) = 53; omega
    · calc b64.tails = 2 ^ L * 2 ^ (52 - L) := by rw [← Nat.pow_add]; show 2 ^ 52 = _; congr 1; omega
        _ ≤ m * 2 ^ (52 - L) := Nat.mul_le_mul_right _ l1
    · rw [show (k - ((L : Int) - 52 + k)).toNat = 52 - L by omega, show ((L : Int) - 52 + k - k).toNat = 0 by omega]
      simp

theorem own_signed_of {i : Int} {s : Bool} {c : Nat} {q : Int} (h : Whole i (.fin s c q)) : signed s i.natAbs = i := by
  by_cases hi : i = 0
  · rw [hi]; exact signed_zero s
  · rw [whole_sign h hi]
    by_cases h : i < 0
    · rw [decide_eq_true h]; show -(i.natAbs : Int) = i; omega
    · rw [decide_eq_false h]; show (i.natAbs : Int) = i; omega

/-- what roundRatio makes of a ratio that is m * 2^k, m < 2^n -/
theorem own_rr {s : Bool} {A B m n : Nat} {e k i : Int} (hB : 0 < B) (hv : A * 2 ^ (e - k).toNat = m * B * 2 ^ (k - e).toNat)
    (hm : m < 2 ^ n) (hn : n ≤ 53) (h1 : (n : Int) + k ≤ 1024) (h2 : -1022 ≤ k) (hi : signed s m = i) : OwnSc k i (roundRatio b64 s A B e) := by
  obtain ⟨c', q', hfit, hv'⟩ := own_fitAt s hm hn h1 h2
  rw [roundRatio_congr (A' := m) (B' := 1) (e' := k) hB (by decide) (by simpa using hv), roundRatio_exact good_b64 (by decide) hfit hv']
  show signed s (c' * 2 ^ (q' - k).toNat) = i * ((2 ^ (-(q' - k)).toNat : Nat) : Int)
  rw [show (-(q' - k)).toNat = (k - q').toNat by omega, ← hi, ← signed_mul, hv', Nat.mul_one]

theorem own_sc_round {n : Nat} {k i : Int} {d : Datum} (h : OwnSc k i d) (hi : i.natAbs < 2 ^ n) (hn : n ≤ 53) (h1 : (n : Int) + k ≤ 1024) (h2 : -1022 ≤ k) : OwnSc k i (round b64 d) := by
  obtain ⟨s, c, q, rfl, hw⟩ := own_sc_fin h
  refine own_rr (m := i.natAbs) (n := n) (by decide) ?_ hi hn h1 h2 (own_signed_of hw)
  have q1 := whole_natAbs hw
  rw [show (-(q - k)).toNat = (k - q).toNat by omega] at q1
  simpa using q1

theorem own_shift_sum (s : Bool) (c : Nat) (q : Int) (t : Bool) (d : Nat) (r k : Int) :
    ∃ u f w, exactSum (.fin s c q) (.fin t d r) = .fin u f w ∧ exactSum (.fin s c (q - k)) (.fin t d (r - k)) = .fin u f (w - k) := by
  refine ⟨_, _, _, rfl, ?_⟩
  have hmin : min (q - k) (r - k) = min q r - k := by omega
  have hu : sumUnits s c (q - k) t d (r - k) (min (q - k) (r - k)) = sumUnits s c q t d r (min q r) := by
    show signed s (c * 2 ^ (q - k - min (q - k) (r - k)).toNat) + signed t (d * 2 ^ (r - k - min (q - k) (r - k)).toNat) = signed s (c * 2 ^ (q - min q r).toNat) + signed t (d * 2 ^ (r - min q r).toNat)
    rw [hmin, show q - k - (min q r - k) = q - min q r by omega, show r - k - (min q r - k) = r - min q r by omega]
  show Datum.fin (sumSign s t (sumUnits s c (q - k) t d (r - k) (min (q - k) (r - k)))) (sumUnits s c (q - k) t d (r - k) (min (q - k) (r - k))).natAbs (min (q - k) (r - k)) = _
  rw [hu, hmin]

theorem own_sc_sum {k i j : Int} {x y : Datum} (hx : OwnSc k i x) (hy : OwnSc k j y) : OwnSc k (i + j) (exactSum x y) := by
  obtain ⟨s, c, q, rfl, h1⟩ := own_sc_fin hx
  obtain ⟨t, d, r, rfl, h2⟩ := own_sc_fin hy
  obtain ⟨u, f, w, e1, e2⟩ := own_shift_sum s c q t d r k
  have h3 := whole_sum h1 h2
  rw [e2] at h3
  rw [e1]; exact h3

theorem own_sc_neg {k i : Int} {x : Datum} (hx : OwnSc k i x) : OwnSc k (-i) (negate x) := by
  obtain ⟨s, c, q, rfl, h1⟩ := own_sc_fin hx
  exact whole_negate h1

theorem own_sc_mul {k l i j : Int} {x y : Datum} (hx : OwnSc k i x) (hy : OwnSc l j y) : OwnSc (k + l) (i * j) (exactProduct x y) := by
  obtain ⟨s, c, q, rfl, h1⟩ := own_sc_fin hx
  obtain ⟨t, d, r, rfl, h2⟩ := own_sc_fin hy
  have h3 : Whole (i * j) (.fin (s != t) (c * d) (q - k + (r - l))) := whole_product h1 h2
  show Whole (i * j) (.fin (s != t) (c * d) (q + r - (k + l)))
  rw [show q + r - (k + l) = q - k + (r - l) by omega]; exact h3

theorem own_ds_add {n : Nat} {k i j : Int} {a b : UInt64} (ha : OwnDS k i a) (hb : OwnDS k j b) (h : (i + j).natAbs < 2 ^ n) (hn : n ≤ 53 := by decide) (h1 : (n : Int) + k ≤ 1024 := by decide) (h2 : -1022 ≤ k := by decide) : OwnDS k (i + j) (dadd a b) := by
  show OwnSc _ _ _
  rw [val64_dadd]; exact own_sc_round (own_sc_sum ha hb) h hn h1 h2
theorem own_ds_sub {n : Nat} {k i j : Int} {a b : UInt64} (ha : OwnDS k i a) (hb : OwnDS k j b) (h : (i - j).natAbs < 2 ^ n) (hn : n ≤ 53 := by decide) (h1 : (n : Int) + k ≤ 1024 := by decide) (h2 : -1022 ≤ k := by decide) : OwnDS k (i - j) (dsub a b) := by
  show OwnSc _ _ _
  rw [val64_dsub]; exact own_sc_round (own_sc_sum ha (own_sc_neg hb)) h hn h1 h2
theorem own_ds_mul {n : Nat} {k l i j : Int} {a b : UInt64} (ha : OwnDS k i a) (hb : OwnDS l j b) (h : (i * j).natAbs < 2 ^ n) (hn : n ≤ 53 := by decide) (h1 : (n : Int) + (k + l) ≤ 1024 := by decide) (h2 : -1022 ≤ k + l := by decide) : OwnDS (k + l) (i * j) (dmul a b) := by
  show OwnSc _ _ _
  rw [val64_dmul]; exact own_sc_round (own_sc_mul ha hb) h hn h1 h2
theorem own_ds_negC {k i : Int} {a : UInt64} (ha : OwnDS k i a) : OwnDS k (-i) (dneg a) := by
  show OwnSc _ _ _
  rw [val64_dneg]; exact own_sc_neg ha

theorem own_order_shift (s : Bool) (c : Nat) (q : Int) (t : Bool) (d : Nat) (r k : Int) :
    order (.fin s c (q - k)) (.fin t d (r - k)) = order (.fin s c q) (.fin t d r) := by
  have hmin : min (q - k) (r - k) = min q r - k := by omega
  show some (compare (signed s (c * 2 ^ (q - k - min (q - k) (r - k)).toNat)) (signed t (d * 2 ^ (r - k - min (q - k) (r - k)).toNat))) = some (compare (signed s (c * 2 ^ (q - min q r).toNat)) (signed t (d * 2 ^ (r - min q r).toNat)))
  rw [hmin, show q - k - (min q r - k) = q - min q r by omega, show r - k - (min q r - k) = r - min q r by omega]

theorem own_ds_cmp {k i j : Int} {a b : UInt64} (ha : OwnDS k i a) (hb : OwnDS k j b) : dcmp a b = some (compare i j) := by
  obtain ⟨s, c, q, e1, h1⟩ := own_sc_fin ha
  obtain ⟨t, d, r, e2, h2⟩ := own_sc_fin hb
  show order (val64 a) (val64 b) = _
  rw [e1, e2, ← own_order_shift _ _ _ _ _ _ k]
  exact order_whole h1 h2

/-- the number kept, its scale moved down -/
theorem own_ds_down {k i : Int} {a : UInt64} (n : Nat) (h : OwnDS (k + n) i a) : OwnDS k (i * ((2 ^ n : Nat) : Int)) a := by
  obtain ⟨s, c, q, e1, h1⟩ := own_sc_fin h
  show OwnSc _ _ _
  rw [e1]
  have h2 : signed s (c * 2 ^ (q - (k + n)).toNat) = i * ((2 ^ (-(q - (k + n))).toNat : Nat) : Int) := h1
  show signed s (c * 2 ^ (q - k).toNat) = i * ((2 ^ n : Nat) : Int) * ((2 ^ (-(q - k)).toNat : Nat) : Int)
  have p2 : ((2 ^ (-(q - (k + n))).toNat : Nat) : Int) ≠ 0 := by
    have := Nat.two_pow_pos (-(q - (k + n))).toNat; omega
  refine Int.eq_of_mul_eq_mul_right p2 ?_
  have hx : (q - k).toNat + (-(q - (k + n))).toNat = (q - (k + n)).toNat + (n + (-(q - k)).toNat) := by omega
  rw [← signed_mul, Nat.mul_assoc, ← Nat.pow_add, hx, Nat.pow_add, ← Nat.mul_assoc, signed_mul, h2, Nat.pow_add]
  rw [Int.natCast_mul]; ac_rfl
theorem own_ds_up {k i : Int} {a : UInt64} (n : Nat) (h : OwnDS k (i * ((2 ^ n : Nat) : Int)) a) : OwnDS (k + n) i a := by
  obtain ⟨s, c, q, e1, h1⟩ := own_sc_fin h
  show OwnSc _ _ _
  rw [e1]
  have h2 : signed s (c * 2 ^ (q - k).toNat) = i * ((2 ^ n : Nat) : Int) * ((2 ^ (-(q - k)).toNat : Nat) : Int) := h1
  show signed s (c * 2 ^ (q - (k + n)).toNat) = i * ((2 ^ (-(q - (k + n))).toNat : Nat) : Int)
  have p2 : ((2 ^ (n + (-(q - k)).toNat) : Nat) : Int) ≠ 0 := by
    have := Nat.two_pow_pos (n + (-(q - k)).toNat); omega
  refine Int.eq_of_mul_eq_mul_right p2 ?_
  have hx : (q - (k + n)).toNat + (n + (-(q - k)).toNat) = (q - k).toNat + (-(q - (k + n))).toNat := by omega
  rw [← signed_mul, Nat.mul_assoc, ← Nat.pow_add, hx, Nat.pow_add, ← Nat.mul_assoc, signed_mul, h2, Nat.pow_add]
  rw [Int.natCast_mul]; ac_rfl

/-- a quotient that is whole (in its scale) is exact -/
theorem own_ds_div {n : Nat} {k l i j m : Int} {a b : UInt64} (ha : OwnDS k i a) (hb : OwnDS l j b) (hj : j ≠ 0) (hm : i = m * j) (h : m.natAbs < 2 ^ n) (hn : n ≤ 53 := by decide) (h1 : (n : Int) + (k - l) ≤ 1024 := by decide) (h2 : -1022 ≤ k - l := by decide) : OwnDS (k - l) m (ddiv a b) := by
  obtain ⟨s, c, q, e1, w1⟩ := own_sc_fin ha
  obtain ⟨t, d, r, e2, w2⟩ := own_sc_fin hb
  show OwnSc _ _ _
  rw [val64_ddiv, e1, e2]
  have hd : d ≠ 0 := fun h0 => hj ((whole_zero w2).mp h0)
  have hq : quotient b64 (.fin s c q) (.fin t d r) = roundRatio b64 (s != t) c d (q - r) := by
    show (if d = 0 then (if c = 0 then Datum.nan else .inf (s != t)) else roundRatio b64 (s != t) c d (q - r)) = _
    rw [if_neg hd]
  rw [hq]
  have q1 := whole_natAbs w1
  have q2 := whole_natAbs w2
  have hmn : i.natAbs = m.natAbs * j.natAbs := by rw [hm, Int.natAbs_mul]
  refine own_rr (m := m.natAbs) (n := n) (Nat.pos_of_ne_zero hd) ?_ h hn h1 h2 ?_
  · -- c 2^(q-k) = |m| |j| 2^(k-q), d 2^(r-l) = |j| 2^(l-r)
    have hjp : 0 < j.natAbs := Int.natAbs_pos.mpr hj
    rw [hmn] at q1
    generalize j.natAbs = J at q1 q2 hjp
    generalize m.natAbs = M at q1
    have hE : 0 < 2 ^ (-(r - l)).toNat * J * 2 ^ (-(q - k)).toNat * 2 ^ (r - l).toNat := by
      exact Nat.mul_pos (Nat.mul_pos (Nat.mul_pos (Nat.two_pow_pos _) hjp) (Nat.two_pow_pos _)) (Nat.two_pow_pos _)
    refine Nat.eq_of_mul_eq_mul_right hE ?_
    have x1 : (q - r - (k - l)).toNat + (-(q - k)).toNat + (r - l).toNat = (q - k).toNat + (-(r - l)).toNat + (k - l - (q - r)).toNat := by omega
    calc c * 2 ^ (q - r - (k - l)).toNat * (2 ^ (-(r - l)).toNat * J * 2 ^ (-(q - k)).toNat * 2 ^ (r - l).toNat)
        = c * (J * 2 ^ (-(r - l)).toNat) * 2 ^ ((q - r - (k - l)).toNat + (-(q - k)).toNat + (r - l).toNat) := by
          simp only [Nat.pow_add]; ac_rfl
      _ = c * (d * 2 ^ (r - l).toNat) * 2 ^ ((q - k).toNat + (-(r - l)).toNat + (k - l - (q - r)).toNat) := by rw [x1, ← q2]
      _ = (c * 2 ^ (q - k).toNat) * (d * 2 ^ (r - l).toNat) * 2 ^ (-(r - l)).toNat * 2 ^ (k - l - (q - r)).toNat := by
          simp only [Nat.pow_add]; ac_rfl
      _ = (M * J * 2 ^ (-(q - k)).toNat) * (d * 2 ^ (r - l).toNat) * 2 ^ (-(r - l)).toNat * 2 ^ (k - l - (q - r)).toNat := by rw [q1]
      _ = M * d * 2 ^ (k - l - (q - r)).toNat * (2 ^ (-(r - l)).toNat * J * 2 ^ (-(q - k)).toNat * 2 ^ (r - l).toNat) := by ac_rfl
  · have s1 := own_signed_of w1
    have s2 := own_signed_of w2
    have h3 : signed (s != t) (i.natAbs * j.natAbs) = i * j := by rw [signed_xor, s1, s2]
    have h4 : i.natAbs * j.natAbs = m.natAbs * (j.natAbs * j.natAbs) := by rw [hmn, Nat.mul_assoc]
    rw [h4, signed_mul] at h3
    have hjj : ((j.natAbs * j.natAbs : Nat) : Int) = j * j := by rw [Int.natAbs_mul_self]
    rw [hjj, hm, Int.mul_assoc] at h3
    exact Int.eq_of_mul_eq_mul_right (Int.mul_ne_zero hj hj) h3
end OwnFP
/-! own tools: a walk in continuation style, named values, the ends -/
abbrev uU : Slot := .unset
abbrev uS : Slot := .second
abbrev sN : Slot := .val .null
abbrev sI (x : Int32) : Slot := .val (.int x)
abbrev sJ (x : Int64) : Slot := .val (.long x)
abbrev sD (x : UInt64) : Slot := .val (.double x)
abbrev sR (x : Addr) : Slot := .val (.ref x)
def OwnGo (tb : Tables) (e : Env) (below : List Frame) (Q : Outcome → State → Prop) (S : State) : Prop := ∃ s₂ o, Steps tb e below S s₂ ∧ s₂.status = .running ∧ Ended s₂ below o ∧ Q o s₂
theorem OwnGo.pre {tb : Tables} {e : Env} {below : List Frame} {Q : Outcome → State → Prop} {S S' : State} (h : ∀ t, Steps tb e below S' t → Steps tb e below S t) (k : OwnGo tb e below Q S') : OwnGo tb e below Q S := by
  obtain ⟨t, o, h1, h2⟩ := k
  exact ⟨t, o, h t h1, h2⟩
abbrev OwnEnd (s : State) (Q : Option Value → Heap → List Loc → Prop) (kc ks : Nat) : Outcome → State → Prop := fun o s₂ => ∃ v L, o = .returned v ∧ Q v s₂.heap L ∧ FrameEnd s o s₂ L kc ks
section OwnEnds
variable {p : Program} {l : Launch} {e : Env} {R : Room} {s : State} {m : MethodId} {args : Array Value} {below : List Frame} {meth : Method} {c : Code} {T : State} {locs : List Loc} {cells slots : Nat}
theorem own_retZ (X : Stand p l e R s m args below meth c T locs cells slots) (hx : p.tables.exec = Jvm.exec) (hk : meth.locks = false) {pc : Nat} {Ls : Array Slot} {z : Int32} {rest : List Value} (hret : meth.sig.returnType = some .boolean) (hd : decode c.code pc = .ok (.ireturn, 1))
    {Q : Option Value → Heap → List Loc → Prop} {kc ks : Nat} (hq : Q (some (.int (nar .boolean z))) T.heap locs) (hc : cells ≤ kc) (hs : slots ≤ ks) : OwnGo p.tables e below (OwnEnd s Q kc ks) (T.setTop (mkF m pc Ls (.int z :: rest))) := by
  obtain ⟨fs, hr, hrun, hended, hW, hsame⟩ := X.leave (v := some (.int (nar .boolean z))) (fun h => by rw [hret] at h; cases h) hk
  exact ⟨_, _, retN X hx (t := .boolean) hret (by simp) hd hr, hrun, hended, _, _, rfl, hq, ⟨_, rfl⟩, hW, hsame.mono hc hs⟩
theorem own_retI (X : Stand p l e R s m args below meth c T locs cells slots) (hx : p.tables.exec = Jvm.exec) (hk : meth.locks = false) {pc : Nat} {Ls : Array Slot} {z : Int32} {rest : List Value} (hret : meth.sig.returnType = some .int) (hd : decode c.code pc = .ok (.ireturn, 1))
    {Q : Option Value → Heap → List Loc → Prop} {kc ks : Nat} (hq : Q (some (.int z)) T.heap locs) (hc : cells ≤ kc) (hs : slots ≤ ks) : OwnGo p.tables e below (OwnEnd s Q kc ks) (T.setTop (mkF m pc Ls (.int z :: rest))) := by
  obtain ⟨fs, hr, hrun, hended, hW, hsame⟩ := X.leave (v := some (.int z)) (fun h => by rw [hret] at h; cases h) hk
  exact ⟨_, _, retOut X hx hret rfl (Or.inl ⟨rfl, Or.inl rfl, _, rfl⟩) hd hr, hrun, hended, _, _, rfl, hq, ⟨_, rfl⟩, hW, hsame.mono hc hs⟩
theorem own_retJ (X : Stand p l e R s m args below meth c T locs cells slots) (hx : p.tables.exec = Jvm.exec) (hk : meth.locks = false) {pc : Nat} {Ls : Array Slot} {z : Int64} {rest : List Value} (hret : meth.sig.returnType = some .long) (hd : decode c.code pc = .ok (.lreturn, 1))
    {Q : Option Value → Heap → List Loc → Prop} {kc ks : Nat} (hq : Q (some (.long z)) T.heap locs) (hc : cells ≤ kc) (hs : slots ≤ ks) : OwnGo p.tables e below (OwnEnd s Q kc ks) (T.setTop (mkF m pc Ls (.long z :: rest))) := by
  obtain ⟨fs, hr, hrun, hended, hW, hsame⟩ := X.leave (v := some (.long z)) (fun h => by rw [hret] at h; cases h) hk
  exact ⟨_, _, retOut X hx hret rfl (Or.inr (Or.inl ⟨rfl, rfl, _, rfl⟩)) hd hr, hrun, hended, _, _, rfl, hq, ⟨_, rfl⟩, hW, hsame.mono hc hs⟩
theorem own_retD (X : Stand p l e R s m args below meth c T locs cells slots) (hx : p.tables.exec = Jvm.exec) (hk : meth.locks = false) {pc : Nat} {Ls : Array Slot} {z : UInt64} {rest : List Value} (hret : meth.sig.returnType = some .double) (hd : decode c.code pc = .ok (.dreturn, 1))
    {Q : Option Value → Heap → List Loc → Prop} {kc ks : Nat} (hq : Q (some (.double z)) T.heap locs) (hc : cells ≤ kc) (hs : slots ≤ ks) : OwnGo p.tables e below (OwnEnd s Q kc ks) (T.setTop (mkF m pc Ls (.double z :: rest))) := by
  obtain ⟨fs, hr, hrun, hended, hW, hsame⟩ := X.leave (v := some (.double z)) (fun h => by rw [hret] at h; cases h) hk
  exact ⟨_, _, retOut X hx hret rfl (Or.inr (Or.inr (Or.inl ⟨rfl, rfl, _, rfl⟩))) hd hr, hrun, hended, _, _, rfl, hq, ⟨_, rfl⟩, hW, hsame.mono hc hs⟩
theorem own_retA (X : Stand p l e R s m args below meth c T locs cells slots) (hx : p.tables.exec = Jvm.exec) (hk : meth.locks = false) {pc : Nat} {Ls : Array Slot} {C : String} {w : Value} {rest : List Value} (hret : meth.sig.returnType = some (.object C)) (hd : decode c.code pc = .ok (.areturn, 1)) (hw : w.isRef = true)
    {Q : Option Value → Heap → List Loc → Prop} {kc ks : Nat} (hq : Q (some w) T.heap locs) (hc : cells ≤ kc) (hs : slots ≤ ks) : OwnGo p.tables e below (OwnEnd s Q kc ks) (T.setTop (mkF m pc Ls (w :: rest))) := by
  obtain ⟨fs, hr, hrun, hended, hW, hsame⟩ := X.leave (v := some w) (fun h => by rw [hret] at h; cases h) hk
  exact ⟨_, _, retOut X hx hret (by cases w <;> first | rfl | cases hw) (Or.inr (Or.inr (Or.inr (Or.inr ⟨rfl, rfl, hw⟩)))) hd hr, hrun, hended, _, _, rfl, hq, ⟨_, rfl⟩, hW, hsame.mono hc hs⟩
theorem own_ret0 (X : Stand p l e R s m args below meth c T locs cells slots) (hx : p.tables.exec = Jvm.exec) (hk : meth.locks = false) {pc : Nat} {Ls : Array Slot} (hret : meth.sig.returnType = none) (hd : decode c.code pc = .ok (.return_, 1))
    {Q : Option Value → Heap → List Loc → Prop} {kc ks : Nat} (hq : Q none T.heap locs) (hc : cells ≤ kc) (hs : slots ≤ ks) : OwnGo p.tables e below (OwnEnd s Q kc ks) (T.setTop (mkF m pc Ls [])) := by
  obtain ⟨fs, hr, hrun, hended, hW, hsame⟩ := X.leave (v := none) (fun _ => rfl) hk
  exact ⟨_, _, X.returnOut hx hret hd hr, hrun, hended, _, _, rfl, hq, ⟨_, rfl⟩, hW, hsame.mono hc hs⟩
theorem own_ldcD (X : Stand p l e R s m args below meth c T locs cells slots) (hx : p.tables.exec = Jvm.exec) {own : String} {index : Nat} {b : UInt64} (hown : s.vm.findClass own = some m.cls) (hconst : (Cond.constantDouble own index b).before args s = true) {g : JFrame} {target : State} (hg : g.method = m) (hd : decode c.code g.pc = .ok (.ldc2_w index, 3))
    (hr : Steps p.tables e below (T.setTop { g with pc := g.pc + 3, stack := .double b :: g.stack }) target) : Steps p.tables e below (T.setTop g) target := X.ldc2DoubleC hx hown hconst hg hd target hr
theorem own_ldcJ (X : Stand p l e R s m args below meth c T locs cells slots) (hx : p.tables.exec = Jvm.exec) {own : String} {index : Nat} {b : Int64} (hown : s.vm.findClass own = some m.cls) (hconst : (Cond.constantLong own index b).before args s = true) {g : JFrame} {target : State} (hg : g.method = m) (hd : decode c.code g.pc = .ok (.ldc2_w index, 3))
    (hr : Steps p.tables e below (T.setTop { g with pc := g.pc + 3, stack := .long b :: g.stack }) target) : Steps p.tables e below (T.setTop g) target := X.ldc2Long hx hown hconst hg hd target hr
theorem own_ldcI (X : Stand p l e R s m args below meth c T locs cells slots) (hx : p.tables.exec = Jvm.exec) {own : String} {index : Nat} {b : Int32} (hown : s.vm.findClass own = some m.cls) (hconst : (Cond.constant own index b).before args s = true) {g : JFrame} {target : State} (hg : g.method = m) (hd : decode c.code g.pc = .ok (.ldc index, 2))
    (hr : Steps p.tables e below (T.setTop { g with pc := g.pc + 2, stack := .int b :: g.stack }) target) : Steps p.tables e below (T.setTop g) target := X.ldcInt hx hown hconst hg hd target hr
end OwnEnds
theorem own_iadd {tb : Tables} [Ours tb] {e : Env} {below : List Frame} {T target : State} {m : MethodId} {c : Code} {g : JFrame} (h : At T m c below) (hx : tb.exec = Jvm.exec) (hg : g.method = m) {x : Int32} {y : Int32} {v : Int32} {rest : List Value} (hd : decode c.code g.pc = .ok (.iadd, 1)) (hs : g.stack = .int y :: .int x :: rest) (hv : x + y = v)
    (hr : Steps tb e below (T.setTop { g with pc := g.pc + 1, stack := .int v :: rest }) target) : Steps tb e below (T.setTop g) target := by subst hv; exact XS.iadd h hx hg hd hs hr
theorem own_isub {tb : Tables} [Ours tb] {e : Env} {below : List Frame} {T target : State} {m : MethodId} {c : Code} {g : JFrame} (h : At T m c below) (hx : tb.exec = Jvm.exec) (hg : g.method = m) {x : Int32} {y : Int32} {v : Int32} {rest : List Value} (hd : decode c.code g.pc = .ok (.isub, 1)) (hs : g.stack = .int y :: .int x :: rest) (hv : x - y = v)
    (hr : Steps tb e below (T.setTop { g with pc := g.pc + 1, stack := .int v :: rest }) target) : Steps tb e below (T.setTop g) target := by subst hv; exact XS.isub h hx hg hd hs hr
theorem own_iand {tb : Tables} [Ours tb] {e : Env} {below : List Frame} {T target : State} {m : MethodId} {c : Code} {g : JFrame} (h : At T m c below) (hx : tb.exec = Jvm.exec) (hg : g.method = m) {x : Int32} {y : Int32} {v : Int32} {rest : List Value} (hd : decode c.code g.pc = .ok (.iand, 1)) (hs : g.stack = .int y :: .int x :: rest) (hv : x &&& y = v)
    (hr : Steps tb e below (T.setTop { g with pc := g.pc + 1, stack := .int v :: rest }) target) : Steps tb e below (T.setTop g) target := by subst hv; exact XS.iand h hx hg hd hs hr
theorem own_ishl {tb : Tables} [Ours tb] {e : Env} {below : List Frame} {T target : State} {m : MethodId} {c : Code} {g : JFrame} (h : At T m c below) (hx : tb.exec = Jvm.exec) (hg : g.method = m) {x : Int32} {y : Int32} {v : Int32} {rest : List Value} (hd : decode c.code g.pc = .ok (.ishl, 1)) (hs : g.stack = .int y :: .int x :: rest) (hv : x <<< (y &&& 31) = v)
    (hr : Steps tb e below (T.setTop { g with pc := g.pc + 1, stack := .int v :: rest }) target) : Steps tb e below (T.setTop g) target := by subst hv; exact XT.ishl h hx hg hd hs hr
theorem own_ishr {tb : Tables} [Ours tb] {e : Env} {below : List Frame} {T target : State} {m : MethodId} {c : Code} {g : JFrame} (h : At T m c below) (hx : tb.exec = Jvm.exec) (hg : g.method = m) {x : Int32} {y : Int32} {v : Int32} {rest : List Value} (hd : decode c.code g.pc = .ok (.ishr, 1)) (hs : g.stack = .int y :: .int x :: rest) (hv : x >>> (y &&& 31) = v)
    (hr : Steps tb e below (T.setTop { g with pc := g.pc + 1, stack := .int v :: rest }) target) : Steps tb e below (T.setTop g) target := by subst hv; exact XT.ishr h hx hg hd hs hr
theorem own_iushr {tb : Tables} [Ours tb] {e : Env} {below : List Frame} {T target : State} {m : MethodId} {c : Code} {g : JFrame} (h : At T m c below) (hx : tb.exec = Jvm.exec) (hg : g.method = m) {x : Int32} {y : Int32} {v : Int32} {rest : List Value} (hd : decode c.code g.pc = .ok (.iushr, 1)) (hs : g.stack = .int y :: .int x :: rest) (hv : XT.ushr x y = v)
    (hr : Steps tb e below (T.setTop { g with pc := g.pc + 1, stack := .int v :: rest }) target) : Steps tb e below (T.setTop g) target := by subst hv; exact XT.iushr h hx hg hd hs hr
theorem own_irem {tb : Tables} [Ours tb] {e : Env} {below : List Frame} {T target : State} {m : MethodId} {c : Code} {g : JFrame} (h : At T m c below) (hx : tb.exec = Jvm.exec) (hg : g.method = m) {x : Int32} {y : Int32} {v : Int32} {rest : List Value} (hd : decode c.code g.pc = .ok (.irem, 1)) (hs : g.stack = .int y :: .int x :: rest) (hy : y ≠ 0) (hv : x - x / y * y = v)
    (hr : Steps tb e below (T.setTop { g with pc := g.pc + 1, stack := .int v :: rest }) target) : Steps tb e below (T.setTop g) target := by subst hv; exact XS.irem h hx hg hd hs hy hr
theorem own_ladd {tb : Tables} [Ours tb] {e : Env} {below : List Frame} {T target : State} {m : MethodId} {c : Code} {g : JFrame} (h : At T m c below) (hx : tb.exec = Jvm.exec) (hg : g.method = m) {x : Int64} {y : Int64} {v : Int64} {rest : List Value} (hd : decode c.code g.pc = .ok (.ladd, 1)) (hs : g.stack = .long y :: .long x :: rest) (hv : x + y = v)
    (hr : Steps tb e below (T.setTop { g with pc := g.pc + 1, stack := .long v :: rest }) target) : Steps tb e below (T.setTop g) target := by subst hv; exact XT.ladd h hx hg hd hs hr
theorem own_lsub {tb : Tables} [Ours tb] {e : Env} {below : List Frame} {T target : State} {m : MethodId} {c : Code} {g : JFrame} (h : At T m c below) (hx : tb.exec = Jvm.exec) (hg : g.method = m) {x : Int64} {y : Int64} {v : Int64} {rest : List Value} (hd : decode c.code g.pc = .ok (.lsub, 1)) (hs : g.stack = .long y :: .long x :: rest) (hv : x - y = v)
    (hr : Steps tb e below (T.setTop { g with pc := g.pc + 1, stack := .long v :: rest }) target) : Steps tb e below (T.setTop g) target := by subst hv; exact XT.lsub h hx hg hd hs hr
theorem own_lmul {tb : Tables} [Ours tb] {e : Env} {below : List Frame} {T target : State} {m : MethodId} {c : Code} {g : JFrame} (h : At T m c below) (hx : tb.exec = Jvm.exec) (hg : g.method = m) {x : Int64} {y : Int64} {v : Int64} {rest : List Value} (hd : decode c.code g.pc = .ok (.lmul, 1)) (hs : g.stack = .long y :: .long x :: rest) (hv : x * y = v)
    (hr : Steps tb e below (T.setTop { g with pc := g.pc + 1, stack := .long v :: rest }) target) : Steps tb e below (T.setTop g) target := by subst hv; exact XT.lmul h hx hg hd hs hr
theorem own_land {tb : Tables} [Ours tb] {e : Env} {below : List Frame} {T target : State} {m : MethodId} {c : Code} {g : JFrame} (h : At T m c below) (hx : tb.exec = Jvm.exec) (hg : g.method = m) {x : Int64} {y : Int64} {v : Int64} {rest : List Value} (hd : decode c.code g.pc = .ok (.land, 1)) (hs : g.stack = .long y :: .long x :: rest) (hv : x &&& y = v)
    (hr : Steps tb e below (T.setTop { g with pc := g.pc + 1, stack := .long v :: rest }) target) : Steps tb e below (T.setTop g) target := by subst hv; exact XT.land h hx hg hd hs hr
theorem own_lshl {tb : Tables} [Ours tb] {e : Env} {below : List Frame} {T target : State} {m : MethodId} {c : Code} {g : JFrame} (h : At T m c below) (hx : tb.exec = Jvm.exec) (hg : g.method = m) {x : Int64} {y : Int32} {v : Int64} {rest : List Value} (hd : decode c.code g.pc = .ok (.lshl, 1)) (hs : g.stack = .int y :: .long x :: rest) (hv : x <<< (y.toInt64 &&& 63) = v)
    (hr : Steps tb e below (T.setTop { g with pc := g.pc + 1, stack := .long v :: rest }) target) : Steps tb e below (T.setTop g) target := by subst hv; exact XT.lshl h hx hg hd hs hr
theorem own_lshr {tb : Tables} [Ours tb] {e : Env} {below : List Frame} {T target : State} {m : MethodId} {c : Code} {g : JFrame} (h : At T m c below) (hx : tb.exec = Jvm.exec) (hg : g.method = m) {x : Int64} {y : Int32} {v : Int64} {rest : List Value} (hd : decode c.code g.pc = .ok (.lshr, 1)) (hs : g.stack = .int y :: .long x :: rest) (hv : x >>> (y.toInt64 &&& 63) = v)
    (hr : Steps tb e below (T.setTop { g with pc := g.pc + 1, stack := .long v :: rest }) target) : Steps tb e below (T.setTop g) target := by subst hv; exact XT.lshr h hx hg hd hs hr
theorem own_lushr {tb : Tables} [Ours tb] {e : Env} {below : List Frame} {T target : State} {m : MethodId} {c : Code} {g : JFrame} (h : At T m c below) (hx : tb.exec = Jvm.exec) (hg : g.method = m) {x : Int64} {y : Int32} {v : Int64} {rest : List Value} (hd : decode c.code g.pc = .ok (.lushr, 1)) (hs : g.stack = .int y :: .long x :: rest) (hv : XT.ushrL x y = v)
    (hr : Steps tb e below (T.setTop { g with pc := g.pc + 1, stack := .long v :: rest }) target) : Steps tb e below (T.setTop g) target := by subst hv; exact XT.lushr h hx hg hd hs hr
theorem own_lrem {tb : Tables} [Ours tb] {e : Env} {below : List Frame} {T target : State} {m : MethodId} {c : Code} {g : JFrame} (h : At T m c below) (hx : tb.exec = Jvm.exec) (hg : g.method = m) {x : Int64} {y : Int64} {v : Int64} {rest : List Value} (hd : decode c.code g.pc = .ok (.lrem, 1)) (hs : g.stack = .long y :: .long x :: rest) (hy : y ≠ 0) (hv : x - (x / y) * y = v)
    (hr : Steps tb e below (T.setTop { g with pc := g.pc + 1, stack := .long v :: rest }) target) : Steps tb e below (T.setTop g) target := by subst hv; exact XT.lrem h hx hg hd hs hy hr
theorem own_lcmp {tb : Tables} [Ours tb] {e : Env} {below : List Frame} {T target : State} {m : MethodId} {c : Code} {g : JFrame} (h : At T m c below) (hx : tb.exec = Jvm.exec) (hg : g.method = m) {x : Int64} {y : Int64} {v : Int32} {rest : List Value} (hd : decode c.code g.pc = .ok (.lcmp, 1)) (hs : g.stack = .long y :: .long x :: rest) (hv : XT.cmpL x y = v)
    (hr : Steps tb e below (T.setTop { g with pc := g.pc + 1, stack := .int v :: rest }) target) : Steps tb e below (T.setTop g) target := by subst hv; exact XT.lcmp h hx hg hd hs hr
theorem own_lneg {tb : Tables} [Ours tb] {e : Env} {below : List Frame} {T target : State} {m : MethodId} {c : Code} {g : JFrame} (h : At T m c below) (hx : tb.exec = Jvm.exec) (hg : g.method = m) {x : Int64} {v : Int64} {rest : List Value} (hd : decode c.code g.pc = .ok (.lneg, 1)) (hs : g.stack = .long x :: rest) (hv : -x = v)
    (hr : Steps tb e below (T.setTop { g with pc := g.pc + 1, stack := .long v :: rest }) target) : Steps tb e below (T.setTop g) target := by subst hv; exact XT.lneg h hx hg hd hs hr
theorem own_i2l {tb : Tables} [Ours tb] {e : Env} {below : List Frame} {T target : State} {m : MethodId} {c : Code} {g : JFrame} (h : At T m c below) (hx : tb.exec = Jvm.exec) (hg : g.method = m) {x : Int32} {v : Int64} {rest : List Value} (hd : decode c.code g.pc = .ok (.i2l, 1)) (hs : g.stack = .int x :: rest) (hv : x.toInt64 = v)
    (hr : Steps tb e below (T.setTop { g with pc := g.pc + 1, stack := .long v :: rest }) target) : Steps tb e below (T.setTop g) target := by subst hv; exact XT.i2l h hx hg hd hs hr
theorem own_l2i {tb : Tables} [Ours tb] {e : Env} {below : List Frame} {T target : State} {m : MethodId} {c : Code} {g : JFrame} (h : At T m c below) (hx : tb.exec = Jvm.exec) (hg : g.method = m) {x : Int64} {v : Int32} {rest : List Value} (hd : decode c.code g.pc = .ok (.l2i, 1)) (hs : g.stack = .long x :: rest) (hv : x.toInt32 = v)
    (hr : Steps tb e below (T.setTop { g with pc := g.pc + 1, stack := .int v :: rest }) target) : Steps tb e below (T.setTop g) target := by subst hv; exact XT.l2i h hx hg hd hs hr
theorem own_ineg {tb : Tables} [Ours tb] {e : Env} {below : List Frame} {T target : State} {m : MethodId} {c : Code} {g : JFrame} (h : At T m c below) (hx : tb.exec = Jvm.exec) (hg : g.method = m) {x : Int32} {v : Int32} {rest : List Value} (hd : decode c.code g.pc = .ok (.ineg, 1)) (hs : g.stack = .int x :: rest) (hv : -x = v)
    (hr : Steps tb e below (T.setTop { g with pc := g.pc + 1, stack := .int v :: rest }) target) : Steps tb e below (T.setTop g) target := by subst hv; exact XS.ineg h hx hg hd hs hr
section OwnFP2
open Jvm.FP.Core
/-- what a condition asks of two whole numbers -/
def own_rel : ClassFile.Cond → Int → Int → Bool
  | .eq, i, j => decide (i = j)
  | .ne, i, j => decide (i ≠ j)
  | .lt, i, j => decide (i < j)
  | .ge, i, j => decide (j ≤ i)
  | .gt, i, j => decide (j < i)
  | .le, i, j => decide (i ≤ j)
theorem own_br2 (cd : ClassFile.Cond) (x y : Int32) : if_icmp.holds cd x y = own_rel cd x.toInt y.toInt := by
  cases cd
  · show (x == y) = decide (x.toInt = y.toInt)
    by_cases h : x = y
    · subst h; simp
    · rw [beq_eq_false_iff_ne.mpr h, decide_eq_false (fun q => h (Int32.toInt_inj.mp q))]
  · show (x != y) = decide (x.toInt ≠ y.toInt)
    by_cases h : x = y
    · subst h; simp
    · rw [bne_iff_ne.mpr h]; exact (decide_eq_true (p := x.toInt ≠ y.toInt) (fun q => h (Int32.toInt_inj.mp q))).symm
  · exact decide_eq_decide.mpr Int32.lt_iff_toInt_lt
  · exact decide_eq_decide.mpr Int32.le_iff_toInt_le
  · exact decide_eq_decide.mpr Int32.lt_iff_toInt_lt
  · exact decide_eq_decide.mpr Int32.le_iff_toInt_le
theorem own_br0 (cd : ClassFile.Cond) (x : Int32) : ifCond.holds cd x = own_rel cd x.toInt 0 := by
  have h : ifCond.holds cd x = if_icmp.holds cd x 0 := by cases cd <;> rfl
  rw [h, own_br2]; rfl
theorem own_rel_iff (cd : ClassFile.Cond) {i j i' j' : Int} (h1 : i < j ↔ i' < j') (h2 : i = j ↔ i' = j') : own_rel cd i j = own_rel cd i' j' := by
  cases cd
  · exact decide_eq_decide.mpr h2
  · exact decide_eq_decide.mpr (not_congr h2)
  · exact decide_eq_decide.mpr h1
  · exact decide_eq_decide.mpr (by omega)
  · exact decide_eq_decide.mpr (by omega)
  · exact decide_eq_decide.mpr (by omega)
theorem own_sgn3 (cd : ClassFile.Cond) {z : Int32} {i j : Int} (h : (i < j ∧ z = -1) ∨ (i = j ∧ z = 0) ∨ (j < i ∧ z = 1)) : ifCond.holds cd z = own_rel cd i j := by
  rw [own_br0]
  refine own_rel_iff cd ?_ ?_ <;> rcases h with ⟨h1, rfl⟩ | ⟨h1, rfl⟩ | ⟨h1, rfl⟩
  · have e1 : (-1 : Int32).toInt = -1 := rfl
    omega
  · have e1 : (0 : Int32).toInt = 0 := rfl
    omega
  · have e1 : (1 : Int32).toInt = 1 := rfl
    omega
  · have e1 : (-1 : Int32).toInt = -1 := rfl
    omega
  · have e1 : (0 : Int32).toInt = 0 := rfl
    omega
  · have e1 : (1 : Int32).toInt = 1 := rfl
    omega
theorem own_brL (cd : ClassFile.Cond) (x y : Int64) : ifCond.holds cd (XT.cmpL x y) = own_rel cd x.toInt y.toInt := by
  refine own_sgn3 cd ?_
  have h := @Int64.toInt_inj x y
  by_cases h1 : y < x
  · refine Or.inr (Or.inr ⟨Int64.lt_iff_toInt_lt.mp h1, ?_⟩)
    show (if y < x then (1 : Int32) else if x = y then 0 else -1) = 1
    rw [if_pos h1]
  · by_cases h2 : x = y
    · refine Or.inr (Or.inl ⟨h.mpr h2, ?_⟩)
      show (if y < x then (1 : Int32) else if x = y then 0 else -1) = 0
      rw [if_neg h1, if_pos h2]
    · refine Or.inl ⟨?_, ?_⟩
      · rw [Int64.lt_iff_toInt_lt] at h1
        have : x.toInt ≠ y.toInt := fun q => h2 (h.mp q)
        omega
      · show (if y < x then (1 : Int32) else if x = y then 0 else -1) = -1
        rw [if_neg h1, if_neg h2]
theorem own_brD (cd : ClassFile.Cond) {k i j : Int} {a b : UInt64} (ha : OwnDS k i a) (hb : OwnDS k j b) (o : CmpOp) : ifCond.holds cd (cmpValue (FP.dcmp a b) o) = own_rel cd i j := by
  have hc : FP.dcmp a b = some (compare i j) := own_ds_cmp ha hb
  rw [hc]
  refine own_sgn3 cd ?_
  rcases Int.lt_trichotomy i j with q | q | q
  · refine Or.inl ⟨q, ?_⟩
    rw [show compare i j = .lt from Int.compare_eq_lt.mpr q]; rfl
  · refine Or.inr (Or.inl ⟨q, ?_⟩)
    rw [show compare i j = .eq from Int.compare_eq_eq.mpr q]; rfl
  · refine Or.inr (Or.inr ⟨q, ?_⟩)
    rw [show compare i j = .gt from Int.compare_eq_gt.mpr q]; rfl
theorem own_nn {k i : Int} {a : UInt64} (h : OwnDS k i a) : Jvm.Free.Fl.NoNaN64 a := Jvm.Free.Fl.val64_no.mpr (own_ds_ne_nan h)
theorem own_i2d (x : Int32) : OwnDS 0 x.toInt (FP.i2d x) := own_ds_int (i2d_int x)
theorem own_l2d {x : Int64} {i : Int} (h : x.toInt = i) (hb : i.natAbs ≤ 9007199254740992) : OwnDS 0 i (FP.l2d x) := by
  subst h; exact own_ds_int (l2d_int (by omega))
theorem own_i32 (x : Int32) : -2147483648 ≤ x.toInt ∧ x.toInt ≤ 2147483648 := by
  have h1 := x.toInt_lt
  have h2 := x.le_toInt
  omega
theorem own_mul_bd {i j A B : Int} (h1 : -A ≤ i ∧ i ≤ A) (h2 : -B ≤ j ∧ j ≤ B) : -(A * B) ≤ i * j ∧ i * j ≤ A * B := by
  have ha : i.natAbs ≤ A.toNat := by omega
  have hb : j.natAbs ≤ B.toNat := by omega
  have h := Nat.mul_le_mul ha hb
  rw [← Int.natAbs_mul] at h
  have e : ((A.toNat * B.toNat : Nat) : Int) = A * B := by
    rw [Int.natCast_mul, Int.toNat_of_nonneg (by omega), Int.toNat_of_nonneg (by omega)]
  generalize A.toNat * B.toNat = n at h e
  omega
theorem own_d2l {i : Int} {a : UInt64} (h : OwnDS 0 i a) (hb : i.natAbs ≤ 9007199254740992) : (FP.d2l a).toInt = i := by
  have e : (Int64.ofInt i).toInt = i := by rw [Int64.toInt_ofInt]; exact Jvm.Kit.bmod64 (by omega) (by omega)
  have q : FP.d2l a = Int64.ofInt i := d2l_int (a := Int64.ofInt i) (b := a) (by rw [e]; exact own_int_ds h)
  rw [q, e]
theorem own_ds_neg {k i : Int} {a : UInt64} (h : OwnDS k i a) : OwnDS k (-i) (FP.dneg a) := by
  show OwnSc _ _ _
  rw [Jvm.FP.val64_dneg]; exact own_sc_neg h
theorem own_fin {k i : Int} {a : UInt64} (h : OwnDS k i a) : DFin a := by
  obtain ⟨s, c, q, hv, -⟩ := own_sc_fin h
  exact ⟨s, c, q, hv⟩
theorem own_isfin {a : UInt64} (h : DFin a) : ifCond.holds .gt (cmpValue (FP.dcmp (a &&& 0x7fffffffffffffff) 9218868437227405311) .g) = false := by
  have hn : dIsNaN a = false := (notNaN_iff a).mpr (by obtain ⟨s, c, q, hv⟩ := h; rw [hv]; exact Datum.noConfusion)
  have q : FP.dcmp (a &&& 0x7fffffffffffffff) 9218868437227405311 = some .lt ∨ FP.dcmp (a &&& 0x7fffffffffffffff) 9218868437227405311 = some .eq := (le_max hn).mpr h
  rcases q with q | q <;> rw [q] <;> rfl
end OwnFP2
theorem own_tmod_bd (x y : Int) (h : 0 < y) : -y < x.tmod y ∧ x.tmod y < y := by
  have q : (x.tmod y).natAbs < y.natAbs := by
    rw [Int.natAbs_tmod]; exact Nat.mod_lt _ (Int.natAbs_pos.mpr (by omega))
  omega
theorem d1_0 : decode prog_5_method_11_code 0 = .ok (.dload_n 0, 1) := by decide +kernel
theorem d1_1 : decode prog_5_method_11_code 1 = .ok (.dload_n 2, 1) := by decide +kernel
theorem d1_2 : decode prog_5_method_11_code 2 = .ok (.dcmp .g, 1) := by decide +kernel
theorem d1_3 : decode prog_5_method_11_code 3 = .ok (.ifCond .ge 10, 3) := by decide +kernel
theorem d1_6 : decode prog_5_method_11_code 6 = .ok (.dload 6, 2) := by decide +kernel
theorem d1_8 : decode prog_5_method_11_code 8 = .ok (.dstore 10, 2) := by decide +kernel
theorem d1_10 : decode prog_5_method_11_code 10 = .ok (.goto 36, 3) := by decide +kernel
theorem d1_13 : decode prog_5_method_11_code 13 = .ok (.dload_n 0, 1) := by decide +kernel
theorem d1_14 : decode prog_5_method_11_code 14 = .ok (.dload 4, 2) := by decide +kernel
theorem d1_16 : decode prog_5_method_11_code 16 = .ok (.dcmp .l, 1) := by decide +kernel
theorem d1_17 : decode prog_5_method_11_code 17 = .ok (.ifCond .lt 10, 3) := by decide +kernel
theorem d1_20 : decode prog_5_method_11_code 20 = .ok (.dload 8, 2) := by decide +kernel
theorem d1_22 : decode prog_5_method_11_code 22 = .ok (.dstore 10, 2) := by decide +kernel
theorem d1_24 : decode prog_5_method_11_code 24 = .ok (.goto 22, 3) := by decide +kernel
theorem d1_27 : decode prog_5_method_11_code 27 = .ok (.dload 6, 2) := by decide +kernel
theorem d1_29 : decode prog_5_method_11_code 29 = .ok (.dload 8, 2) := by decide +kernel
theorem d1_31 : decode prog_5_method_11_code 31 = .ok (.dload 6, 2) := by decide +kernel
theorem d1_33 : decode prog_5_method_11_code 33 = .ok (.dsub, 1) := by decide +kernel
theorem d1_34 : decode prog_5_method_11_code 34 = .ok (.dload_n 0, 1) := by decide +kernel
theorem d1_35 : decode prog_5_method_11_code 35 = .ok (.dload_n 2, 1) := by decide +kernel
theorem d1_36 : decode prog_5_method_11_code 36 = .ok (.dsub, 1) := by decide +kernel
theorem d1_37 : decode prog_5_method_11_code 37 = .ok (.dmul, 1) := by decide +kernel
theorem d1_38 : decode prog_5_method_11_code 38 = .ok (.dload 4, 2) := by decide +kernel
theorem d1_40 : decode prog_5_method_11_code 40 = .ok (.dload_n 2, 1) := by decide +kernel
theorem d1_41 : decode prog_5_method_11_code 41 = .ok (.dsub, 1) := by decide +kernel
theorem d1_42 : decode prog_5_method_11_code 42 = .ok (.ddiv, 1) := by decide +kernel
theorem d1_43 : decode prog_5_method_11_code 43 = .ok (.dadd, 1) := by decide +kernel
theorem d1_44 : decode prog_5_method_11_code 44 = .ok (.dstore 10, 2) := by decide +kernel
theorem d1_46 : decode prog_5_method_11_code 46 = .ok (.dload 10, 2) := by decide +kernel
theorem d1_48 : decode prog_5_method_11_code 48 = .ok (.dreturn, 1) := by decide +kernel
theorem pn_rmB : plainName "com/example/lines_to_lobes/linestolobes/core/library/Thresholds" = true := by first | (simp [plainName, overriddenIn]; done) | decide +kernel
theorem pd_rmB : parseMethodDescriptor "(DDDDD)D" = some ⟨[.double, .double, .double, .double, .double], (some .double)⟩ := by decide +kernel
theorem ef_rmB (m : MethodId) (ua ub uc ud uf : UInt64) (ix ik1 ik2 iy1 iy2 iq : Int) : entryFrame m #[(.double ua), (.double ub), (.double uc), (.double ud), (.double uf)] 12 = (mkF m 0 #[sD ua, uS, sD ub, uS, sD uc, uS, sD ud, uS, sD uf, uS, uU, uU] []) := by first | (simp [entryFrame, mkF, argsToLocals, Value.category, maxLocals]; done) | rfl
def Q_rmB (Z : State) (ua ub uc ud uf : UInt64) (ix ik1 ik2 iy1 iy2 iq : Int) (h0 : Heap) (n0 : Nat) (v : Option Value) (h : Heap) (L : List Loc) : Prop := ∃ r, v = some (.double r) ∧ (ix < ik1 → r = ud) ∧ (ik1 ≤ ix → ik2 ≤ ix → r = uf) ∧ (ik1 ≤ ix → ix < ik2 → OwnDS 0 (iy1 + iq) r) ∧ Fr n0 L ∧ h = h0
set_option maxRecDepth 65536 in
set_option maxHeartbeats 40000000 in
theorem rmB (l : Launch) (Z : State) (a0 : Array Value) (hw : ∀ d ∈ tables_1, d.before a0 Z = true) (ws : List Jvm.Cond) (ua ub uc ud uf : UInt64) (ix ik1 ik2 iy1 iy2 iq : Int) (h0 : Heap) (n0 : Nat) (Z0 : n0 ≤ h0.size) (Da : OwnDS 0 ix ua) (Db : OwnDS 0 ik1 ub) (Dc : OwnDS 0 ik2 uc) (Dd : OwnDS 0 iy1 ud) (Df : OwnDS 0 iy2 uf) (Ba : -4294967296 ≤ ix ∧ ix ≤ 4294967296) (Bb : -4294967296 ≤ ik1 ∧ ik1 ≤ 4294967296) (Bc : -4294967296 ≤ ik2 ∧ ik2 ≤ 4294967296) (Bd0 : -4294967296 ≤ iy1 ∧ iy1 ≤ 4294967296) (Bf : -8589934592 ≤ iy2 ∧ iy2 ≤ 8589934592) (S1 : -2147483648 ≤ iy2 - iy1 ∧ iy2 - iy1 ≤ 2147483648) (S2 : -131072 ≤ ix - ik1 ∧ ix - ik1 ≤ 131072) (hq : (iy2 - iy1) * (ix - ik1) = iq * (ik2 - ik1)) (Bq : -4294967296 ≤ iq ∧ iq ≤ 4294967296) :
    MetFree l (⟨"com/example/lines_to_lobes/linestolobes/core/library/Thresholds", "saturation", "(DDDDD)D"⟩ : MethodName) (head1 (Jvm.Cond.code (⟨"com/example/lines_to_lobes/linestolobes/core/library/Thresholds", "saturation", "(DDDDD)D"⟩ : MethodName) prog_5_method_11_code 12 (some .double) :: ws) ({ frames := 0, cells := 0, slots := 0, locals := 0 } : Room)) (fun a U => a = #[(.double ua), (.double ub), (.double uc), (.double ud), (.double uf)] ∧ Z.Warmed39 U.vm ∧ U.heap = h0) (fun _ _ _ _ _ => True) (fun _ U oO U' => ∃ v L, oO = .returned v ∧ Q_rmB Z ua ub uc ud uf ix ik1 ik2 iy1 iy2 iq h0 n0 v U'.heap L ∧ FrameEnd U oO U' L ({ frames := 0, cells := 0, slots := 0, locals := 0 } : Room).cells ({ frames := 0, cells := 0, slots := 0, locals := 0 } : Room).slots) := by
  refine MetFree.of_bodySF (plainFor_of_name pn_rmB) hisR ?_
  intro p e s m args below meth c s₁ Bd hml0 hP hK
  obtain ⟨rfl, hZ, hh⟩ := hP
  have hx := Bd.exec
  have hby := Bd.bytes
  have hml : c.maxLocals = 12 := hml0
  have hown : s.vm.findClass "com/example/lines_to_lobes/linestolobes/core/library/Thresholds" = some m.cls := findClass_of_methodNamed Bd.named
  have hnm := (name_of_methodNamed Bd.named Bd.method).1
  have hk := Bd.notSynchronized
  have hrt := Bd.returns
  have X0 : Stand p l e ({ frames := 0, cells := 0, slots := 0, locals := 0 } : Room) s m #[(.double ua), (.double ub), (.double uc), (.double ud), (.double uf)] below meth c s₁ [] 0 0 := Stand.of_body Bd
  have e0 : s₁.heap = h0 := by rw [← hh, Bd.state]; rfl
  have N0 := Fr.nil n0
  show OwnGo p.tables e below (OwnEnd s (Q_rmB Z ua ub uc ud uf ix ik1 ik2 iy1 iy2 iq h0 n0) ({ frames := 0, cells := 0, slots := 0, locals := 0 } : Room).cells ({ frames := 0, cells := 0, slots := 0, locals := 0 } : Room).slots) _
  refine OwnGo.pre (fun t k => castTop (ef_rmB m ua ub uc ud uf ix ik1 ik2 iy1 iy2 iq) k) ?_
  show OwnGo _ _ _ _ (s₁.setTop (mkF m 0 #[sD ua, uS, sD ub, uS, sD uc, uS, sD ud, uS, sD uf, uS, uU, uU] []))
  refine OwnGo.pre (fun t k => XS.dloadN X0.here hx rfl (hb hby d1_0) rfl (XS.dloadN X0.here hx rfl (hb hby d1_1) rfl (XS.dcmpS X0.here hx rfl (hb hby d1_2) rfl rfl k))) ?_
  show OwnGo _ _ _ _ (s₁.setTop (mkF m 3 #[sD ua, uS, sD ub, uS, sD uc, uS, sD ud, uS, sD uf, uS, uU, uU] [(.int (cmpValue (FP.dcmp ua ub) .g))]))
  by_cases hA : ix < ik1
  · skip
    refine OwnGo.pre (fun t k => XS.ifNo X0.here hx rfl (hb hby d1_3) rfl ((own_brD .ge Da Db _).trans (decide_eq_false (by omega))) (XS.dload X0.here hx rfl (hb hby d1_6) rfl (XS.dstore X0.here hx rfl (hb hby d1_8) rfl (l' := #[sD ua, uS, sD ub, uS, sD uc, uS, sD ud, uS, sD uf, uS, sD ud, uS]) rfl (XS.goto X0.here hx rfl (pc0 := 10) (pc' := 46) rfl (hb hby d1_10) (by decide) (by decide) (XS.dload X0.here hx rfl (hb hby d1_46) rfl k))))) ?_
    show OwnGo _ _ _ _ (s₁.setTop (mkF m 48 #[sD ua, uS, sD ub, uS, sD uc, uS, sD ud, uS, sD uf, uS, sD ud, uS] [(.double ud)]))
    exact own_retD X0 hx hk hrt (hb hby d1_48) ⟨_, rfl, fun _ => rfl, fun q => absurd hA (by omega), fun q => absurd hA (by omega), N0, e0⟩ (by decide) (by decide)
  · skip
    refine OwnGo.pre (fun t k => XS.ifYes X0.here hx rfl (pc0 := 3) (pc' := 13) rfl (hb hby d1_3) rfl ((own_brD .ge Da Db _).trans (decide_eq_true (by omega))) (by decide) (by decide) (XS.dloadN X0.here hx rfl (hb hby d1_13) rfl (XS.dload X0.here hx rfl (hb hby d1_14) rfl (XS.dcmpS X0.here hx rfl (hb hby d1_16) rfl rfl k)))) ?_
    show OwnGo _ _ _ _ (s₁.setTop (mkF m 17 #[sD ua, uS, sD ub, uS, sD uc, uS, sD ud, uS, sD uf, uS, uU, uU] [(.int (cmpValue (FP.dcmp ua uc) .l))]))
    by_cases hB : ik2 ≤ ix
    · skip
      refine OwnGo.pre (fun t k => XS.ifNo X0.here hx rfl (hb hby d1_17) rfl ((own_brD .lt Da Dc _).trans (decide_eq_false (by omega))) (XS.dload X0.here hx rfl (hb hby d1_20) rfl (XS.dstore X0.here hx rfl (hb hby d1_22) rfl (l' := #[sD ua, uS, sD ub, uS, sD uc, uS, sD ud, uS, sD uf, uS, sD uf, uS]) rfl (XS.goto X0.here hx rfl (pc0 := 24) (pc' := 46) rfl (hb hby d1_24) (by decide) (by decide) (XS.dload X0.here hx rfl (hb hby d1_46) rfl k))))) ?_
      show OwnGo _ _ _ _ (s₁.setTop (mkF m 48 #[sD ua, uS, sD ub, uS, sD uc, uS, sD ud, uS, sD uf, uS, sD uf, uS] [(.double uf)]))
      exact own_retD X0 hx hk hrt (hb hby d1_48) ⟨_, rfl, fun q => absurd q hA, fun _ _ => rfl, fun _ q => absurd hB (by omega), N0, e0⟩ (by decide) (by decide)
    · skip
      have Dq1 : OwnDS 0 (iy2 - iy1) (FP.dsub uf ud) := own_ds_sub (n := 53) Df Dd (by omega)
      obtain ⟨d1, hd1⟩ : ∃ v, FP.dsub uf ud = v := ⟨_, rfl⟩
      obtain ⟨j1, hj1⟩ : ∃ i : Int, i = iy2 - iy1 := ⟨_, rfl⟩
      have B1 : -12884901888 ≤ j1 ∧ j1 ≤ 12884901888 := by omega
      have D1 : OwnDS 0 j1 d1 := by rw [hj1, ← hd1]; exact Dq1
      have Bs1 : -2147483648 ≤ j1 ∧ j1 ≤ 2147483648 := by omega
      have Dq2 : OwnDS 0 (ix - ik1) (FP.dsub ua ub) := own_ds_sub (n := 53) Da Db (by omega)
      obtain ⟨d2, hd2⟩ : ∃ v, FP.dsub ua ub = v := ⟨_, rfl⟩
      refine OwnGo.pre (fun t k => XS.ifYes X0.here hx rfl (pc0 := 17) (pc' := 27) rfl (hb hby d1_17) rfl ((own_brD .lt Da Dc _).trans (decide_eq_true (by omega))) (by decide) (by decide) (XS.dload X0.here hx rfl (hb hby d1_27) rfl (XS.dload X0.here hx rfl (hb hby d1_29) rfl (XS.dload X0.here hx rfl (hb hby d1_31) rfl (XS.dsubS X0.here hx rfl (hb hby d1_33) rfl (own_nn Dq1) hd1 (XS.dloadN X0.here hx rfl (hb hby d1_34) rfl (XS.dloadN X0.here hx rfl (hb hby d1_35) rfl (XS.dsubS X0.here hx rfl (hb hby d1_36) rfl (own_nn Dq2) hd2 k)))))))) ?_
      show OwnGo _ _ _ _ (s₁.setTop (mkF m 37 #[sD ua, uS, sD ub, uS, sD uc, uS, sD ud, uS, sD uf, uS, uU, uU] [(.double d2), (.double d1), (.double ud)]))
      obtain ⟨j2, hj2⟩ : ∃ i : Int, i = ix - ik1 := ⟨_, rfl⟩
      have B2 : -8589934592 ≤ j2 ∧ j2 ≤ 8589934592 := by omega
      have D2 : OwnDS 0 j2 d2 := by rw [hj2, ← hd2]; exact Dq2
      have Bs2 : -131072 ≤ j2 ∧ j2 ≤ 131072 := by omega
      obtain ⟨j3, hj3⟩ : ∃ i : Int, i = j1 * j2 := ⟨_, rfl⟩
      have B3 : -281474976710656 ≤ j3 ∧ j3 ≤ 281474976710656 := by have q := own_mul_bd Bs1 Bs2; omega
      have Dq3 : OwnDS 0 j3 (FP.dmul d1 d2) := by rw [hj3]; exact own_ds_mul (n := 53) D1 D2 (by omega)
      obtain ⟨d3, hd3⟩ : ∃ v, FP.dmul d1 d2 = v := ⟨_, rfl⟩
      have D3 : OwnDS 0 j3 d3 := by rw [← hd3]; exact Dq3
      have Dq4 : OwnDS 0 (ik2 - ik1) (FP.dsub uc ub) := own_ds_sub (n := 53) Dc Db (by omega)
      obtain ⟨d4, hd4⟩ : ∃ v, FP.dsub uc ub = v := ⟨_, rfl⟩
      obtain ⟨j4, hj4⟩ : ∃ i : Int, i = ik2 - ik1 := ⟨_, rfl⟩
      have B4 : -8589934592 ≤ j4 ∧ j4 ≤ 8589934592 := by omega
      have D4 : OwnDS 0 j4 d4 := by rw [hj4, ← hd4]; exact Dq4
      have Dv : OwnDS 0 iq (FP.ddiv d3 d4) := own_ds_div (n := 53) D3 D4 (by omega) (by rw [hj3, show j1 = iy2 - iy1 by omega, show j2 = ix - ik1 by omega, hq, show j4 = ik2 - ik1 by omega]) (by omega)
      obtain ⟨dv, hdv⟩ : ∃ v, FP.ddiv d3 d4 = v := ⟨_, rfl⟩
      refine OwnGo.pre (fun t k => XS.dmulS X0.here hx rfl (hb hby d1_37) rfl (own_nn Dq3) hd3 (XS.dload X0.here hx rfl (hb hby d1_38) rfl (XS.dloadN X0.here hx rfl (hb hby d1_40) rfl (XS.dsubS X0.here hx rfl (hb hby d1_41) rfl (own_nn Dq4) hd4 (XS.ddivS X0.here hx rfl (hb hby d1_42) rfl (own_nn Dv) hdv k))))) ?_
      show OwnGo _ _ _ _ (s₁.setTop (mkF m 43 #[sD ua, uS, sD ub, uS, sD uc, uS, sD ud, uS, sD uf, uS, uU, uU] [(.double dv), (.double ud)]))
      rw [hdv] at Dv
      have Dq5 : OwnDS 0 (iy1 + iq) (FP.dadd ud dv) := own_ds_add (n := 53) Dd Dv (by omega)
      obtain ⟨d5, hd5⟩ : ∃ v, FP.dadd ud dv = v := ⟨_, rfl⟩
      obtain ⟨j5, hj5⟩ : ∃ i : Int, i = iy1 + iq := ⟨_, rfl⟩
      have B5 : -8589934592 ≤ j5 ∧ j5 ≤ 8589934592 := by omega
      have D5 : OwnDS 0 j5 d5 := by rw [hj5, ← hd5]; exact Dq5
      refine OwnGo.pre (fun t k => XS.daddS X0.here hx rfl (hb hby d1_43) rfl (own_nn Dq5) hd5 (XS.dstore X0.here hx rfl (hb hby d1_44) rfl (l' := #[sD ua, uS, sD ub, uS, sD uc, uS, sD ud, uS, sD uf, uS, sD d5, uS]) rfl (XS.dload X0.here hx rfl (hb hby d1_46) rfl k))) ?_
      show OwnGo _ _ _ _ (s₁.setTop (mkF m 48 #[sD ua, uS, sD ub, uS, sD uc, uS, sD ud, uS, sD uf, uS, sD d5, uS] [(.double d5)]))
      exact own_retD X0 hx hk hrt (hb hby d1_48) ⟨_, rfl, fun q => absurd q hA, fun _ q => absurd q hB, fun _ _ => by rw [← hj5]; exact D5, N0, e0⟩ (by decide) (by decide)
theorem pn_rmL : plainName "com/example/lines_to_lobes/linestolobes/core/library/ThresholdsSaturationPinLaw" = true := by first | (simp [plainName, overriddenIn]; done) | decide +kernel
theorem ef_rmL (m : MethodId) (p0 p1 p2 p3 p4 : Int32) : entryFrame m #[(.int p0), (.int p1), (.int p2), (.int p3), (.int p4)] maxLocals = (mkF m 0 #[sI p0, sI p1, sI p2, sI p3, sI p4, uU, uU, uU, uU, uU, uU, uU, uU, uU, uU, uU, uU, uU, uU, uU, uU, uU, uU] []) := by first | (simp [entryFrame, mkF, argsToLocals, Value.category, maxLocals]; done) | rfl
def Q_rmL (Z : State) (p0 p1 p2 p3 p4 : Int32) (h0 : Heap) (n0 : Nat) (v : Option Value) (h : Heap) (L : List Loc) : Prop := v = some (.int 1) ∧ Fr n0 L
set_option maxRecDepth 65536 in
set_option maxHeartbeats 40000000 in
theorem rmL (l : Launch) (Z : State) (a0 : Array Value) (hw : ∀ d ∈ tables_1, d.before a0 Z = true) (ws : List Jvm.Cond) (p0 p1 p2 p3 p4 : Int32) (h0 : Heap) (n0 : Nat) (Z0 : n0 ≤ h0.size)  :
    MetFree l x (head1 (Jvm.Cond.code x code maxLocals ret :: ws) room_1) (fun a U => a = #[(.int p0), (.int p1), (.int p2), (.int p3), (.int p4)] ∧ Z.Warmed39 U.vm ∧ U.heap = h0) (fun _ _ _ _ _ => True) (fun _ U oO U' => ∃ v L, oO = .returned v ∧ Q_rmL Z p0 p1 p2 p3 p4 h0 n0 v U'.heap L ∧ FrameEnd U oO U' L room_1.cells room_1.slots) := by
  refine MetFree.of_bodySF (plainFor_of_name pn_rmL) hisR ?_
  intro p e s m args below meth c s₁ Bd hml0 hP hK
  obtain ⟨rfl, hZ, hh⟩ := hP
  have hx := Bd.exec
  have hby := Bd.bytes
  have hml : c.maxLocals = 23 := hml0
  have hown : s.vm.findClass "com/example/lines_to_lobes/linestolobes/core/library/ThresholdsSaturationPinLaw" = some m.cls := findClass_of_methodNamed Bd.named
  have hnm := (name_of_methodNamed Bd.named Bd.method).1
  have hk := Bd.notSynchronized
  have hrt := Bd.returns
  have X0 : Stand p l e room_1 s m #[(.int p0), (.int p1), (.int p2), (.int p3), (.int p4)] below meth c s₁ [] 0 0 := Stand.of_body Bd
  have e0 : s₁.heap = h0 := by rw [← hh, Bd.state]; rfl
  have N0 := Fr.nil n0
  show OwnGo p.tables e below (OwnEnd s (Q_rmL Z p0 p1 p2 p3 p4 h0 n0) room_1.cells room_1.slots) _
  refine OwnGo.pre (fun t k => castTop (ef_rmL m p0 p1 p2 p3 p4) k) ?_
  show OwnGo _ _ _ _ (s₁.setTop (mkF m 0 #[sI p0, sI p1, sI p2, sI p3, sI p4, uU, uU, uU, uU, uU, uU, uU, uU, uU, uU, uU, uU, uU, uU, uU, uU, uU, uU] []))
  obtain ⟨j6, F6⟩ : ∃ i : Int, p0.toInt = i := ⟨_, rfl⟩
  have B6 : -2147483648 ≤ j6 ∧ j6 ≤ 2147483648 := F6 ▸ own_i32 p0
  obtain ⟨j7, F7⟩ : ∃ i : Int, p2.toInt = i := ⟨_, rfl⟩
  have B7 : -2147483648 ≤ j7 ∧ j7 ≤ 2147483648 := F7 ▸ own_i32 p2
  obtain ⟨j8, F8⟩ : ∃ i : Int, p3.toInt = i := ⟨_, rfl⟩
  have B8 : -2147483648 ≤ j8 ∧ j8 ≤ 2147483648 := F8 ▸ own_i32 p3
  obtain ⟨md, hmd⟩ : ∃ v, p1 &&& (65535 : Int32) = v := ⟨_, rfl⟩
  obtain ⟨jd, Fd⟩ : ∃ i : Int, md.toInt = i := ⟨_, rfl⟩
  have Pd : 0 ≤ jd ∧ jd ≤ 65535 := by have q := Jvm.Kit.i32_mask p1 65535 (k := 16) (by decide) (by decide); rw [hmd, Fd] at q; omega
  have Bd : -65535 ≤ jd ∧ jd ≤ 65535 := by omega
  obtain ⟨v9, hv9⟩ : ∃ v, md.toInt64 = v := ⟨_, rfl⟩
  have F9 : v9.toInt = jd := by rw [← hv9, Jvm.Kit.i64_of_i32, Fd]
  obtain ⟨mm, hmm⟩ : ∃ v, p4 >>> ((16 : Int32) &&& 31) = v := ⟨_, rfl⟩
  refine OwnGo.pre (fun t k => XS.iloadN X0.here hx rfl (hb hby at_0) rfl (own_ldcI X0 hx hown (mvT hZ (hw _ (List.mem_of_getElem? (i := 0) rfl))) rfl (hb hby at_1) (own_iand X0.here hx rfl (hb hby at_3) rfl hmd (own_i2l X0.here hx rfl (hb hby at_4) rfl hv9 (XT.lstore X0.here hx rfl (hb hby at_5) rfl (l' := #[sI p0, sI p1, sI p2, sI p3, sI p4, sJ v9, uS, uU, uU, uU, uU, uU, uU, uU, uU, uU, uU, uU, uU, uU, uU, uU, uU]) rfl (XS.iload X0.here hx rfl (hb hby at_7) rfl (XS.bipush X0.here hx rfl (hb hby at_9) (own_ishr X0.here hx rfl (hb hby at_11) rfl hmm k)))))))) ?_
  show OwnGo _ _ _ _ (s₁.setTop (mkF m 12 #[sI p0, sI p1, sI p2, sI p3, sI p4, sJ v9, uS, uU, uU, uU, uU, uU, uU, uU, uU, uU, uU, uU, uU, uU, uU, uU, uU] [(.int mm)]))
  obtain ⟨jm, Fm⟩ : ∃ i : Int, mm.toInt = i := ⟨_, rfl⟩
  have Bm : -32768 ≤ jm ∧ jm ≤ 32768 := by have q := Jvm.Kit.i32_shr p4 ((16 : Int32) &&& 31) (k := 16) (by decide); have q1 := own_i32 p4; rw [hmm, Fm] at q; omega
  obtain ⟨v10, hv10⟩ : ∃ v, mm.toInt64 = v := ⟨_, rfl⟩
  have F10 : v10.toInt = jm := by rw [← hv10, Jvm.Kit.i64_of_i32, Fm]
  obtain ⟨v11, hv11⟩ : ∃ v, p2.toInt64 = v := ⟨_, rfl⟩
  have F11 : v11.toInt = j7 := by rw [← hv11, Jvm.Kit.i64_of_i32, F7]
  have F12 : (2 : Int64).toInt = 2 := by decide
  have B12 : -2 ≤ (2 : Int) ∧ (2 : Int) ≤ 2 := by omega
  obtain ⟨v13, hv13⟩ : ∃ v, (2 : Int64) * v9 = v := ⟨_, rfl⟩
  obtain ⟨j13, hj13⟩ : ∃ i : Int, i = (2 : Int) * jd := ⟨_, rfl⟩
  have B13 : -131070 ≤ j13 ∧ j13 ≤ 131070 := by have q := own_mul_bd B12 Bd; omega
  have F13 : v13.toInt = j13 := by rw [← hv13, Jvm.Kit.i64_mul (by rw [F12, F9]; omega) (by rw [F12, F9]; omega), F12, F9]; exact hj13.symm
  refine OwnGo.pre (fun t k => own_i2l X0.here hx rfl (hb hby at_12) rfl hv10 (XT.lstore X0.here hx rfl (hb hby at_13) rfl (l' := #[sI p0, sI p1, sI p2, sI p3, sI p4, sJ v9, uS, sJ v10, uS, uU, uU, uU, uU, uU, uU, uU, uU, uU, uU, uU, uU, uU, uU]) rfl (XS.iloadN X0.here hx rfl (hb hby at_15) rfl (own_i2l X0.here hx rfl (hb hby at_16) rfl hv11 (own_ldcJ X0 hx hown (mvT hZ (hw _ (List.mem_of_getElem? (i := 1) rfl))) rfl (hb hby at_17) (XT.lload X0.here hx rfl (hb hby at_20) rfl (own_lmul X0.here hx rfl (hb hby at_22) rfl hv13 (own_ldcJ X0 hx hown (mvT hZ (hw _ (List.mem_of_getElem? (i := 1) rfl))) rfl (hb hby at_23) k)))))))) ?_
  show OwnGo _ _ _ _ (s₁.setTop (mkF m 26 #[sI p0, sI p1, sI p2, sI p3, sI p4, sJ v9, uS, sJ v10, uS, uU, uU, uU, uU, uU, uU, uU, uU, uU, uU, uU, uU, uU, uU] [(.long (2 : Int64)), (.long v13), (.long v11)]))
  obtain ⟨v14, hv14⟩ : ∃ v, v13 + (2 : Int64) = v := ⟨_, rfl⟩
  obtain ⟨j14, hj14⟩ : ∃ i : Int, i = j13 + (2 : Int) := ⟨_, rfl⟩
  have B14 : -131072 ≤ j14 ∧ j14 ≤ 131072 := by omega
  have F14 : v14.toInt = j14 := by rw [← hv14, Jvm.Kit.i64_add (by omega) (by omega), F13, F12]; exact hj14.symm
  have Hy : v14 ≠ 0 := fun q => by have q1 := F14; rw [q] at q1; have q2 : (0 : Int64).toInt = 0 := rfl; omega
  obtain ⟨vo, hvo⟩ : ∃ v, v11 - (v11 / v14) * v14 = v := ⟨_, rfl⟩
  obtain ⟨jo, Fo⟩ : ∃ i : Int, vo.toInt = i := ⟨_, rfl⟩
  have Bo : -131072 ≤ jo ∧ jo ≤ 131072 := by have q := Jvm.Kit.i64_rem v11 v14; rw [hvo, Fo, F11, F14] at q; have q2 := own_tmod_bd j7 j14 (by omega); omega
  obtain ⟨v15, hv15⟩ : ∃ v, p0.toInt64 = v := ⟨_, rfl⟩
  have F15 : v15.toInt = j6 := by rw [← hv15, Jvm.Kit.i64_of_i32, F6]
  refine OwnGo.pre (fun t k => own_ladd X0.here hx rfl (hb hby at_26) rfl hv14 (own_lrem X0.here hx rfl (hb hby at_27) rfl Hy hvo (XT.lstore X0.here hx rfl (hb hby at_28) rfl (l' := #[sI p0, sI p1, sI p2, sI p3, sI p4, sJ v9, uS, sJ v10, uS, sJ vo, uS, uU, uU, uU, uU, uU, uU, uU, uU, uU, uU, uU, uU]) rfl (XS.iloadN X0.here hx rfl (hb hby at_30) rfl (own_i2l X0.here hx rfl (hb hby at_31) rfl hv15 (XT.lstore X0.here hx rfl (hb hby at_32) rfl (l' := #[sI p0, sI p1, sI p2, sI p3, sI p4, sJ v9, uS, sJ v10, uS, sJ vo, uS, sJ v15, uS, uU, uU, uU, uU, uU, uU, uU, uU, uU, uU]) rfl (XT.lload X0.here hx rfl (hb hby at_34) rfl (XT.lload X0.here hx rfl (hb hby at_36) rfl k)))))))) ?_
  show OwnGo _ _ _ _ (s₁.setTop (mkF m 38 #[sI p0, sI p1, sI p2, sI p3, sI p4, sJ v9, uS, sJ v10, uS, sJ vo, uS, sJ v15, uS, uU, uU, uU, uU, uU, uU, uU, uU, uU, uU] [(.long v9), (.long v15)]))
  obtain ⟨v16, hv16⟩ : ∃ v, v15 + v9 = v := ⟨_, rfl⟩
  obtain ⟨j16, hj16⟩ : ∃ i : Int, i = j6 + jd := ⟨_, rfl⟩
  have B16 : -2147549183 ≤ j16 ∧ j16 ≤ 2147549183 := by omega
  have F16 : v16.toInt = j16 := by rw [← hv16, Jvm.Kit.i64_add (by omega) (by omega), F15, F9]; exact hj16.symm
  obtain ⟨v17, hv17⟩ : ∃ v, v15 + vo = v := ⟨_, rfl⟩
  obtain ⟨j17, hj17⟩ : ∃ i : Int, i = j6 + jo := ⟨_, rfl⟩
  have B17 : -2147614720 ≤ j17 ∧ j17 ≤ 2147614720 := by omega
  have F17 : v17.toInt = j17 := by rw [← hv17, Jvm.Kit.i64_add (by omega) (by omega), F15, Fo]; exact hj17.symm
  obtain ⟨v18, hv18⟩ : ∃ v, p3.toInt64 = v := ⟨_, rfl⟩
  refine OwnGo.pre (fun t k => own_ladd X0.here hx rfl (hb hby at_38) rfl hv16 (XT.lstore X0.here hx rfl (hb hby at_39) rfl (l' := #[sI p0, sI p1, sI p2, sI p3, sI p4, sJ v9, uS, sJ v10, uS, sJ vo, uS, sJ v15, uS, sJ v16, uS, uU, uU, uU, uU, uU, uU, uU, uU]) rfl (XT.lload X0.here hx rfl (hb hby at_41) rfl (XT.lload X0.here hx rfl (hb hby at_43) rfl (own_ladd X0.here hx rfl (hb hby at_45) rfl hv17 (XT.lstore X0.here hx rfl (hb hby at_46) rfl (l' := #[sI p0, sI p1, sI p2, sI p3, sI p4, sJ v9, uS, sJ v10, uS, sJ vo, uS, sJ v15, uS, sJ v16, uS, sJ v17, uS, uU, uU, uU, uU, uU, uU]) rfl (XS.iloadN X0.here hx rfl (hb hby at_48) rfl (own_i2l X0.here hx rfl (hb hby at_49) rfl hv18 k)))))))) ?_
  show OwnGo _ _ _ _ (s₁.setTop (mkF m 50 #[sI p0, sI p1, sI p2, sI p3, sI p4, sJ v9, uS, sJ v10, uS, sJ vo, uS, sJ v15, uS, sJ v16, uS, sJ v17, uS, uU, uU, uU, uU, uU, uU] [(.long v18)]))
  have F18 : v18.toInt = j8 := by rw [← hv18, Jvm.Kit.i64_of_i32, F8]
  obtain ⟨v19, hv19⟩ : ∃ v, v10 * v9 = v := ⟨_, rfl⟩
  obtain ⟨j19, hj19⟩ : ∃ i : Int, i = jm * jd := ⟨_, rfl⟩
  have B19 : -2147450880 ≤ j19 ∧ j19 ≤ 2147450880 := by have q := own_mul_bd Bm Bd; omega
  have F19 : v19.toInt = j19 := by rw [← hv19, Jvm.Kit.i64_mul (by rw [F10, F9]; omega) (by rw [F10, F9]; omega), F10, F9]; exact hj19.symm
  obtain ⟨v20, hv20⟩ : ∃ v, v18 + v19 = v := ⟨_, rfl⟩
  obtain ⟨j20, hj20⟩ : ∃ i : Int, i = j8 + j19 := ⟨_, rfl⟩
  have B20 : -4294934528 ≤ j20 ∧ j20 ≤ 4294934528 := by omega
  have F20 : v20.toInt = j20 := by rw [← hv20, Jvm.Kit.i64_add (by omega) (by omega), F18, F19]; exact hj20.symm
  obtain ⟨d21, hd21⟩ : ∃ v, FP.l2d v17 = v := ⟨_, rfl⟩
  have D21 : OwnDS 0 j17 d21 := by rw [← hd21]; exact own_l2d F17 (by omega)
  refine OwnGo.pre (fun t k => XT.lload X0.here hx rfl (hb hby at_50) rfl (XT.lload X0.here hx rfl (hb hby at_52) rfl (own_lmul X0.here hx rfl (hb hby at_54) rfl hv19 (own_ladd X0.here hx rfl (hb hby at_55) rfl hv20 (XT.lstore X0.here hx rfl (hb hby at_56) rfl (l' := #[sI p0, sI p1, sI p2, sI p3, sI p4, sJ v9, uS, sJ v10, uS, sJ vo, uS, sJ v15, uS, sJ v16, uS, sJ v17, uS, sJ v20, uS, uU, uU, uU, uU]) rfl (XT.lload X0.here hx rfl (hb hby at_58) rfl (XS.l2dS X0.here hx rfl (hb hby at_60) rfl hd21 (XT.lload X0.here hx rfl (hb hby at_61) rfl k)))))))) ?_
  show OwnGo _ _ _ _ (s₁.setTop (mkF m 63 #[sI p0, sI p1, sI p2, sI p3, sI p4, sJ v9, uS, sJ v10, uS, sJ vo, uS, sJ v15, uS, sJ v16, uS, sJ v17, uS, sJ v20, uS, uU, uU, uU, uU] [(.long v15), (.double d21)]))
  obtain ⟨d22, hd22⟩ : ∃ v, FP.l2d v15 = v := ⟨_, rfl⟩
  have D22 : OwnDS 0 j6 d22 := by rw [← hd22]; exact own_l2d F15 (by omega)
  obtain ⟨d23, hd23⟩ : ∃ v, FP.l2d v16 = v := ⟨_, rfl⟩
  have D23 : OwnDS 0 j16 d23 := by rw [← hd23]; exact own_l2d F16 (by omega)
  obtain ⟨d24, hd24⟩ : ∃ v, FP.i2d p3 = v := ⟨_, rfl⟩
  have D24 : OwnDS 0 j8 d24 := by rw [← hd24, ← F8]; exact own_i2d _
  obtain ⟨d25, hd25⟩ : ∃ v, FP.l2d v20 = v := ⟨_, rfl⟩
  have D25 : OwnDS 0 j20 d25 := by rw [← hd25]; exact own_l2d F20 (by omega)
  obtain ⟨jq, hjq⟩ : ∃ i : Int, i = jm * jo := ⟨_, rfl⟩
  have Bjq : -4294967296 ≤ jq ∧ jq ≤ 4294967296 := by have q := own_mul_bd Bm Bo; omega
  have Hmd : j20 - j8 = jm * jd := by omega
  have Hmd2 := own_mul_bd Bm Bd
  have Hq : (j20 - j8) * (j17 - j6) = jq * (j16 - j6) := by rw [Hmd, hjq, show j17 - j6 = jo by omega, show j16 - j6 = jd by omega]; exact Int.mul_right_comm _ _ _
  refine OwnGo.pre (fun t k => XS.l2dS X0.here hx rfl (hb hby at_63) rfl hd22 (XT.lload X0.here hx rfl (hb hby at_64) rfl (XS.l2dS X0.here hx rfl (hb hby at_66) rfl hd23 (XS.iloadN X0.here hx rfl (hb hby at_67) rfl (XS.i2dS X0.here hx rfl (hb hby at_68) rfl hd24 (XT.lload X0.here hx rfl (hb hby at_69) rfl (XS.l2dS X0.here hx rfl (hb hby at_71) rfl hd25 k))))))) ?_
  show OwnGo _ _ _ _ (s₁.setTop (mkF m 72 #[sI p0, sI p1, sI p2, sI p3, sI p4, sJ v9, uS, sJ v10, uS, sJ vo, uS, sJ v15, uS, sJ v16, uS, sJ v17, uS, sJ v20, uS, uU, uU, uU, uU] [(.double d25), (.double d24), (.double d23), (.double d22), (.double d21)]))
  obtain ⟨_, _, ⟨T26, L26, k26, n26⟩, -, X26, ⟨Lc26, hQ26, l26, y26, z26⟩, st26⟩ := Jvm.LawKit.callS X0 hx (y := (⟨"com/example/lines_to_lobes/linestolobes/core/library/Thresholds", "saturation", "(DDDDD)D"⟩ : MethodName)) hown (mvT hZ (hw _ (List.mem_of_getElem? (i := 2) rfl))) (mvT hZ (hw _ (List.mem_of_getElem? (i := 3) rfl))) (mvT hZ (hw _ (List.mem_of_getElem? (i := 4) rfl))) (mvT hZ (hw _ (List.mem_of_getElem? (i := 5) rfl))) (by decide) (backOf (W := 0) (rmB l Z a0 hw [] d21 d22 d23 d24 d25 j17 j6 j16 j8 j20 jq h0 n0 Z0 D21 D22 D23 D24 D25 ⟨by omega, by omega⟩ ⟨by omega, by omega⟩ ⟨by omega, by omega⟩ ⟨by omega, by omega⟩ ⟨by omega, by omega⟩ ⟨by omega, by omega⟩ ⟨by omega, by omega⟩ Hq Bjq) hZ (hw _ (List.mem_of_getElem? (i := 5) rfl)) (hw _ (List.mem_of_getElem? (i := 4) rfl)) (by decide) (by decide)) (g := (mkF m 72 #[sI p0, sI p1, sI p2, sI p3, sI p4, sJ v9, uS, sJ v10, uS, sJ vo, uS, sJ v15, uS, sJ v16, uS, sJ v17, uS, sJ v20, uS, uU, uU, uU, uU] [(.double d25), (.double d24), (.double d23), (.double d22), (.double d21)])) rfl (by rw [hml]; rfl) (argsL := [(.double d21), (.double d22), (.double d23), (.double d24), (.double d25)]) (rest := []) (lenOf pd_rmB rfl) rfl (by show 2 * 0 + _ ≤ _; exact Nat.le_of_eq rfl) (hb hby at_72) (fun _ _ => ⟨rfl, e0, (by decide : 0 + 0 ≤ _), (by decide : 0 + 0 ≤ _)⟩)
  dsimp only [Pt.U, Pt.locs, Pt.cells, Pt.slots] at X26 l26 y26 z26 st26 hQ26
  subst l26 y26 z26
  obtain ⟨rr, rfl, hr1, hr2, hr3, N26, e26⟩ := hQ26
  refine OwnGo.pre (fun t k => st26 t k) ?_
  show OwnGo _ _ _ _ (T26.setTop (mkF m 75 #[sI p0, sI p1, sI p2, sI p3, sI p4, sJ v9, uS, sJ v10, uS, sJ vo, uS, sJ v15, uS, sJ v16, uS, sJ v17, uS, sJ v20, uS, uU, uU, uU, uU] [(.double rr)]))
  have M26 := Fr.app N0 N26
  have F27 : (0 : Int64).toInt = 0 := by decide
  have B27 : -0 ≤ (0 : Int) ∧ (0 : Int) ≤ 0 := by omega
  refine OwnGo.pre (fun t k => XS.dstore X26.here hx rfl (hb hby at_75) rfl (l' := #[sI p0, sI p1, sI p2, sI p3, sI p4, sJ v9, uS, sJ v10, uS, sJ vo, uS, sJ v15, uS, sJ v16, uS, sJ v17, uS, sJ v20, uS, sD rr, uS, uU, uU]) rfl (XT.lload X26.here hx rfl (hb hby at_77) rfl (XT.lconst X26.here hx rfl (hb hby at_79) (own_lcmp X26.here hx rfl (hb hby at_80) rfl rfl k)))) ?_
  show OwnGo _ _ _ _ (T26.setTop (mkF m 81 #[sI p0, sI p1, sI p2, sI p3, sI p4, sJ v9, uS, sJ v10, uS, sJ vo, uS, sJ v15, uS, sJ v16, uS, sJ v17, uS, sJ v20, uS, sD rr, uS, uU, uU] [(.int (XT.cmpL vo (0 : Int64)))]))
  by_cases hX : jo < 0
  · skip
    obtain ⟨d28, hd28⟩ : ∃ v, FP.i2d p3 = v := ⟨_, rfl⟩
    have D28 : OwnDS 0 j8 d28 := by rw [← hd28, ← F8]; exact own_i2d _
    have Dr : OwnDS 0 j8 rr := by rw [hr1 (by omega)]; exact D24
    refine OwnGo.pre (fun t k => XS.ifNo X26.here hx rfl (hb hby at_81) rfl ((own_brL .ge _ _).trans (decide_eq_false (by omega))) (XS.iloadN X26.here hx rfl (hb hby at_84) rfl (XS.i2dS X26.here hx rfl (hb hby at_85) rfl hd28 (XS.dstore X26.here hx rfl (hb hby at_86) rfl (l' := #[sI p0, sI p1, sI p2, sI p3, sI p4, sJ v9, uS, sJ v10, uS, sJ vo, uS, sJ v15, uS, sJ v16, uS, sJ v17, uS, sJ v20, uS, sD rr, uS, sD d28, uS]) rfl (XS.goto X26.here hx rfl (pc0 := 88) (pc' := 118) rfl (hb hby at_88) (by decide) (by decide) (XS.dload X26.here hx rfl (hb hby at_118) rfl (XS.dload X26.here hx rfl (hb hby at_120) rfl (XS.dcmpS X26.here hx rfl (hb hby at_122) rfl rfl k)))))))) ?_
    show OwnGo _ _ _ _ (T26.setTop (mkF m 123 #[sI p0, sI p1, sI p2, sI p3, sI p4, sJ v9, uS, sJ v10, uS, sJ vo, uS, sJ v15, uS, sJ v16, uS, sJ v17, uS, sJ v20, uS, sD rr, uS, sD d28, uS] [(.int (cmpValue (FP.dcmp rr d28) .l))]))
    refine OwnGo.pre (fun t k => XS.ifNo X26.here hx rfl (hb hby at_123) rfl ((own_brD .ne Dr D28 _).trans (decide_eq_false (by omega))) (XS.iconst X26.here hx rfl (hb hby at_126) (XS.goto X26.here hx rfl (pc0 := 127) (pc' := 131) rfl (hb hby at_127) (by decide) (by decide) k))) ?_
    show OwnGo _ _ _ _ (T26.setTop (mkF m 131 #[sI p0, sI p1, sI p2, sI p3, sI p4, sJ v9, uS, sJ v10, uS, sJ vo, uS, sJ v15, uS, sJ v16, uS, sJ v17, uS, sJ v20, uS, sD rr, uS, sD d28, uS] [(.int (1 : Int32))]))
    exact own_retZ X26 hx hk hrt (hb hby at_131) ⟨rfl, M26⟩ (by decide) (by decide)
  · skip
    refine OwnGo.pre (fun t k => XS.ifYes X26.here hx rfl (pc0 := 81) (pc' := 91) rfl (hb hby at_81) rfl ((own_brL .ge _ _).trans (decide_eq_true (by omega))) (by decide) (by decide) (XT.lload X26.here hx rfl (hb hby at_91) rfl (XT.lload X26.here hx rfl (hb hby at_93) rfl (own_lcmp X26.here hx rfl (hb hby at_95) rfl rfl k)))) ?_
    show OwnGo _ _ _ _ (T26.setTop (mkF m 96 #[sI p0, sI p1, sI p2, sI p3, sI p4, sJ v9, uS, sJ v10, uS, sJ vo, uS, sJ v15, uS, sJ v16, uS, sJ v17, uS, sJ v20, uS, sD rr, uS, uU, uU] [(.int (XT.cmpL vo v9))]))
    by_cases hY : jd ≤ jo
    · skip
      obtain ⟨d29, hd29⟩ : ∃ v, FP.l2d v20 = v := ⟨_, rfl⟩
      have D29 : OwnDS 0 j20 d29 := by rw [← hd29]; exact own_l2d F20 (by omega)
      have Dr : OwnDS 0 j20 rr := by rw [hr2 (by omega) (by omega)]; exact D25
      refine OwnGo.pre (fun t k => XS.ifNo X26.here hx rfl (hb hby at_96) rfl ((own_brL .lt _ _).trans (decide_eq_false (by omega))) (XT.lload X26.here hx rfl (hb hby at_99) rfl (XS.l2dS X26.here hx rfl (hb hby at_101) rfl hd29 (XS.dstore X26.here hx rfl (hb hby at_102) rfl (l' := #[sI p0, sI p1, sI p2, sI p3, sI p4, sJ v9, uS, sJ v10, uS, sJ vo, uS, sJ v15, uS, sJ v16, uS, sJ v17, uS, sJ v20, uS, sD rr, uS, sD d29, uS]) rfl (XS.goto X26.here hx rfl (pc0 := 104) (pc' := 118) rfl (hb hby at_104) (by decide) (by decide) (XS.dload X26.here hx rfl (hb hby at_118) rfl (XS.dload X26.here hx rfl (hb hby at_120) rfl (XS.dcmpS X26.here hx rfl (hb hby at_122) rfl rfl k)))))))) ?_
      show OwnGo _ _ _ _ (T26.setTop (mkF m 123 #[sI p0, sI p1, sI p2, sI p3, sI p4, sJ v9, uS, sJ v10, uS, sJ vo, uS, sJ v15, uS, sJ v16, uS, sJ v17, uS, sJ v20, uS, sD rr, uS, sD d29, uS] [(.int (cmpValue (FP.dcmp rr d29) .l))]))
      refine OwnGo.pre (fun t k => XS.ifNo X26.here hx rfl (hb hby at_123) rfl ((own_brD .ne Dr D29 _).trans (decide_eq_false (by omega))) (XS.iconst X26.here hx rfl (hb hby at_126) (XS.goto X26.here hx rfl (pc0 := 127) (pc' := 131) rfl (hb hby at_127) (by decide) (by decide) k))) ?_
      show OwnGo _ _ _ _ (T26.setTop (mkF m 131 #[sI p0, sI p1, sI p2, sI p3, sI p4, sJ v9, uS, sJ v10, uS, sJ vo, uS, sJ v15, uS, sJ v16, uS, sJ v17, uS, sJ v20, uS, sD rr, uS, sD d29, uS] [(.int (1 : Int32))]))
      exact own_retZ X26 hx hk hrt (hb hby at_131) ⟨rfl, M26⟩ (by decide) (by decide)
    · skip
      obtain ⟨v30, hv30⟩ : ∃ v, p3.toInt64 = v := ⟨_, rfl⟩
      have F30 : v30.toInt = j8 := by rw [← hv30, Jvm.Kit.i64_of_i32, F8]
      obtain ⟨v31, hv31⟩ : ∃ v, v10 * vo = v := ⟨_, rfl⟩
      obtain ⟨j31, hj31⟩ : ∃ i : Int, i = jm * jo := ⟨_, rfl⟩
      have B31 : -4294967296 ≤ j31 ∧ j31 ≤ 4294967296 := by have q := own_mul_bd Bm Bo; omega
      have F31 : v31.toInt = j31 := by rw [← hv31, Jvm.Kit.i64_mul (by rw [F10, Fo]; omega) (by rw [F10, Fo]; omega), F10, Fo]; exact hj31.symm
      obtain ⟨v32, hv32⟩ : ∃ v, v30 + v31 = v := ⟨_, rfl⟩
      obtain ⟨j32, hj32⟩ : ∃ i : Int, i = j8 + j31 := ⟨_, rfl⟩
      have B32 : -6442450944 ≤ j32 ∧ j32 ≤ 6442450944 := by omega
      have F32 : v32.toInt = j32 := by rw [← hv32, Jvm.Kit.i64_add (by omega) (by omega), F30, F31]; exact hj32.symm
      obtain ⟨d33, hd33⟩ : ∃ v, FP.l2d v32 = v := ⟨_, rfl⟩
      refine OwnGo.pre (fun t k => XS.ifYes X26.here hx rfl (pc0 := 96) (pc' := 107) rfl (hb hby at_96) rfl ((own_brL .lt _ _).trans (decide_eq_true (by omega))) (by decide) (by decide) (XS.iloadN X26.here hx rfl (hb hby at_107) rfl (own_i2l X26.here hx rfl (hb hby at_108) rfl hv30 (XT.lload X26.here hx rfl (hb hby at_109) rfl (XT.lload X26.here hx rfl (hb hby at_111) rfl (own_lmul X26.here hx rfl (hb hby at_113) rfl hv31 (own_ladd X26.here hx rfl (hb hby at_114) rfl hv32 (XS.l2dS X26.here hx rfl (hb hby at_115) rfl hd33 k)))))))) ?_
      show OwnGo _ _ _ _ (T26.setTop (mkF m 116 #[sI p0, sI p1, sI p2, sI p3, sI p4, sJ v9, uS, sJ v10, uS, sJ vo, uS, sJ v15, uS, sJ v16, uS, sJ v17, uS, sJ v20, uS, sD rr, uS, uU, uU] [(.double d33)]))
      have D33 : OwnDS 0 j32 d33 := by rw [← hd33]; exact own_l2d F32 (by omega)
      have Dr : OwnDS 0 (j8 + jq) rr := by exact hr3 (by omega) (by omega)
      refine OwnGo.pre (fun t k => XS.dstore X26.here hx rfl (hb hby at_116) rfl (l' := #[sI p0, sI p1, sI p2, sI p3, sI p4, sJ v9, uS, sJ v10, uS, sJ vo, uS, sJ v15, uS, sJ v16, uS, sJ v17, uS, sJ v20, uS, sD rr, uS, sD d33, uS]) rfl (XS.dload X26.here hx rfl (hb hby at_118) rfl (XS.dload X26.here hx rfl (hb hby at_120) rfl (XS.dcmpS X26.here hx rfl (hb hby at_122) rfl rfl (XS.ifNo X26.here hx rfl (hb hby at_123) rfl ((own_brD .ne Dr D33 _).trans (decide_eq_false (by omega))) (XS.iconst X26.here hx rfl (hb hby at_126) (XS.goto X26.here hx rfl (pc0 := 127) (pc' := 131) rfl (hb hby at_127) (by decide) (by decide) k))))))) ?_
      show OwnGo _ _ _ _ (T26.setTop (mkF m 131 #[sI p0, sI p1, sI p2, sI p3, sI p4, sJ v9, uS, sJ v10, uS, sJ vo, uS, sJ v15, uS, sJ v16, uS, sJ v17, uS, sJ v20, uS, sD rr, uS, sD d33, uS] [(.int (1 : Int32))]))
      exact own_retZ X26 hx hk hrt (hb hby at_131) ⟨rfl, M26⟩ (by decide) (by decide)
set_option maxRecDepth 65536 in
set_option maxHeartbeats 40000000 in
theorem comes_1 {Post : Tables → Env → Array Value → State → Outcome → State → Prop} (hpost : ∀ tb e args s v u, (limb_1_1.after args s (.returned v) u = true ∧ limb_1_2.after args s (.returned v) u = true ∧ True) → FrameEnd s (.returned v) u (Jvm.fieldLocs frame_1_writes args s ++ Jvm.arrayLocs frame_1_arrays args s ++ Jvm.staticLocs frame_1_statics s) 0 0 → Post tb e args s (.returned v) u) :
    ArmFor flags0 classFile x code maxLocals ret World_1 tables_1 room_1 Calls_1 rest_1 Pre_1 Post := by
  intro l hfl _ _ p e ha hc hk s m args below hf hA hF happ hP
  obtain ⟨hcalls, hrest, hpre⟩ := hP
  obtain ⟨-, -, -, hnamed, -, -, -, hat⟩ := (Spec.applies_iff hf).mp happ
  obtain ⟨hg, hn⟩ := and_e (Cond.before_iff.mp (show (Jvm.Cond.and given_1 narrow_1).before args s = true from hpre))
  obtain ⟨hcnt, q0⟩ := and_e hg
  obtain ⟨b0, q1⟩ := and_e q0
  obtain ⟨b1, q2⟩ := and_e q1
  obtain ⟨b2, q3⟩ := and_e q2
  obtain ⟨b3, q4⟩ := and_e q3
  have b4 := q4
  obtain ⟨w0, w1, w2, w3, w4, rfl⟩ : ∃ w0 w1 w2 w3 w4 : Value, args = #[w0, w1, w2, w3, w4] := by
    have hs : args.size = 5 := by simpa [Cond.value, given_1] using hcnt
    obtain ⟨L⟩ := args
    match L, hs with
    | [w0, w1, w2, w3, w4], _ => exact ⟨w0, w1, w2, w3, w4, rfl⟩
  have hw := fun d (hd : d ∈ tables_1) => atoms_spec (ws := Jvm.Cond.code x code maxLocals ret :: tables_1) hat d (List.mem_cons_of_mem _ hd)
  have hfit : Fit s := fun {y c} hc i hi => by
    obtain ⟨ha, rfl⟩ := Array.getElem?_eq_some_iff.mp hc
    have q := List.all_eq_true.mp ((Array.all_eq_true_iff_forall_mem.mp hF) _ (Array.getElem_mem ha)) i (List.mem_range.mpr hi)
    simpa [Array.getElem?_eq_getElem hi] using q
  obtain ⟨i0, ei0⟩ := is_v b0
  obtain rfl : w0 = (.int i0) := Option.some.inj ei0
  obtain ⟨i1, ei1⟩ := is_v b1
  obtain rfl : w1 = (.int i1) := Option.some.inj ei1
  obtain ⟨i2, ei2⟩ := is_v b2
  obtain rfl : w2 = (.int i2) := Option.some.inj ei2
  obtain ⟨i3, ei3⟩ := is_v b3
  obtain rfl : w3 = (.int i3) := Option.some.inj ei3
  obtain ⟨i4, ei4⟩ := is_v b4
  obtain rfl : w4 = (.int i4) := Option.some.inj ei4
  obtain ⟨n, o, h1, h2, h3, _, L, rfl, ⟨rfl, N⟩, hq⟩ := rmL l s _ hw tables_1 i0 i1 i2 i3 i4  s.heap s.heap.size (Nat.le_refl _)  p e ha hc hk s m _ below hf ((Spec.applies_iff_loose hf).mp happ).1 ⟨rfl, State.Warmed39.refl s, rfl⟩ trivial
  refine ⟨n, _, h1, h2, h3, hpost _ _ _ _ _ _ ⟨Cond.after_iff.mpr rfl, Cond.after_iff.mpr (eq_i res_at (Term.int_eval (1)) rfl), trivial⟩ ⟨hq.1, hq.2.1, (hq.2.2.sift fun y hy => Or.inr (N y hy)).mono (by decide) (by decide)⟩⟩
theorem main_1_1 : Claimed_1_1 := comes_1 fun _ _ _ _ _ _ h hF => ⟨h.1, hF⟩
theorem main_1_2 : Claimed_1_2 := comes_1 fun _ _ _ _ _ _ h hF => ⟨h.2.1, hF⟩
end Jvm.Pilot.@@N@@
namespace Jvm.Pilot.@@N@@
open Jvm Jvm.ClassFile Sem Op Lib Jvm.Free Jvm.Stand Jvm.Pilot.@@N@@.Jvm.D
/-! MADE BY PROGRAM (witnessworld.py) out of the Statement's table words and the real class files: 9 classes; the members and pool entries that the words name. The judged class is class 1, her method 1. -/
namespace start1
open Jvm.ClassFile
def u (s : String) : CpInfo := .utf8 (stringToUtf16 s)
/-- a pool by its gaps: so many unusable entries, then the entry; so many at the end -/
def gap : Nat → List CpInfo → List CpInfo
  | 0, r => r
  | n + 1, r => .unusable :: gap n r
def poolList (es : List (Nat × CpInfo)) (last : Nat) : List CpInfo := es.foldr (fun e r => gap e.1 (e.2 :: r)) (gap last [])
def pool (es : List (Nat × CpInfo)) (last : Nat) : Array CpInfo := ⟨poolList es last⟩
def fileOf (pool : Array CpInfo) (this : Nat) (attrs : Array Attribute := #[]) (ms : Array MethodInfo := #[]) (fl : Nat := 33) (sup : Nat := 0) (ifs : Array Nat := #[]) (fds : Array FieldInfo := #[]) : ClassFile where
  minorVersion := 0
  majorVersion := 65
  constantPool := pool
  accessFlags := fl
  thisClass := this
  superClass := sup
  interfaces := ifs
  fields := fds
  methods := ms
  attributes := attrs
def plain (name : String) (sup : Option ClassId) : Class where
  name := name
  kind := .ordinary
  loader := none
  accessFlags := 33
  super := sup
  interfaces := #[]
  cf := none
  fields := #[]
  methods := #[]
  instanceTypes := #[]
  staticTypes := #[]
  resolved := #[]
  callSites := []
  init := .initialized
  statics := none
  mirror := none

def pool0 : Array CpInfo := pool [(5, u "<init>"), (0, u "()V"), (1, .class_ 10), (1, u "java/lang/Object")] 113

def k0m0 : Method := { name := "<init>", desc := "()V", sig := { parameters := [], returnType := none }, accessFlags := 1, code := none }
/-- java/lang/Object -/
def k0 : Class := { plain "java/lang/Object" none with
  accessFlags := 33
  interfaces := #[]
  cf := some (fileOf pool0 8 #[] #[{ accessFlags := 1, nameIndex := 5, descriptorIndex := 6, attributes := #[] }] 33 0 #[] #[])
  fields := #[]
  methods := #[k0m0]
  instanceTypes := #[]
  staticTypes := #[]
  resolved := Array.replicate 124 none
  statics := none }

def pool1 : Array CpInfo := pool [(2, .class_ 4), (1, u "java/lang/Object"), (0, u "<init>"), (0, u "()V"), (0, .integer 65535), (0, .long 2), (1, .methodref 11 12), (0, .class_ 13), (0, .nameAndType 14 15), (0, u "com/example/lines_to_lobes/linestolobes/core/library/Thresholds"), (0, u "saturation"), (0, u "(DDDDD)D"), (0, .class_ 17), (0, u "com/example/lines_to_lobes/linestolobes/core/library/ThresholdsSaturationPinLaw"), (2, u "law"), (0, u "(IIIII)Z")] 3

def k1m0 : Method := { name := "<init>", desc := "()V", sig := { parameters := [], returnType := none }, accessFlags := 1, code := none }
def k1c1 : Code := { maxStack := 10, maxLocals := 23, code := code, exceptionTable := #[], attributes := #[] }
def k1m1 : Method := { name := "law", desc := "(IIIII)Z", sig := { parameters := [.int, .int, .int, .int, .int], returnType := some .boolean }, accessFlags := 9, code := some k1c1 }
/-- com/example/lines_to_lobes/linestolobes/core/library/ThresholdsSaturationPinLaw -/
def k1 : Class := { plain "com/example/lines_to_lobes/linestolobes/core/library/ThresholdsSaturationPinLaw" (some 0) with
  accessFlags := 49
  interfaces := #[]
  cf := some (fileOf pool1 16 #[] #[{ accessFlags := 1, nameIndex := 5, descriptorIndex := 6, attributes := #[] }, { accessFlags := 9, nameIndex := 20, descriptorIndex := 21, attributes := #[] }] 49 2 #[] #[])
  fields := #[]
  methods := #[k1m0, k1m1]
  instanceTypes := #[]
  staticTypes := #[]
  resolved := Array.replicate 25 none
  statics := none }

def pool2 : Array CpInfo := pool [(2, .class_ 4), (1, u "java/lang/Object"), (0, u "<init>"), (0, u "()V"), (1, .class_ 10), (1, u "com/example/lines_to_lobes/linestolobes/core/library/Thresholds"), (13, u "saturation"), (0, u "(DDDDD)D"), (20, u "SIGMOID_STEEPNESS"), (0, u "D")] 8

def k2m0 : Method := { name := "<init>", desc := "()V", sig := { parameters := [], returnType := none }, accessFlags := 2, code := none }
def k2c1 : Code := { maxStack := 8, maxLocals := 12, code := prog_5_method_11_code, exceptionTable := #[], attributes := #[] }
def k2m1 : Method := { name := "saturation", desc := "(DDDDD)D", sig := { parameters := [.double, .double, .double, .double, .double], returnType := some .double }, accessFlags := 9, code := some k2c1 }
/-- com/example/lines_to_lobes/linestolobes/core/library/Thresholds -/
def k2 : Class := { plain "com/example/lines_to_lobes/linestolobes/core/library/Thresholds" (some 0) with
  accessFlags := 49
  interfaces := #[]
  cf := some (fileOf pool2 8 #[] #[{ accessFlags := 2, nameIndex := 5, descriptorIndex := 6, attributes := #[] }, { accessFlags := 9, nameIndex := 24, descriptorIndex := 25, attributes := #[] }] 49 2 #[] #[{ accessFlags := 26, nameIndex := 46, descriptorIndex := 47, attributes := #[] }])
  fields := #[{ name := "SIGMOID_STEEPNESS", type := .double, accessFlags := 26, slot := 0, constantValue := 0 }]
  methods := #[k2m0, k2m1]
  instanceTypes := #[]
  staticTypes := #[.double]
  resolved := Array.replicate 56 none
  statics := none }

def pool3 : Array CpInfo := pool [(1, u "java/lang/Cloneable"), (0, .class_ 1), (0, u "java/lang/Object"), (0, .class_ 3)] 3

/-- java/lang/Cloneable -/
def k3 : Class := { plain "java/lang/Cloneable" (some 0) with
  accessFlags := 1537
  interfaces := #[]
  cf := some (fileOf pool3 2 #[] #[] 1537 4 #[] #[])
  fields := #[]
  methods := #[]
  instanceTypes := #[]
  staticTypes := #[]
  resolved := Array.replicate 8 none
  statics := none }

def pool4 : Array CpInfo := pool [(1, u "java/io/Serializable"), (0, .class_ 1), (0, u "java/lang/Object"), (0, .class_ 3)] 3

/-- java/io/Serializable -/
def k4 : Class := { plain "java/io/Serializable" (some 0) with
  accessFlags := 1537
  interfaces := #[]
  cf := some (fileOf pool4 2 #[] #[] 1537 4 #[] #[])
  fields := #[]
  methods := #[]
  instanceTypes := #[]
  staticTypes := #[]
  resolved := Array.replicate 8 none
  statics := none }

/-- the primitive byte -/
def k5 : Class := { plain "byte" none with kind := .primitive 'B', accessFlags := 0x411 }
/-- [B -/
def k6 : Class := { plain "[B" (some 0) with kind := .array 5 .byte, interfaces := #[3, 4], accessFlags := 1041 }

/-- the primitive int -/
def k7 : Class := { plain "int" none with kind := .primitive 'I', accessFlags := 0x411 }
/-- [I -/
def k8 : Class := { plain "[I" (some 0) with kind := .array 7 .int, interfaces := #[3, 4], accessFlags := 1041 }

def heap : Heap := #[]
def classes : Array Class := #[k0, k1, k2, k3, k4, k5, k6, k7, k8]
def interned : List (Array UInt16 × Addr) := []
def slotsUsed : Nat := 0
def theMethod : MethodId := ⟨1, 1⟩
def args0 : Array Value := #[.int 5, .int 300, .int 7, .int 1, .int 131072]
def aboutOver (below : List Frame) : State where
  vm := { classes := classes, interned := interned.toArray }
  heap := heap
  slotsUsed := slotsUsed
  threads := #[{ frames := .invoking theMethod args0 :: below }]
def below0 : List Frame := [.native { method := ⟨0, 0⟩, args := #[] }]
def about1 : State := aboutOver below0
def p0 : Program := .bare "" "" ""
def e0 : Env := launch0.env 0 0 0
theorem w_frames : about1.frames = Frame.invoking theMethod args0 :: below0 := rfl
set_option maxRecDepth 65536 in
theorem w_args : argsFit about1.vm theMethod args0 = true := by decide +kernel
set_option maxRecDepth 65536 in
theorem w_heap : heapFits about1 = true := by decide +kernel
set_option maxRecDepth 65536 in
theorem w_runnable : about1.curStatus? = some .runnable := by decide +kernel
set_option maxRecDepth 65536 in
theorem w_alone : about1.alone = true := by decide +kernel
set_option maxRecDepth 65536 in
theorem w_named : about1.methodNamed? x = some theMethod := by decide +kernel
set_option maxRecDepth 65536 in
theorem w_hears : about1.hears theMethod below0 = true := by decide +kernel
set_option maxRecDepth 65536 in
theorem w_ripe : about1.ripe theMethod args0 below0 = true := by decide +kernel
theorem w_running : about1.status = .running := rfl
set_option maxRecDepth 65536 in
theorem w_room : about1.hasRoom e0.platform room_1 = true :=
  launch0.hasRoom_least _ room_1 (by decide +kernel) (by decide +kernel) (by decide +kernel) (by decide +kernel) (by decide +kernel) (by decide +kernel)
theorem allAtoms_all (ts : List Jvm.Cond) (a : Array Jvm.Value) (st : Jvm.State) : (allAtoms ts).before a st = ts.all (fun c => c.before a st) := by
  induction ts with
  | nil => rfl
  | cons c t ih =>
    show (Jvm.Cond.and c (allAtoms t)).before a st = _
    rw [Jvm.Cond.before_and, ih, List.all_cons]
def words1 : List Jvm.Cond := Jvm.Cond.code x code maxLocals ret :: tables_1
/-- a 'code' word, met by the world's own term for the bytes: nothing is compared byte by byte -/
theorem code_word {y : MethodName} {bytes : ByteArray} {mx : Nat} {rt : Option FieldType} {a : Array Value} {s : State} {m : MethodId} {meth : Method} {c : Code} (h1 : s.methodNamed? y = some m) (h2 : s.vm.method? m = some meth) (h3 : meth.code = some c) (h4 : c.code = bytes)
    (h5 : (c.maxLocals == mx && c.exceptionTable.isEmpty && decide (c.maxStack ≤ mostOperands) && decide (meth.sig.returnType = rt) && !meth.locks && decide (parseMethodDescriptor y.desc = some meth.sig)) = true) : (Jvm.Cond.code y bytes mx rt).before a s = true := by
  simp only [Bool.and_eq_true, beq_iff_eq, Bool.not_eq_true', decide_eq_true_eq] at h5
  obtain ⟨⟨⟨⟨⟨g1, g2⟩, g3⟩, g4⟩, g5⟩, g6⟩ := h5
  simp [Cond.before, Cond.holds, Cond.value, h1, h2, h3, h4, g1, g2, g3, g4, g5, g6]
def isCode : Jvm.Cond → Bool
  | .code _ _ _ _ => true
  | _ => false
theorem all_split {L : List Jvm.Cond} {P : Jvm.Cond → Bool} (h1 : L.all (fun c => isCode c || P c) = true) (h2 : ∀ c ∈ L.filter isCode, P c = true) : L.all P = true := by
  refine List.all_eq_true.mpr fun c hc => ?_
  have h := List.all_eq_true.mp h1 c hc
  rcases Bool.eq_false_or_eq_true (isCode c) with hi | hi
  · exact h2 c (List.mem_filter.mpr ⟨hc, hi⟩)
  · simpa [hi] using h
set_option maxRecDepth 65536 in
theorem w_c0 : (Jvm.Cond.code x code maxLocals ret).before args0 about1 = true := code_word (m := ⟨1, 1⟩) (meth := k1m1) (c := k1c1) (by decide +kernel) rfl rfl rfl (by decide +kernel)
set_option maxRecDepth 65536 in
theorem w_c1 : (Jvm.Cond.code ({ cls := "com/example/lines_to_lobes/linestolobes/core/library/Thresholds", name := "saturation", desc := "(DDDDD)D" } : Jvm.MethodName) prog_5_method_11_code (12 : Nat) (Option.some Jvm.ClassFile.FieldType.double)).before args0 about1 = true := code_word (m := ⟨2, 1⟩) (meth := k2m1) (c := k2c1) (by decide +kernel) rfl rfl rfl (by decide +kernel)
def codes1 : List Jvm.Cond := [Jvm.Cond.code x code maxLocals ret, Jvm.Cond.code ({ cls := "com/example/lines_to_lobes/linestolobes/core/library/Thresholds", name := "saturation", desc := "(DDDDD)D" } : Jvm.MethodName) prog_5_method_11_code (12 : Nat) (Option.some Jvm.ClassFile.FieldType.double)]
set_option maxRecDepth 65536 in
theorem codes_eq : words1.filter isCode = codes1 := rfl
theorem w_codes : ∀ c ∈ words1.filter isCode, c.before args0 about1 = true := by
  rw [codes_eq]
  intro c hc
  simp only [codes1, List.mem_cons, List.not_mem_nil, or_false] at hc
  rcases hc with rfl | rfl
  · exact w_c0
  · exact w_c1
set_option maxRecDepth 65536 in
theorem w_t1 : words1.all (fun c => isCode c || c.before args0 about1) = true := by decide +kernel
theorem w_tables : (allAtoms (Jvm.Cond.code x code maxLocals ret :: tables_1)).before args0 about1 = true := by
  rw [allAtoms_all]
  show words1.all (fun c => c.before args0 about1) = true
  refine all_split ?_ w_codes
  rw [w_t1]
set_option maxRecDepth 65536 in
theorem w_case : (Jvm.Cond.and given_1 narrow_1).before args0 about1 = true := by decide +kernel
theorem w_applies : (headSpec (Jvm.Cond.code x code maxLocals ret :: tables_1) room_1).applies x e0.platform about1 = true :=
  (Spec.applies_iff w_frames).mpr ⟨w_running, w_runnable, w_alone, w_named, w_hears, w_ripe, w_room, w_tables⟩
theorem atStart : AtStart classFile x code maxLocals ret World_1 tables_1 room_1 Calls_1 rest_1 Pre_1 launch0 p0 e0 about1 theMethod args0 below0 :=
  ⟨lists_1, trivial, launch0.admits_env _ _ _, launch0.least_env, fairChoices_fair.cas, fairChoices_fair.clock, w_frames, w_args, w_heap, w_applies, trivial, trivial, w_case⟩
end start1
theorem witness_1 : WitnessClaimed_1 := ⟨start1.p0, start1.e0, start1.about1, start1.theMethod, start1.args0, start1.below0, start1.atStart⟩
end Jvm.Pilot.@@N@@
