import JvmDerived
import JvmDerived.Pilot.@@N@@Statement
import JvmDerived.Pilot.@@N@@Code
set_option linter.unusedVariables false
set_option linter.unusedSimpArgs false
@@BLOCK:NumsL.lean.txt@@
namespace Jvm.Pilot.@@N@@
open Jvm Jvm.ClassFile Sem Op Lib Jvm.Free Jvm.Stand Jvm.LawKit Jvm.RoadKit Bundle Jvm.Pilot.@@N@@.Jvm.D
section OwnFP
open Jvm.FP.Core
/-- the datum is i * 2^k -/
def OwnSc (k i : Int) : Datum → Prop
  | .fin s c q => Whole i (.fin s c (q - k))
  | _ => False
/-- the double is i * 2^k -/
def OwnDS (k i : Int) (a : UInt64) : Prop := OwnSc k i (val64 a)

theorem own_sc_fin {k i : Int} {d : Datum} (h : OwnSc k i d) : ∃ s c q, d = .fin s c q ∧ Whole i (.fin s c (q - k)) := by
  cases d with
  | nan => exact h.elim
  | inf => exact h.elim
  | fin s c q => exact ⟨s, c, q, rfl, h⟩

theorem own_ds_int {i : Int} {a : UInt64} (h : DInt i a) : OwnDS 0 i a := by
  have h' : Whole i (val64 a) := h
  show OwnSc 0 i (val64 a)
  cases hv : val64 a with
  | nan => rw [hv] at h'; exact h'.elim
  | inf => rw [hv] at h'; exact h'.elim
  | fin s c q => rw [hv] at h'; show Whole i (.fin s c (q - 0)); rw [Int.sub_zero]; exact h'

theorem own_int_ds {i : Int} {a : UInt64} (h : OwnDS 0 i a) : DInt i a := by
  obtain ⟨s, c, q, hv, h'⟩ := own_sc_fin h
  show Whole i (val64 a)
  rw [hv]; rw [Int.sub_zero] at h'; exact h'

theorem own_ds_ne_nan {k i : Int} {a : UInt64} (h : OwnDS k i a) : val64 a ≠ .nan := by
  obtain ⟨s, c, q, hv, -⟩ := own_sc_fin h
  rw [hv]; exact Datum.noConfusion

/-- the numbers i * 2^k with |i| < 2^n are doubles where n ≤ 53, n + k ≤ 1024, -1022 ≤ k -/
theorem own_fitAt (s : Bool) {n m : Nat} {k : Int} (hm : m < 2 ^ n) (hn : n ≤ 53) (h1 : (n : Int) + k ≤ 1024) (h2 : -1022 ≤ k) :
    ∃ c q, Jvm.FP.Core.fits b64 (.fin s c q) ∧ m * 2 ^ (k - q).toNat = c * 1 * 2 ^ (q - k).toNat := by
  have hq1 : b64.qmin = -1074 := by decide
  have hq2 : b64.qmax = 971 := by decide
  by_cases h0 : m = 0
  · subst h0
    exact ⟨0, b64.qmin, zero_fits good_b64 s, by simp⟩
  · have l1 : 2 ^ m.log2 ≤ m := Nat.log2_self_le h0
    have l2 : m < 2 ^ (m.log2 + 1) := Nat.lt_log2_self
    have l3 : m.log2 < n := (Nat.pow_lt_pow_iff_right (by decide : 1 < 2)).mp (Nat.lt_of_le_of_lt l1 hm)
    generalize m.log2 = L at l1 l2 l3
    refine ⟨m * 2 ^ (52 - L), (L : Int) - 52 + k, ⟨?_, by omega, by omega, .inr ?_⟩, ?_⟩
    · calc m * 2 ^ (52 - L) < 2 ^ (L + 1) * 2 ^ (52 - L) := Nat.mul_lt_mul_of_pos_right l2 (Nat.two_pow_pos _)
        _ = 2 ^ b64.p := by rw [← Nat.pow_add]; congr 1; show L + 1 + (52 - L) = 53; omega
    · calc b64.tails = 2 ^ L * 2 ^ (52 - L) := by rw [← Nat.pow_add]; show 2 ^ 52 = _; congr 1; omega
        _ ≤ m * 2 ^ (52 - L) := Nat.mul_le_mul_right _ l1
    · rw [show (k - ((L : Int) - 52 + k)).toNat = 52 - L by omega, show ((L : Int) - 52 + k - k).toNat = 0 by omega]
      simp

theorem own_signed_of {i : Int} {s : Bool} {c : Nat} {q : Int} (h : Whole i (.fin s c q)) : signed s i.natAbs = i := by
  by_cases hi : i = 0
  · rw [hi]; exact signed_zero s
  · rw [whole_sign h hi]
    by_cases h : i < 0
    · rw [decide_eq_true h]; show -(i.natAbs : Int) = i; omega
    · rw [decide_eq_false h]; show (i.natAbs : Int) = i; omega

/-- what roundRatio makes of a ratio that is m * 2^k, m < 2^n -/
theorem own_rr {s : Bool} {A B m n : Nat} {e k i : Int} (hB : 0 < B) (hv : A * 2 ^ (e - k).toNat = m * B * 2 ^ (k - e).toNat)
    (hm : m < 2 ^ n) (hn : n ≤ 53) (h1 : (n : Int) + k ≤ 1024) (h2 : -1022 ≤ k) (hi : signed s m = i) : OwnSc k i (roundRatio b64 s A B e) := by
  obtain ⟨c', q', hfit, hv'⟩ := own_fitAt s hm hn h1 h2
  rw [roundRatio_congr (A' := m) (B' := 1) (e' := k) hB (by decide) (by simpa using hv), roundRatio_exact good_b64 (by decide) hfit hv']
  show signed s (c' * 2 ^ (q' - k).toNat) = i * ((2 ^ (-(q' - k)).toNat : Nat) : Int)
  rw [show (-(q' - k)).toNat = (k - q').toNat by omega, ← hi, ← signed_mul, hv', Nat.mul_one]

theorem own_sc_round {n : Nat} {k i : Int} {d : Datum} (h : OwnSc k i d) (hi : i.natAbs < 2 ^ n) (hn : n ≤ 53) (h1 : (n : Int) + k ≤ 1024) (h2 : -1022 ≤ k) : OwnSc k i (round b64 d) := by
  obtain ⟨s, c, q, rfl, hw⟩ := own_sc_fin h
  refine own_rr (m := i.natAbs) (n := n) (by decide) ?_ hi hn h1 h2 (own_signed_of hw)
  have q1 := whole_natAbs hw
  rw [show (-(q - k)).toNat = (k - q).toNat by omega] at q1
  simpa using q1

theorem own_shift_sum (s : Bool) (c : Nat) (q : Int) (t : Bool) (d : Nat) (r k : Int) :
    ∃ u f w, exactSum (.fin s c q) (.fin t d r) = .fin u f w ∧ exactSum (.fin s c (q - k)) (.fin t d (r - k)) = .fin u f (w - k) := by
  refine ⟨_, _, _, rfl, ?_⟩
  have hmin : min (q - k) (r - k) = min q r - k := by omega
  have hu : sumUnits s c (q - k) t d (r - k) (min (q - k) (r - k)) = sumUnits s c q t d r (min q r) := by
    show signed s (c * 2 ^ (q - k - min (q - k) (r - k)).toNat) + signed t (d * 2 ^ (r - k - min (q - k) (r - k)).toNat) = signed s (c * 2 ^ (q - min q r).toNat) + signed t (d * 2 ^ (r - min q r).toNat)
    rw [hmin, show q - k - (min q r - k) = q - min q r by omega, show r - k - (min q r - k) = r - min q r by omega]
  show Datum.fin (sumSign s t (sumUnits s c (q - k) t d (r - k) (min (q - k) (r - k)))) (sumUnits s c (q - k) t d (r - k) (min (q - k) (r - k))).natAbs (min (q - k) (r - k)) = _
  rw [hu, hmin]

theorem own_sc_sum {k i j : Int} {x y : Datum} (hx : OwnSc k i x) (hy : OwnSc k j y) : OwnSc k (i + j) (exactSum x y) := by
  obtain ⟨s, c, q, rfl, h1⟩ := own_sc_fin hx
  obtain ⟨t, d, r, rfl, h2⟩ := own_sc_fin hy
  obtain ⟨u, f, w, e1, e2⟩ := own_shift_sum s c q t d r k
  have h3 := whole_sum h1 h2
  rw [e2] at h3
  rw [e1]; exact h3

theorem own_sc_neg {k i : Int} {x : Datum} (hx : OwnSc k i x) : OwnSc k (-i) (negate x) := by
  obtain ⟨s, c, q, rfl, h1⟩ := own_sc_fin hx
  exact whole_negate h1

theorem own_sc_mul {k l i j : Int} {x y : Datum} (hx : OwnSc k i x) (hy : OwnSc l j y) : OwnSc (k + l) (i * j) (exactProduct x y) := by
  obtain ⟨s, c, q, rfl, h1⟩ := own_sc_fin hx
  obtain ⟨t, d, r, rfl, h2⟩ := own_sc_fin hy
  have h3 : Whole (i * j) (.fin (s != t) (c * d) (q - k + (r - l))) := whole_product h1 h2
  show Whole (i * j) (.fin (s != t) (c * d) (q + r - (k + l)))
  rw [show q + r - (k + l) = q - k + (r - l) by omega]; exact h3

theorem own_ds_add {n : Nat} {k i j : Int} {a b : UInt64} (ha : OwnDS k i a) (hb : OwnDS k j b) (h : (i + j).natAbs < 2 ^ n) (hn : n ≤ 53 := by decide) (h1 : (n : Int) + k ≤ 1024 := by decide) (h2 : -1022 ≤ k := by decide) : OwnDS k (i + j) (dadd a b) := by
  show OwnSc _ _ _
  rw [val64_dadd]; exact own_sc_round (own_sc_sum ha hb) h hn h1 h2
theorem own_ds_sub {n : Nat} {k i j : Int} {a b : UInt64} (ha : OwnDS k i a) (hb : OwnDS k j b) (h : (i - j).natAbs < 2 ^ n) (hn : n ≤ 53 := by decide) (h1 : (n : Int) + k ≤ 1024 := by decide) (h2 : -1022 ≤ k := by decide) : OwnDS k (i - j) (dsub a b) := by
  show OwnSc _ _ _
  rw [val64_dsub]; exact own_sc_round (own_sc_sum ha (own_sc_neg hb)) h hn h1 h2
theorem own_ds_mul {n : Nat} {k l i j : Int} {a b : UInt64} (ha : OwnDS k i a) (hb : OwnDS l j b) (h : (i * j).natAbs < 2 ^ n) (hn : n ≤ 53 := by decide) (h1 : (n : Int) + (k + l) ≤ 1024 := by decide) (h2 : -1022 ≤ k + l := by decide) : OwnDS (k + l) (i * j) (dmul a b) := by
  show OwnSc _ _ _
  rw [val64_dmul]; exact own_sc_round (own_sc_mul ha hb) h hn h1 h2
theorem own_ds_negC {k i : Int} {a : UInt64} (ha : OwnDS k i a) : OwnDS k (-i) (dneg a) := by
  show OwnSc _ _ _
  rw [val64_dneg]; exact own_sc_neg ha

theorem own_order_shift (s : Bool) (c : Nat) (q : Int) (t : Bool) (d : Nat) (r k : Int) :
    order (.fin s c (q - k)) (.fin t d (r - k)) = order (.fin s c q) (.fin t d r) := by
  have hmin : min (q - k) (r - k) = min q r - k := by omega
  show some (compare (signed s (c * 2 ^ (q - k - min (q - k) (r - k)).toNat)) (signed t (d * 2 ^ (r - k - min (q - k) (r - k)).toNat))) = some (compare (signed s (c * 2 ^ (q - min q r).toNat)) (signed t (d * 2 ^ (r - min q r).toNat)))
  rw [hmin, show q - k - (min q r - k) = q - min q r by omega, show r - k - (min q r - k) = r - min q r by omega]

theorem own_ds_cmp {k i j : Int} {a b : UInt64} (ha : OwnDS k i a) (hb : OwnDS k j b) : dcmp a b = some (compare i j) := by
  obtain ⟨s, c, q, e1, h1⟩ := own_sc_fin ha
  obtain ⟨t, d, r, e2, h2⟩ := own_sc_fin hb
  show order (val64 a) (val64 b) = _
  rw [e1, e2, ← own_order_shift _ _ _ _ _ _ k]
  exact order_whole h1 h2

/-- the number kept, its scale moved down -/
theorem own_ds_down {k i : Int} {a : UInt64} (n : Nat) (h : OwnDS (k + n) i a) : OwnDS k (i * ((2 ^ n : Nat) : Int)) a := by
  obtain ⟨s, c, q, e1, h1⟩ := own_sc_fin h
  show OwnSc _ _ _
  rw [e1]
  have h2 : signed s (c * 2 ^ (q - (k + n)).toNat) = i * ((2 ^ (-(q - (k + n))).toNat : Nat) : Int) := h1
  show signed s (c * 2 ^ (q - k).toNat) = i * ((2 ^ n : Nat) : Int) * ((2 ^ (-(q - k)).toNat : Nat) : Int)
  have p2 : ((2 ^ (-(q - (k + n))).toNat : Nat) : Int) ≠ 0 := by
    have := Nat.two_pow_pos (-(q - (k + n))).toNat; omega
  refine Int.eq_of_mul_eq_mul_right p2 ?_
  have hx : (q - k).toNat + (-(q - (k + n))).toNat = (q - (k + n)).toNat + (n + (-(q - k)).toNat) := by omega
  rw [← signed_mul, Nat.mul_assoc, ← Nat.pow_add, hx, Nat.pow_add, ← Nat.mul_assoc, signed_mul, h2, Nat.pow_add]
  rw [Int.natCast_mul]; ac_rfl
theorem own_ds_up {k i : Int} {a : UInt64} (n : Nat) (h : OwnDS k (i * ((2 ^ n : Nat) : Int)) a) : OwnDS (k + n) i a := by
  obtain ⟨s, c, q, e1, h1⟩ := own_sc_fin h
  show OwnSc _ _ _
  rw [e1]
  have h2 : signed s (c * 2 ^ (q - k).toNat) = i * ((2 ^ n : Nat) : Int) * ((2 ^ (-(q - k)).toNat : Nat) : Int) := h1
  show signed s (c * 2 ^ (q - (k + n)).toNat) = i * ((2 ^ (-(q - (k + n))).toNat : Nat) : Int)
  have p2 : ((2 ^ (n + (-(q - k)).toNat) : Nat) : Int) ≠ 0 := by
    have := Nat.two_pow_pos (n + (-(q - k)).toNat); omega
  refine Int.eq_of_mul_eq_mul_right p2 ?_
  have hx : (q - (k + n)).toNat + (n + (-(q - k)).toNat) = (q - k).toNat + (-(q - (k + n))).toNat := by omega
  rw [← signed_mul, Nat.mul_assoc, ← Nat.pow_add, hx, Nat.pow_add, ← Nat.mul_assoc, signed_mul, h2, Nat.pow_add]
  rw [Int.natCast_mul]; ac_rfl

/-- a quotient that is whole (in its scale) is exact -/
theorem own_ds_div {n : Nat} {k l i j m : Int} {a b : UInt64} (ha : OwnDS k i a) (hb : OwnDS l j b) (hj : j ≠ 0) (hm : i = m * j) (h : m.natAbs < 2 ^ n) (hn : n ≤ 53 := by decide) (h1 : (n : Int) + (k - l) ≤ 1024 := by decide) (h2 : -1022 ≤ k - l := by decide) : OwnDS (k - l) m (ddiv a b) := by
  obtain ⟨s, c, q, e1, w1⟩ := own_sc_fin ha
  obtain ⟨t, d, r, e2, w2⟩ := own_sc_fin hb
  show OwnSc _ _ _
  rw [val64_ddiv, e1, e2]
  have hd : d ≠ 0 := fun h0 => hj ((whole_zero w2).mp h0)
  have hq : quotient b64 (.fin s c q) (.fin t d r) = roundRatio b64 (s != t) c d (q - r) := by
    show (if d = 0 then (if c = 0 then Datum.nan else .inf (s != t)) else roundRatio b64 (s != t) c d (q - r)) = _
    rw [if_neg hd]
  rw [hq]
  have q1 := whole_natAbs w1
  have q2 := whole_natAbs w2
  have hmn : i.natAbs = m.natAbs * j.natAbs := by rw [hm, Int.natAbs_mul]
  refine own_rr (m := m.natAbs) (n := n) (Nat.pos_of_ne_zero hd) ?_ h hn h1 h2 ?_
  · -- c 2^(q-k) = |m| |j| 2^(k-q), d 2^(r-l) = |j| 2^(l-r)
    have hjp : 0 < j.natAbs := Int.natAbs_pos.mpr hj
    rw [hmn] at q1
    generalize j.natAbs = J at q1 q2 hjp
    generalize m.natAbs = M at q1
    have hE : 0 < 2 ^ (-(r - l)).toNat * J * 2 ^ (-(q - k)).toNat * 2 ^ (r - l).toNat := by
      exact Nat.mul_pos (Nat.mul_pos (Nat.mul_pos (Nat.two_pow_pos _) hjp) (Nat.two_pow_pos _)) (Nat.two_pow_pos _)
    refine Nat.eq_of_mul_eq_mul_right hE ?_
    have x1 : (q - r - (k - l)).toNat + (-(q - k)).toNat + (r - l).toNat = (q - k).toNat + (-(r - l)).toNat + (k - l - (q - r)).toNat := by omega
    calc c * 2 ^ (q - r - (k - l)).toNat * (2 ^ (-(r - l)).toNat * J * 2 ^ (-(q - k)).toNat * 2 ^ (r - l).toNat)
        = c * (J * 2 ^ (-(r - l)).toNat) * 2 ^ ((q - r - (k - l)).toNat + (-(q - k)).toNat + (r - l).toNat) := by
          simp only [Nat.pow_add]; ac_rfl
      _ = c * (d * 2 ^ (r - l).toNat) * 2 ^ ((q - k).toNat + (-(r - l)).toNat + (k - l - (q - r)).toNat) := by rw [x1, ← q2]
      _ = (c * 2 ^ (q - k).toNat) * (d * 2 ^ (r - l).toNat) * 2 ^ (-(r - l)).toNat * 2 ^ (k - l - (q - r)).toNat := by
          simp only [Nat.pow_add]; ac_rfl
      _ = (M * J * 2 ^ (-(q - k)).toNat) * (d * 2 ^ (r - l).toNat) * 2 ^ (-(r - l)).toNat * 2 ^ (k - l - (q - r)).toNat := by rw [q1]
      _ = M * d * 2 ^ (k - l - (q - r)).toNat * (2 ^ (-(r - l)).toNat * J * 2 ^ (-(q - k)).toNat * 2 ^ (r - l).toNat) := by ac_rfl
  · have s1 := own_signed_of w1
    have s2 := own_signed_of w2
    have h3 : signed (s != t) (i.natAbs * j.natAbs) = i * j := by rw [signed_xor, s1, s2]
    have h4 : i.natAbs * j.natAbs = m.natAbs * (j.natAbs * j.natAbs) := by rw [hmn, Nat.mul_assoc]
    rw [h4, signed_mul] at h3
    have hjj : ((j.natAbs * j.natAbs : Nat) : Int) = j * j := by rw [Int.natAbs_mul_self]
    rw [hjj, hm, Int.mul_assoc] at h3
    exact Int.eq_of_mul_eq_mul_right (Int.mul_ne_zero hj hj) h3
end OwnFP
/-! own tools: a walk in continuation style, named values, the ends -/
abbrev uU : Slot := .unset
abbrev uS : Slot := .second
abbrev sN : Slot := .val .null
abbrev sI (x : Int32) : Slot := .val (.int x)
abbrev sJ (x : Int64) : Slot := .val (.long x)
abbrev sD (x : UInt64) : Slot := .val (.double x)
abbrev sR (x : Addr) : Slot := .val (.ref x)
def OwnGo (tb : Tables) (e : Env) (below : List Frame) (Q : Outcome → State → Prop) (S : State) : Prop := ∃ s₂ o, Steps tb e below S s₂ ∧ s₂.status = .running ∧ Ended s₂ below o ∧ Q o s₂
theorem OwnGo.pre {tb : Tables} {e : Env} {below : List Frame} {Q : Outcome → State → Prop} {S S' : State} (h : ∀ t, Steps tb e below S' t → Steps tb e below S t) (k : OwnGo tb e below Q S') : OwnGo tb e below Q S := by
  obtain ⟨t, o, h1, h2⟩ := k
  exact ⟨t, o, h t h1, h2⟩
abbrev OwnEnd (s : State) (Q : Option Value → Heap → List Loc → Prop) (kc ks : Nat) : Outcome → State → Prop := fun o s₂ => ∃ v L, o = .returned v ∧ Q v s₂.heap L ∧ FrameEnd s o s₂ L kc ks
section OwnEnds
variable {p : Program} {l : Launch} {e : Env} {R : Room} {s : State} {m : MethodId} {args : Array Value} {below : List Frame} {meth : Method} {c : Code} {T : State} {locs : List Loc} {cells slots : Nat}
theorem own_retZ (X : Stand p l e R s m args below meth c T locs cells slots) (hx : p.tables.exec = Jvm.exec) (hk : meth.locks = false) {pc : Nat} {Ls : Array Slot} {z : Int32} {rest : List Value} (hret : meth.sig.returnType = some .boolean) (hd : decode c.code pc = .ok (.ireturn, 1))
    {Q : Option Value → Heap → List Loc → Prop} {kc ks : Nat} (hq : Q (some (.int (nar .boolean z))) T.heap locs) (hc : cells ≤ kc) (hs : slots ≤ ks) : OwnGo p.tables e below (OwnEnd s Q kc ks) (T.setTop (mkF m pc Ls (.int z :: rest))) := by
  obtain ⟨fs, hr, hrun, hended, hW, hsame⟩ := X.leave (v := some (.int (nar .boolean z))) (fun h => by rw [hret] at h; cases h) hk
  exact ⟨_, _, retN X hx (t := .boolean) hret (by simp) hd hr, hrun, hended, _, _, rfl, hq, ⟨_, rfl⟩, hW, hsame.mono hc hs⟩
theorem own_retI (X : Stand p l e R s m args below meth c T locs cells slots) (hx : p.tables.exec = Jvm.exec) (hk : meth.locks = false) {pc : Nat} {Ls : Array Slot} {z : Int32} {rest : List Value} (hret : meth.sig.returnType = some .int) (hd : decode c.code pc = .ok (.ireturn, 1))
    {Q : Option Value → Heap → List Loc → Prop} {kc ks : Nat} (hq : Q (some (.int z)) T.heap locs) (hc : cells ≤ kc) (hs : slots ≤ ks) : OwnGo p.tables e below (OwnEnd s Q kc ks) (T.setTop (mkF m pc Ls (.int z :: rest))) := by
  obtain ⟨fs, hr, hrun, hended, hW, hsame⟩ := X.leave (v := some (.int z)) (fun h => by rw [hret] at h; cases h) hk
  exact ⟨_, _, retOut X hx hret rfl (Or.inl ⟨rfl, Or.inl rfl, _, rfl⟩) hd hr, hrun, hended, _, _, rfl, hq, ⟨_, rfl⟩, hW, hsame.mono hc hs⟩
theorem own_retJ (X : Stand p l e R s m args below meth c T locs cells slots) (hx : p.tables.exec = Jvm.exec) (hk : meth.locks = false) {pc : Nat} {Ls : Array Slot} {z : Int64} {rest : List Value} (hret : meth.sig.returnType = some .long) (hd : decode c.code pc = .ok (.lreturn, 1))
    {Q : Option Value → Heap → List Loc → Prop} {kc ks : Nat} (hq : Q (some (.long z)) T.heap locs) (hc : cells ≤ kc) (hs : slots ≤ ks) : OwnGo p.tables e below (OwnEnd s Q kc ks) (T.setTop (mkF m pc Ls (.long z :: rest))) := by
  obtain ⟨fs, hr, hrun, hended, hW, hsame⟩ := X.leave (v := some (.long z)) (fun h => by rw [hret] at h; cases h) hk
  exact ⟨_, _, retOut X hx hret rfl (Or.inr (Or.inl ⟨rfl, rfl, _, rfl⟩)) hd hr, hrun, hended, _, _, rfl, hq, ⟨_, rfl⟩, hW, hsame.mono hc hs⟩
theorem own_retD (X : Stand p l e R s m args below meth c T locs cells slots) (hx : p.tables.exec = Jvm.exec) (hk : meth.locks = false) {pc : Nat} {Ls : Array Slot} {z : UInt64} {rest : List Value} (hret : meth.sig.returnType = some .double) (hd : decode c.code pc = .ok (.dreturn, 1))
    {Q : Option Value → Heap → List Loc → Prop} {kc ks : Nat} (hq : Q (some (.double z)) T.heap locs) (hc : cells ≤ kc) (hs : slots ≤ ks) : OwnGo p.tables e below (OwnEnd s Q kc ks) (T.setTop (mkF m pc Ls (.double z :: rest))) := by
  obtain ⟨fs, hr, hrun, hended, hW, hsame⟩ := X.leave (v := some (.double z)) (fun h => by rw [hret] at h; cases h) hk
  exact ⟨_, _, retOut X hx hret rfl (Or.inr (Or.inr (Or.inl ⟨rfl, rfl, _, rfl⟩))) hd hr, hrun, hended, _, _, rfl, hq, ⟨_, rfl⟩, hW, hsame.mono hc hs⟩
theorem own_retA (X : Stand p l e R s m args below meth c T locs cells slots) (hx : p.tables.exec = Jvm.exec) (hk : meth.locks = false) {pc : Nat} {Ls : Array Slot} {C : String} {w : Value} {rest : List Value} (hret : meth.sig.returnType = some (.object C)) (hd : decode c.code pc = .ok (.areturn, 1)) (hw : w.isRef = true)
    {Q : Option Value → Heap → List Loc → Prop} {kc ks : Nat} (hq : Q (some w) T.heap locs) (hc : cells ≤ kc) (hs : slots ≤ ks) : OwnGo p.tables e below (OwnEnd s Q kc ks) (T.setTop (mkF m pc Ls (w :: rest))) := by
  obtain ⟨fs, hr, hrun, hended, hW, hsame⟩ := X.leave (v := some w) (fun h => by rw [hret] at h; cases h) hk
  exact ⟨_, _, retOut X hx hret (by cases w <;> first | rfl | cases hw) (Or.inr (Or.inr (Or.inr (Or.inr ⟨rfl, rfl, hw⟩)))) hd hr, hrun, hended, _, _, rfl, hq, ⟨_, rfl⟩, hW, hsame.mono hc hs⟩
theorem own_ret0 (X : Stand p l e R s m args below meth c T locs cells slots) (hx : p.tables.exec = Jvm.exec) (hk : meth.locks = false) {pc : Nat} {Ls : Array Slot} (hret : meth.sig.returnType = none) (hd : decode c.code pc = .ok (.return_, 1))
    {Q : Option Value → Heap → List Loc → Prop} {kc ks : Nat} (hq : Q none T.heap locs) (hc : cells ≤ kc) (hs : slots ≤ ks) : OwnGo p.tables e below (OwnEnd s Q kc ks) (T.setTop (mkF m pc Ls [])) := by
  obtain ⟨fs, hr, hrun, hended, hW, hsame⟩ := X.leave (v := none) (fun _ => rfl) hk
  exact ⟨_, _, X.returnOut hx hret hd hr, hrun, hended, _, _, rfl, hq, ⟨_, rfl⟩, hW, hsame.mono hc hs⟩
theorem own_ldcD (X : Stand p l e R s m args below meth c T locs cells slots) (hx : p.tables.exec = Jvm.exec) {own : String} {index : Nat} {b : UInt64} (hown : s.vm.findClass own = some m.cls) (hconst : (Cond.constantDouble own index b).before args s = true) {g : JFrame} {target : State} (hg : g.method = m) (hd : decode c.code g.pc = .ok (.ldc2_w index, 3))
    (hr : Steps p.tables e below (T.setTop { g with pc := g.pc + 3, stack := .double b :: g.stack }) target) : Steps p.tables e below (T.setTop g) target := X.ldc2DoubleC hx hown hconst hg hd target hr
theorem own_ldcJ (X : Stand p l e R s m args below meth c T locs cells slots) (hx : p.tables.exec = Jvm.exec) {own : String} {index : Nat} {b : Int64} (hown : s.vm.findClass own = some m.cls) (hconst : (Cond.constantLong own index b).before args s = true) {g : JFrame} {target : State} (hg : g.method = m) (hd : decode c.code g.pc = .ok (.ldc2_w index, 3))
    (hr : Steps p.tables e below (T.setTop { g with pc := g.pc + 3, stack := .long b :: g.stack }) target) : Steps p.tables e below (T.setTop g) target := X.ldc2Long hx hown hconst hg hd target hr
theorem own_ldcI (X : Stand p l e R s m args below meth c T locs cells slots) (hx : p.tables.exec = Jvm.exec) {own : String} {index : Nat} {b : Int32} (hown : s.vm.findClass own = some m.cls) (hconst : (Cond.constant own index b).before args s = true) {g : JFrame} {target : State} (hg : g.method = m) (hd : decode c.code g.pc = .ok (.ldc index, 2))
    (hr : Steps p.tables e below (T.setTop { g with pc := g.pc + 2, stack := .int b :: g.stack }) target) : Steps p.tables e below (T.setTop g) target := X.ldcInt hx hown hconst hg hd target hr
end OwnEnds
theorem own_iadd {tb : Tables} [Ours tb] {e : Env} {below : List Frame} {T target : State} {m : MethodId} {c : Code} {g : JFrame} (h : At T m c below) (hx : tb.exec = Jvm.exec) (hg : g.method = m) {x : Int32} {y : Int32} {v : Int32} {rest : List Value} (hd : decode c.code g.pc = .ok (.iadd, 1)) (hs : g.stack = .int y :: .int x :: rest) (hv : x + y = v)
    (hr : Steps tb e below (T.setTop { g with pc := g.pc + 1, stack := .int v :: rest }) target) : Steps tb e below (T.setTop g) target := by subst hv; exact XS.iadd h hx hg hd hs hr
theorem own_isub {tb : Tables} [Ours tb] {e : Env} {below : List Frame} {T target : State} {m : MethodId} {c : Code} {g : JFrame} (h : At T m c below) (hx : tb.exec = Jvm.exec) (hg : g.method = m) {x : Int32} {y : Int32} {v : Int32} {rest : List Value} (hd : decode c.code g.pc = .ok (.isub, 1)) (hs : g.stack = .int y :: .int x :: rest) (hv : x - y = v)
    (hr : Steps tb e below (T.setTop { g with pc := g.pc + 1, stack := .int v :: rest }) target) : Steps tb e below (T.setTop g) target := by subst hv; exact XS.isub h hx hg hd hs hr
theorem own_iand {tb : Tables} [Ours tb] {e : Env} {below : List Frame} {T target : State} {m : MethodId} {c : Code} {g : JFrame} (h : At T m c below) (hx : tb.exec = Jvm.exec) (hg : g.method = m) {x : Int32} {y : Int32} {v : Int32} {rest : List Value} (hd : decode c.code g.pc = .ok (.iand, 1)) (hs : g.stack = .int y :: .int x :: rest) (hv : x &&& y = v)
    (hr : Steps tb e below (T.setTop { g with pc := g.pc + 1, stack := .int v :: rest }) target) : Steps tb e below (T.setTop g) target := by subst hv; exact XS.iand h hx hg hd hs hr
theorem own_ishl {tb : Tables} [Ours tb] {e : Env} {below : List Frame} {T target : State} {m : MethodId} {c : Code} {g : JFrame} (h : At T m c below) (hx : tb.exec = Jvm.exec) (hg : g.method = m) {x : Int32} {y : Int32} {v : Int32} {rest : List Value} (hd : decode c.code g.pc = .ok (.ishl, 1)) (hs : g.stack = .int y :: .int x :: rest) (hv : x <<< (y &&& 31) = v)
    (hr : Steps tb e below (T.setTop { g with pc := g.pc + 1, stack := .int v :: rest }) target) : Steps tb e below (T.setTop g) target := by subst hv; exact XT.ishl h hx hg hd hs hr
theorem own_ishr {tb : Tables} [Ours tb] {e : Env} {below : List Frame} {T target : State} {m : MethodId} {c : Code} {g : JFrame} (h : At T m c below) (hx : tb.exec = Jvm.exec) (hg : g.method = m) {x : Int32} {y : Int32} {v : Int32} {rest : List Value} (hd : decode c.code g.pc = .ok (.ishr, 1)) (hs : g.stack = .int y :: .int x :: rest) (hv : x >>> (y &&& 31) = v)
    (hr : Steps tb e below (T.setTop { g with pc := g.pc + 1, stack := .int v :: rest }) target) : Steps tb e below (T.setTop g) target := by subst hv; exact XT.ishr h hx hg hd hs hr
theorem own_iushr {tb : Tables} [Ours tb] {e : Env} {below : List Frame} {T target : State} {m : MethodId} {c : Code} {g : JFrame} (h : At T m c below) (hx : tb.exec = Jvm.exec) (hg : g.method = m) {x : Int32} {y : Int32} {v : Int32} {rest : List Value} (hd : decode c.code g.pc = .ok (.iushr, 1)) (hs : g.stack = .int y :: .int x :: rest) (hv : XT.ushr x y = v)
    (hr : Steps tb e below (T.setTop { g with pc := g.pc + 1, stack := .int v :: rest }) target) : Steps tb e below (T.setTop g) target := by subst hv; exact XT.iushr h hx hg hd hs hr
theorem own_irem {tb : Tables} [Ours tb] {e : Env} {below : List Frame} {T target : State} {m : MethodId} {c : Code} {g : JFrame} (h : At T m c below) (hx : tb.exec = Jvm.exec) (hg : g.method = m) {x : Int32} {y : Int32} {v : Int32} {rest : List Value} (hd : decode c.code g.pc = .ok (.irem, 1)) (hs : g.stack = .int y :: .int x :: rest) (hy : y ≠ 0) (hv : x - x / y * y = v)
    (hr : Steps tb e below (T.setTop { g with pc := g.pc + 1, stack := .int v :: rest }) target) : Steps tb e below (T.setTop g) target := by subst hv; exact XS.irem h hx hg hd hs hy hr
theorem own_ladd {tb : Tables} [Ours tb] {e : Env} {below : List Frame} {T target : State} {m : MethodId} {c : Code} {g : JFrame} (h : At T m c below) (hx : tb.exec = Jvm.exec) (hg : g.method = m) {x : Int64} {y : Int64} {v : Int64} {rest : List Value} (hd : decode c.code g.pc = .ok (.ladd, 1)) (hs : g.stack = .long y :: .long x :: rest) (hv : x + y = v)
    (hr : Steps tb e below (T.setTop { g with pc := g.pc + 1, stack := .long v :: rest }) target) : Steps tb e below (T.setTop g) target := by subst hv; exact XT.ladd h hx hg hd hs hr
theorem own_lsub {tb : Tables} [Ours tb] {e : Env} {below : List Frame} {T target : State} {m : MethodId} {c : Code} {g : JFrame} (h : At T m c below) (hx : tb.exec = Jvm.exec) (hg : g.method = m) {x : Int64} {y : Int64} {v : Int64} {rest : List Value} (hd : decode c.code g.pc = .ok (.lsub, 1)) (hs : g.stack = .long y :: .long x :: rest) (hv : x - y = v)
    (hr : Steps tb e below (T.setTop { g with pc := g.pc + 1, stack := .long v :: rest }) target) : Steps tb e below (T.setTop g) target := by subst hv; exact XT.lsub h hx hg hd hs hr
theorem own_lmul {tb : Tables} [Ours tb] {e : Env} {below : List Frame} {T target : State} {m : MethodId} {c : Code} {g : JFrame} (h : At T m c below) (hx : tb.exec = Jvm.exec) (hg : g.method = m) {x : Int64} {y : Int64} {v : Int64} {rest : List Value} (hd : decode c.code g.pc = .ok (.lmul, 1)) (hs : g.stack = .long y :: .long x :: rest) (hv : x * y = v)
    (hr : Steps tb e below (T.setTop { g with pc := g.pc + 1, stack := .long v :: rest }) target) : Steps tb e below (T.setTop g) target := by subst hv; exact XT.lmul h hx hg hd hs hr
theorem own_land {tb : Tables} [Ours tb] {e : Env} {below : List Frame} {T target : State} {m : MethodId} {c : Code} {g : JFrame} (h : At T m c below) (hx : tb.exec = Jvm.exec) (hg : g.method = m) {x : Int64} {y : Int64} {v : Int64} {rest : List Value} (hd : decode c.code g.pc = .ok (.land, 1)) (hs : g.stack = .long y :: .long x :: rest) (hv : x &&& y = v)
    (hr : Steps tb e below (T.setTop { g with pc := g.pc + 1, stack := .long v :: rest }) target) : Steps tb e below (T.setTop g) target := by subst hv; exact XT.land h hx hg hd hs hr
theorem own_lshl {tb : Tables} [Ours tb] {e : Env} {below : List Frame} {T target : State} {m : MethodId} {c : Code} {g : JFrame} (h : At T m c below) (hx : tb.exec = Jvm.exec) (hg : g.method = m) {x : Int64} {y : Int32} {v : Int64} {rest : List Value} (hd : decode c.code g.pc = .ok (.lshl, 1)) (hs : g.stack = .int y :: .long x :: rest) (hv : x <<< (y.toInt64 &&& 63) = v)
    (hr : Steps tb e below (T.setTop { g with pc := g.pc + 1, stack := .long v :: rest }) target) : Steps tb e below (T.setTop g) target := by subst hv; exact XT.lshl h hx hg hd hs hr
theorem own_lshr {tb : Tables} [Ours tb] {e : Env} {below : List Frame} {T target : State} {m : MethodId} {c : Code} {g : JFrame} (h : At T m c below) (hx : tb.exec = Jvm.exec) (hg : g.method = m) {x : Int64} {y : Int32} {v : Int64} {rest : List Value} (hd : decode c.code g.pc = .ok (.lshr, 1)) (hs : g.stack = .int y :: .long x :: rest) (hv : x >>> (y.toInt64 &&& 63) = v)
    (hr : Steps tb e below (T.setTop { g with pc := g.pc + 1, stack := .long v :: rest }) target) : Steps tb e below (T.setTop g) target := by subst hv; exact XT.lshr h hx hg hd hs hr
theorem own_lushr {tb : Tables} [Ours tb] {e : Env} {below : List Frame} {T target : State} {m : MethodId} {c : Code} {g : JFrame} (h : At T m c below) (hx : tb.exec = Jvm.exec) (hg : g.method = m) {x : Int64} {y : Int32} {v : Int64} {rest : List Value} (hd : decode c.code g.pc = .ok (.lushr, 1)) (hs : g.stack = .int y :: .long x :: rest) (hv : XT.ushrL x y = v)
    (hr : Steps tb e below (T.setTop { g with pc := g.pc + 1, stack := .long v :: rest }) target) : Steps tb e below (T.setTop g) target := by subst hv; exact XT.lushr h hx hg hd hs hr
theorem own_lrem {tb : Tables} [Ours tb] {e : Env} {below : List Frame} {T target : State} {m : MethodId} {c : Code} {g : JFrame} (h : At T m c below) (hx : tb.exec = Jvm.exec) (hg : g.method = m) {x : Int64} {y : Int64} {v : Int64} {rest : List Value} (hd : decode c.code g.pc = .ok (.lrem, 1)) (hs : g.stack = .long y :: .long x :: rest) (hy : y ≠ 0) (hv : x - (x / y) * y = v)
    (hr : Steps tb e below (T.setTop { g with pc := g.pc + 1, stack := .long v :: rest }) target) : Steps tb e below (T.setTop g) target := by subst hv; exact XT.lrem h hx hg hd hs hy hr
theorem own_lcmp {tb : Tables} [Ours tb] {e : Env} {below : List Frame} {T target : State} {m : MethodId} {c : Code} {g : JFrame} (h : At T m c below) (hx : tb.exec = Jvm.exec) (hg : g.method = m) {x : Int64} {y : Int64} {v : Int32} {rest : List Value} (hd : decode c.code g.pc = .ok (.lcmp, 1)) (hs : g.stack = .long y :: .long x :: rest) (hv : XT.cmpL x y = v)
    (hr : Steps tb e below (T.setTop { g with pc := g.pc + 1, stack := .int v :: rest }) target) : Steps tb e below (T.setTop g) target := by subst hv; exact XT.lcmp h hx hg hd hs hr
theorem own_lneg {tb : Tables} [Ours tb] {e : Env} {below : List Frame} {T target : State} {m : MethodId} {c : Code} {g : JFrame} (h : At T m c below) (hx : tb.exec = Jvm.exec) (hg : g.method = m) {x : Int64} {v : Int64} {rest : List Value} (hd : decode c.code g.pc = .ok (.lneg, 1)) (hs : g.stack = .long x :: rest) (hv : -x = v)
    (hr : Steps tb e below (T.setTop { g with pc := g.pc + 1, stack := .long v :: rest }) target) : Steps tb e below (T.setTop g) target := by subst hv; exact XT.lneg h hx hg hd hs hr
theorem own_i2l {tb : Tables} [Ours tb] {e : Env} {below : List Frame} {T target : State} {m : MethodId} {c : Code} {g : JFrame} (h : At T m c below) (hx : tb.exec = Jvm.exec) (hg : g.method = m) {x : Int32} {v : Int64} {rest : List Value} (hd : decode c.code g.pc = .ok (.i2l, 1)) (hs : g.stack = .int x :: rest) (hv : x.toInt64 = v)
    (hr : Steps tb e below (T.setTop { g with pc := g.pc + 1, stack := .long v :: rest }) target) : Steps tb e below (T.setTop g) target := by subst hv; exact XT.i2l h hx hg hd hs hr
theorem own_l2i {tb : Tables} [Ours tb] {e : Env} {below : List Frame} {T target : State} {m : MethodId} {c : Code} {g : JFrame} (h : At T m c below) (hx : tb.exec = Jvm.exec) (hg : g.method = m) {x : Int64} {v : Int32} {rest : List Value} (hd : decode c.code g.pc = .ok (.l2i, 1)) (hs : g.stack = .long x :: rest) (hv : x.toInt32 = v)
    (hr : Steps tb e below (T.setTop { g with pc := g.pc + 1, stack := .int v :: rest }) target) : Steps tb e below (T.setTop g) target := by subst hv; exact XT.l2i h hx hg hd hs hr
theorem own_ineg {tb : Tables} [Ours tb] {e : Env} {below : List Frame} {T target : State} {m : MethodId} {c : Code} {g : JFrame} (h : At T m c below) (hx : tb.exec = Jvm.exec) (hg : g.method = m) {x : Int32} {v : Int32} {rest : List Value} (hd : decode c.code g.pc = .ok (.ineg, 1)) (hs : g.stack = .int x :: rest) (hv : -x = v)
    (hr : Steps tb e below (T.setTop { g with pc := g.pc + 1, stack := .int v :: rest }) target) : Steps tb e below (T.setTop g) target := by subst hv; exact XS.ineg h hx hg hd hs hr
section OwnFP2
open Jvm.FP.Core
/-- what a condition asks of two whole numbers -/
def own_rel : ClassFile.Cond → Int → Int → Bool
  | .eq, i, j => decide (i = j)
  | .ne, i, j => decide (i ≠ j)
  | .lt, i, j => decide (i < j)
  | .ge, i, j => decide (j ≤ i)
  | .gt, i, j => decide (j < i)
  | .le, i, j => decide (i ≤ j)
theorem own_br2 (cd : ClassFile.Cond) (x y : Int32) : if_icmp.holds cd x y = own_rel cd x.toInt y.toInt := by
  cases cd
  · show (x == y) = decide (x.toInt = y.toInt)
    by_cases h : x = y
    · subst h; simp
    · rw [beq_eq_false_iff_ne.mpr h, decide_eq_false (fun q => h (Int32.toInt_inj.mp q))]
  · show (x != y) = decide (x.toInt ≠ y.toInt)
    by_cases h : x = y
    · subst h; simp
    · rw [bne_iff_ne.mpr h]; exact (decide_eq_true (p := x.toInt ≠ y.toInt) (fun q => h (Int32.toInt_inj.mp q))).symm
  · exact decide_eq_decide.mpr Int32.lt_iff_toInt_lt
  · exact decide_eq_decide.mpr Int32.le_iff_toInt_le
  · exact decide_eq_decide.mpr Int32.lt_iff_toInt_lt
  · exact decide_eq_decide.mpr Int32.le_iff_toInt_le
theorem own_br0 (cd : ClassFile.Cond) (x : Int32) : ifCond.holds cd x = own_rel cd x.toInt 0 := by
  have h : ifCond.holds cd x = if_icmp.holds cd x 0 := by cases cd <;> rfl
  rw [h, own_br2]; rfl
theorem own_rel_iff (cd : ClassFile.Cond) {i j i' j' : Int} (h1 : i < j ↔ i' < j') (h2 : i = j ↔ i' = j') : own_rel cd i j = own_rel cd i' j' := by
  cases cd
  · exact decide_eq_decide.mpr h2
  · exact decide_eq_decide.mpr (not_congr h2)
  · exact decide_eq_decide.mpr h1
  · exact decide_eq_decide.mpr (by omega)
  · exact decide_eq_decide.mpr (by omega)
  · exact decide_eq_decide.mpr (by omega)
theorem own_sgn3 (cd : ClassFile.Cond) {z : Int32} {i j : Int} (h : (i < j ∧ z = -1) ∨ (i = j ∧ z = 0) ∨ (j < i ∧ z = 1)) : ifCond.holds cd z = own_rel cd i j := by
  rw [own_br0]
  refine own_rel_iff cd ?_ ?_ <;> rcases h with ⟨h1, rfl⟩ | ⟨h1, rfl⟩ | ⟨h1, rfl⟩
  · have e1 : (-1 : Int32).toInt = -1 := rfl
    omega
  · have e1 : (0 : Int32).toInt = 0 := rfl
    omega
  · have e1 : (1 : Int32).toInt = 1 := rfl
    omega
  · have e1 : (-1 : Int32).toInt = -1 := rfl
    omega
  · have e1 : (0 : Int32).toInt = 0 := rfl
    omega
  · have e1 : (1 : Int32).toInt = 1 := rfl
    omega
theorem own_brL (cd : ClassFile.Cond) (x y : Int64) : ifCond.holds cd (XT.cmpL x y) = own_rel cd x.toInt y.toInt := by
  refine own_sgn3 cd ?_
  have h := @Int64.toInt_inj x y
  by_cases h1 : y < x
  · refine Or.inr (Or.inr ⟨Int64.lt_iff_toInt_lt.mp h1, ?_⟩)
    show (if y < x then (1 : Int32) else if x = y then 0 else -1) = 1
    rw [if_pos h1]
  · by_cases h2 : x = y
    · refine Or.inr (Or.inl ⟨h.mpr h2, ?_⟩)
      show (if y < x then (1 : Int32) else if x = y then 0 else -1) = 0
      rw [if_neg h1, if_pos h2]
    · refine Or.inl ⟨?_, ?_⟩
      · rw [Int64.lt_iff_toInt_lt] at h1
        have : x.toInt ≠ y.toInt := fun q => h2 (h.mp q)
        omega
      · show (if y < x then (1 : Int32) else if x = y then 0 else -1) = -1
        rw [if_neg h1, if_neg h2]
theorem own_brD (cd : ClassFile.Cond) {k i j : Int} {a b : UInt64} (ha : OwnDS k i a) (hb : OwnDS k j b) (o : CmpOp) : ifCond.holds cd (cmpValue (FP.dcmp a b) o) = own_rel cd i j := by
  have hc : FP.dcmp a b = some (compare i j) := own_ds_cmp ha hb
  rw [hc]
  refine own_sgn3 cd ?_
  rcases Int.lt_trichotomy i j with q | q | q
  · refine Or.inl ⟨q, ?_⟩
    rw [show compare i j = .lt from Int.compare_eq_lt.mpr q]; rfl
  · refine Or.inr (Or.inl ⟨q, ?_⟩)
    rw [show compare i j = .eq from Int.compare_eq_eq.mpr q]; rfl
  · refine Or.inr (Or.inr ⟨q, ?_⟩)
    rw [show compare i j = .gt from Int.compare_eq_gt.mpr q]; rfl
theorem own_nn {k i : Int} {a : UInt64} (h : OwnDS k i a) : Jvm.Free.Fl.NoNaN64 a := Jvm.Free.Fl.val64_no.mpr (own_ds_ne_nan h)
theorem own_i2d (x : Int32) : OwnDS 0 x.toInt (FP.i2d x) := own_ds_int (i2d_int x)
theorem own_l2d {x : Int64} {i : Int} (h : x.toInt = i) (hb : i.natAbs ≤ 9007199254740992) : OwnDS 0 i (FP.l2d x) := by
  subst h; exact own_ds_int (l2d_int (by omega))
theorem own_i32 (x : Int32) : -2147483648 ≤ x.toInt ∧ x.toInt ≤ 2147483648 := by
  have h1 := x.toInt_lt
  have h2 := x.le_toInt
  omega
theorem own_mul_bd {i j A B : Int} (h1 : -A ≤ i ∧ i ≤ A) (h2 : -B ≤ j ∧ j ≤ B) : -(A * B) ≤ i * j ∧ i * j ≤ A * B := by
  have ha : i.natAbs ≤ A.toNat := by omega
  have hb : j.natAbs ≤ B.toNat := by omega
  have h := Nat.mul_le_mul ha hb
  rw [← Int.natAbs_mul] at h
  have e : ((A.toNat * B.toNat : Nat) : Int) = A * B := by
    rw [Int.natCast_mul, Int.toNat_of_nonneg (by omega), Int.toNat_of_nonneg (by omega)]
  generalize A.toNat * B.toNat = n at h e
  omega
theorem own_d2l {i : Int} {a : UInt64} (h : OwnDS 0 i a) (hb : i.natAbs ≤ 9007199254740992) : (FP.d2l a).toInt = i := by
  have e : (Int64.ofInt i).toInt = i := by rw [Int64.toInt_ofInt]; exact Jvm.Kit.bmod64 (by omega) (by omega)
  have q : FP.d2l a = Int64.ofInt i := d2l_int (a := Int64.ofInt i) (b := a) (by rw [e]; exact own_int_ds h)
  rw [q, e]
theorem own_ds_neg {k i : Int} {a : UInt64} (h : OwnDS k i a) : OwnDS k (-i) (FP.dneg a) := by
  show OwnSc _ _ _
  rw [Jvm.FP.val64_dneg]; exact own_sc_neg h
theorem own_fin {k i : Int} {a : UInt64} (h : OwnDS k i a) : DFin a := by
  obtain ⟨s, c, q, hv, -⟩ := own_sc_fin h
  exact ⟨s, c, q, hv⟩
theorem own_isfin {a : UInt64} (h : DFin a) : ifCond.holds .gt (cmpValue (FP.dcmp (a &&& 0x7fffffffffffffff) 9218868437227405311) .g) = false := by
  have hn : dIsNaN a = false := (notNaN_iff a).mpr (by obtain ⟨s, c, q, hv⟩ := h; rw [hv]; exact Datum.noConfusion)
  have q : FP.dcmp (a &&& 0x7fffffffffffffff) 9218868437227405311 = some .lt ∨ FP.dcmp (a &&& 0x7fffffffffffffff) 9218868437227405311 = some .eq := (le_max hn).mpr h
  rcases q with q | q <;> rw [q] <;> rfl
theorem own_bd_add {i j A B C : Int} (h1 : -A ≤ i ∧ i ≤ A) (h2 : -B ≤ j ∧ j ≤ B) (hC : A + B = C) : -C ≤ i + j ∧ i + j ≤ C := by omega
theorem own_bd_sub {i j A B C : Int} (h1 : -A ≤ i ∧ i ≤ A) (h2 : -B ≤ j ∧ j ≤ B) (hC : A + B = C) : -C ≤ i - j ∧ i - j ≤ C := by omega
theorem own_bd_mul {i j A B C : Int} (h1 : -A ≤ i ∧ i ≤ A) (h2 : -B ≤ j ∧ j ≤ B) (hC : A * B = C) : -C ≤ i * j ∧ i * j ≤ C := hC ▸ own_mul_bd h1 h2
theorem own_bd_neg {i A : Int} (h1 : -A ≤ i ∧ i ≤ A) : -A ≤ -i ∧ -i ≤ A := by omega
theorem own_bd_nat {i C : Int} {n : Nat} (h : -C ≤ i ∧ i ≤ C) (hC : C < ((2 ^ n : Nat) : Int)) : i.natAbs < 2 ^ n := by
  generalize 2 ^ n = N at hC
  omega
theorem own_bd_le {i A C : Int} (h : -A ≤ i ∧ i ≤ A) (hC : A ≤ C) : -C ≤ i ∧ i ≤ C := by omega
theorem own_lf_add {x y v : Int64} {i j A B k : Int} (hv : x + y = v) (Fx : x.toInt = i) (Fy : y.toInt = j) (b1 : -A ≤ i ∧ i ≤ A) (b2 : -B ≤ j ∧ j ≤ B) (hC : A + B < 9223372036854775808) (hk : k = i + j) : v.toInt = k := by
  subst hv hk; rw [Jvm.Kit.i64_add (by rw [Fx, Fy]; omega) (by rw [Fx, Fy]; omega), Fx, Fy]
theorem own_lf_sub {x y v : Int64} {i j A B k : Int} (hv : x - y = v) (Fx : x.toInt = i) (Fy : y.toInt = j) (b1 : -A ≤ i ∧ i ≤ A) (b2 : -B ≤ j ∧ j ≤ B) (hC : A + B < 9223372036854775808) (hk : k = i - j) : v.toInt = k := by
  subst hv hk; rw [Jvm.Kit.i64_sub (by rw [Fx, Fy]; omega) (by rw [Fx, Fy]; omega), Fx, Fy]
theorem own_lf_mul {x y v : Int64} {i j A B k : Int} (hv : x * y = v) (Fx : x.toInt = i) (Fy : y.toInt = j) (b1 : -A ≤ i ∧ i ≤ A) (b2 : -B ≤ j ∧ j ≤ B) (hC : A * B < 9223372036854775808) (hk : k = i * j) : v.toInt = k := by
  have q := own_mul_bd b1 b2
  subst hv hk; rw [Jvm.Kit.i64_mul (by rw [Fx, Fy]; omega) (by rw [Fx, Fy]; omega), Fx, Fy]
theorem own_lf_neg {x v : Int64} {i A k : Int} (hv : -x = v) (Fx : x.toInt = i) (b1 : -A ≤ i ∧ i ≤ A) (hC : A < 9223372036854775808) (hk : k = -i) : v.toInt = k := by
  subst hv hk; rw [Jvm.Kit.i64_neg (by omega), Fx]
theorem own_l2db {x : Int64} {i A : Int} (h : x.toInt = i) (b1 : -A ≤ i ∧ i ≤ A) (hC : A ≤ 9007199254740992) : OwnDS 0 i (FP.l2d x) := own_l2d h (by omega)
theorem own_d2lb {i A : Int} {a : UInt64} (h : OwnDS 0 i a) (b1 : -A ≤ i ∧ i ≤ A) (hC : A ≤ 9007199254740992) : (FP.d2l a).toInt = i := own_d2l h (by omega)
end OwnFP2
/-- an array of doubles by its list -/
def OwnDA (Z : State) (h : Heap) (o : Addr) (vs : List UInt64) : Prop := ∃ c : Cell, Jvm.RoadKit.Arr Z h o c .double ∧ c.slots = (vs.map Value.double).toArray
section OwnDAs
variable {Z : State} {h h' : Heap} {o b : Addr} {vs : List UInt64} {sl : Nat} {w : Value} {ws : List Addr}
theorem OwnDA.lt (A : OwnDA Z h o vs) : o < h.size := by obtain ⟨c, A, -⟩ := A; exact A.lt
theorem OwnDA.ex (A : OwnDA Z h o vs) (E : Ext h h') : OwnDA Z h' o vs := by obtain ⟨c, A, q⟩ := A; exact ⟨c, A.ext E, q⟩
theorem OwnDA.ot (A : OwnDA Z h o vs) (W : Wr h h' b sl w) (q : o ≠ b) : OwnDA Z h' o vs := by obtain ⟨c, A, r⟩ := A; exact ⟨c, A.other W q, r⟩
theorem OwnDA.kp (A : OwnDA Z h o vs) (K : Keep h h' ws) (q : o ∉ ws) : OwnDA Z h' o vs := by obtain ⟨c, A, r⟩ := A; exact ⟨c, ⟨K.2.1 o c A.1 q, A.2⟩, r⟩
theorem OwnDA.nw {k : ClassId} {z : Int32} (A : Jvm.RoadKit.Arr Z h o (newA k .double z) .double) (n : Nat) (hn : z.toNatClampNeg = n) : OwnDA Z h o (List.replicate n 0) := by
  refine ⟨_, A, ?_⟩
  show Array.replicate z.toNatClampNeg (Value.double 0) = _
  rw [hn]; simp
theorem OwnDA.st {x : UInt64} {i : Nat} (A : OwnDA Z h o vs) (W : Wr h h' o i (.double x)) : OwnDA Z h' o (vs.set i x) := by
  obtain ⟨c, A, r⟩ := A
  refine ⟨_, A.same W, ?_⟩
  show c.slots.setIfInBounds i (.double x) = _
  rw [r]; simp [List.map_set]
variable {p : Program} {l : Launch} {e : Env} {R : Room} {s : State} {m : MethodId} {args : Array Value} {below : List Frame} {meth : Method} {c : Code} {T : State} {locs : List Loc} {cells slots : Nat}
theorem own_daS (X : Stand p l e R s m args below meth c T locs cells slots) (hx : p.tables.exec = Jvm.exec) (hZ : Z.Warmed39 s.vm) (eT : T.heap = h) (A : OwnDA Z h o vs) {j : Int32} {x : UInt64} {i : Nat} (hj : ¬ j < 0) (hji : j.toNatClampNeg = i) (hi : i < vs.length) {g : JFrame} (hg : g.method = m) {rest : List Value} (hs : g.stack = .double x :: .int j :: .ref o :: rest) (hd : decode c.code g.pc = .ok (.dastore, 1)) :
    ∃ T' h', Stand p l e R s m args below meth c T' (locs ++ [⟨o, i⟩]) cells slots ∧ T'.heap = h' ∧ Wr h h' o i (.double x) ∧ OwnDA Z h' o (vs.set i x) ∧ ∀ target, Steps p.tables e below (T'.setTop { g with pc := g.pc + 1, stack := rest }) target → Steps p.tables e below (T.setTop g) target := by
  subst hji
  obtain ⟨cl, A', r⟩ := A
  have hz : cl.slots.size = vs.length := by rw [r]; simp
  obtain ⟨T', h', X', e', W, st⟩ := stD X hx hZ eT A' (j := j) (x := x) (fun q => q.elim hj (fun q => by omega)) hg hs hd
  exact ⟨T', h', X', e', W, OwnDA.st ⟨cl, A', r⟩ W, st⟩
theorem own_daL (X : Stand p l e R s m args below meth c T locs cells slots) (hx : p.tables.exec = Jvm.exec) (hZ : Z.Warmed39 s.vm) (eT : T.heap = h) (A : OwnDA Z h o vs) {j : Int32} {x : UInt64} {i : Nat} (hj : ¬ j < 0) (hji : j.toNatClampNeg = i) (hv : vs[i]? = some x) {g : JFrame} (hg : g.method = m) {rest : List Value} (hs : g.stack = .int j :: .ref o :: rest) (hd : decode c.code g.pc = .ok (.daload, 1)) {target : State}
    (hr : Steps p.tables e below (T.setTop { g with pc := g.pc + 1, stack := .double x :: rest }) target) : Steps p.tables e below (T.setTop g) target := by
  subst hji
  obtain ⟨cl, A', r⟩ := A
  have hz : cl.slots.size = vs.length := by rw [r]; simp
  have hi : j.toNatClampNeg < vs.length := (List.getElem?_eq_some_iff.mp hv).1
  exact X.daload hx (j := j) (v := .double x) (by rw [eT]; exact A'.1) (State.isArrayOf_alike hZ.alike A'.2.1) A'.2.2 (fun q => q.elim hj (fun q => by omega)) (by rw [r]; simp [hv]) hg hs hd target hr
theorem own_newD (X : Stand p l e R s m args below meth c T locs cells slots) (hx : p.tables.exec = Jvm.exec) (hZ : Z.Warmed39 s.vm) {a0 : Array Value} (w : (Cond.arrayClass .double).before a0 Z = true) (eT : T.heap = h) {g : JFrame} (hg : g.method = m) (hd : decode c.code g.pc = .ok (.newarray .double, 2)) {z : Int32} {n : Nat} {rest : List Value} (hs : g.stack = .int z :: rest) (hz : ¬ z < 0) (hn : z.toNatClampNeg = n) (hb : n * 8 ≤ 536870912) (hc : cells + 1 ≤ R.cells) (hl : slots + n ≤ R.slots) :
    ∃ T' h', Stand p l e R s m args below meth c T' locs (cells + 1) (slots + n) ∧ T'.heap = h' ∧ Ext h h' ∧ OwnDA Z h' h.size (List.replicate n 0) ∧ ∀ target, Steps p.tables e below (T'.setTop { g with pc := g.pc + 2, stack := .ref h.size :: rest }) target → Steps p.tables e below (T.setTop g) target := by
  obtain ⟨T', h', cA, X', e', E, A, st⟩ := newP X hx hZ (aty := .double) w eT hg hd hs hz (cap := n) (Nat.le_of_eq hn) hb hc hl
  exact ⟨T', h', X', e', E, OwnDA.nw A n hn, st⟩
end OwnDAs
theorem own_and3 (x : Int32) : x &&& 3 = 0 ∨ x &&& 3 = 1 ∨ x &&& 3 = 2 ∨ x &&& 3 = 3 := by
  have q := Jvm.Kit.i32_mask x 3 (k := 2) (by decide) (by decide)
  have h0 : (0 : Int32).toInt = 0 := rfl
  have h1 : (1 : Int32).toInt = 1 := rfl
  have h2 : (2 : Int32).toInt = 2 := rfl
  have h3 : (3 : Int32).toInt = 3 := rfl
  rw [← Int32.toInt_inj, ← Int32.toInt_inj, ← Int32.toInt_inj, ← Int32.toInt_inj, h0, h1, h2, h3]
  omega
theorem own_half : OwnDS (-1) 1 4602678819172646912 := by
  show OwnSc (-1) 1 (Jvm.FP.Core.val64 4602678819172646912)
  rw [show Jvm.FP.Core.val64 4602678819172646912 = .fin false 4503599627370496 (-53) from by decide +kernel]
  show Jvm.FP.Core.signed false _ = _
  decide +kernel
theorem own_two : OwnDS 1 1 4611686018427387904 := by
  show OwnSc 1 1 (Jvm.FP.Core.val64 4611686018427387904)
  rw [show Jvm.FP.Core.val64 4611686018427387904 = .fin false 4503599627370496 (-51) from by decide +kernel]
  show Jvm.FP.Core.signed false _ = _
  decide +kernel
theorem own_b1 : -1 ≤ (1 : Int) ∧ (1 : Int) ≤ 1 := by omega
theorem d1_0 : decode method_2_code 0 = .ok (.iload_n 0, 1) := by decide +kernel
theorem d1_1 : decode method_2_code 1 = .ok (.bipush 11, 2) := by decide +kernel
theorem d1_3 : decode method_2_code 3 = .ok (.ishl, 1) := by decide +kernel
theorem d1_4 : decode method_2_code 4 = .ok (.bipush 11, 2) := by decide +kernel
theorem d1_6 : decode method_2_code 6 = .ok (.ishr, 1) := by decide +kernel
theorem d1_7 : decode method_2_code 7 = .ok (.ireturn, 1) := by decide +kernel
theorem pn_rmS : plainName "com/example/isochron/isochron/dsp/FourierSeparatePinLaw" = true := by first | (simp [plainName, overriddenIn]; done) | decide +kernel
theorem pd_rmS : parseMethodDescriptor "(I)I" = some ⟨[.int], (some .int)⟩ := by decide +kernel
theorem ef_rmS (m : MethodId) (y : Int32) : entryFrame m #[(.int y)] 1 = (mkF m 0 #[sI y] []) := by first | (simp [entryFrame, mkF, argsToLocals, Value.category, maxLocals]; done) | rfl
def Q_rmS (Z : State) (y : Int32) (h0 : Heap) (n0 : Nat) (v : Option Value) (h : Heap) (L : List Loc) : Prop := ∃ r, v = some (.int r) ∧ (-1048576 ≤ r.toInt ∧ r.toInt ≤ 1048576) ∧ Fr n0 L ∧ h = h0
set_option maxRecDepth 65536 in
set_option maxHeartbeats 40000000 in
theorem rmS (l : Launch) (Z : State) (a0 : Array Value) (hw : ∀ d ∈ tables_1, d.before a0 Z = true) (ws : List Jvm.Cond) (y : Int32) (h0 : Heap) (n0 : Nat) (Z0 : n0 ≤ h0.size)  :
    MetFree l (⟨"com/example/isochron/isochron/dsp/FourierSeparatePinLaw", "small", "(I)I"⟩ : MethodName) (head1 (Jvm.Cond.code (⟨"com/example/isochron/isochron/dsp/FourierSeparatePinLaw", "small", "(I)I"⟩ : MethodName) method_2_code 1 (some .int) :: ws) ({ frames := 0, cells := 0, slots := 0, locals := 0 } : Room)) (fun a U => a = #[(.int y)] ∧ Z.Warmed39 U.vm ∧ U.heap = h0) (fun _ _ _ _ _ => True) (fun _ U oO U' => ∃ v L, oO = .returned v ∧ Q_rmS Z y h0 n0 v U'.heap L ∧ FrameEnd U oO U' L ({ frames := 0, cells := 0, slots := 0, locals := 0 } : Room).cells ({ frames := 0, cells := 0, slots := 0, locals := 0 } : Room).slots) := by
  refine MetFree.of_bodySF (plainFor_of_name pn_rmS) hisR ?_
  intro p e s m args below meth c s₁ Bd hml0 hP hK
  obtain ⟨rfl, hZ, hh⟩ := hP
  have hx := Bd.exec
  have hby := Bd.bytes
  have hml : c.maxLocals = 1 := hml0
  have hown : s.vm.findClass "com/example/isochron/isochron/dsp/FourierSeparatePinLaw" = some m.cls := findClass_of_methodNamed Bd.named
  have hnm := (name_of_methodNamed Bd.named Bd.method).1
  have hk := Bd.notSynchronized
  have hrt := Bd.returns
  have X0 : Stand p l e ({ frames := 0, cells := 0, slots := 0, locals := 0 } : Room) s m #[(.int y)] below meth c s₁ [] 0 0 := Stand.of_body Bd
  have e0 : s₁.heap = h0 := by rw [← hh, Bd.state]; rfl
  have N0 := Fr.nil n0
  show OwnGo p.tables e below (OwnEnd s (Q_rmS Z y h0 n0) ({ frames := 0, cells := 0, slots := 0, locals := 0 } : Room).cells ({ frames := 0, cells := 0, slots := 0, locals := 0 } : Room).slots) _
  refine OwnGo.pre (fun t k => castTop (ef_rmS m y) k) ?_
  show OwnGo _ _ _ _ (s₁.setTop (mkF m 0 #[sI y] []))
  obtain ⟨sl, hsl⟩ : ∃ v, y <<< ((11 : Int32) &&& 31) = v := ⟨_, rfl⟩
  obtain ⟨rr, hrr⟩ : ∃ v, sl >>> ((11 : Int32) &&& 31) = v := ⟨_, rfl⟩
  have bb : -1048576 ≤ rr.toInt ∧ rr.toInt ≤ 1048576 := by have q := Jvm.Kit.i32_shr sl ((11 : Int32) &&& 31) (k := 11) (by decide); have q1 := sl.toInt_lt; have q2 := sl.le_toInt; rw [hrr] at q; omega
  refine OwnGo.pre (fun t k => XS.iloadN X0.here hx rfl (hb hby d1_0) rfl (XS.bipush X0.here hx rfl (hb hby d1_1) (own_ishl X0.here hx rfl (hb hby d1_3) rfl hsl (XS.bipush X0.here hx rfl (hb hby d1_4) (own_ishr X0.here hx rfl (hb hby d1_6) rfl hrr k))))) ?_
  show OwnGo _ _ _ _ (s₁.setTop (mkF m 7 #[sI y] [(.int rr)]))
  exact own_retI X0 hx hk hrt (hb hby d1_7) ⟨_, rfl, bb, N0, e0⟩ (by decide) (by decide)
theorem d3_0 : decode method_3_code 0 = .ok (.lload_n 0, 1) := by decide +kernel
theorem d3_1 : decode method_3_code 1 = .ok (.lload 4, 2) := by decide +kernel
theorem d3_3 : decode method_3_code 3 = .ok (.lmul, 1) := by decide +kernel
theorem d3_4 : decode method_3_code 4 = .ok (.lload_n 2, 1) := by decide +kernel
theorem d3_5 : decode method_3_code 5 = .ok (.lload 6, 2) := by decide +kernel
theorem d3_7 : decode method_3_code 7 = .ok (.lmul, 1) := by decide +kernel
theorem d3_8 : decode method_3_code 8 = .ok (.lsub, 1) := by decide +kernel
theorem d3_9 : decode method_3_code 9 = .ok (.lreturn, 1) := by decide +kernel
theorem pn_rmRe : plainName "com/example/isochron/isochron/dsp/FourierSeparatePinLaw" = true := by first | (simp [plainName, overriddenIn]; done) | decide +kernel
theorem pd_rmRe : parseMethodDescriptor "(JJJJ)J" = some ⟨[.long, .long, .long, .long], (some .long)⟩ := by decide +kernel
theorem ef_rmRe (m : MethodId) (qa qb qc qd : Int64) (ia ib ic id : Int) : entryFrame m #[(.long qa), (.long qb), (.long qc), (.long qd)] 8 = (mkF m 0 #[sJ qa, uS, sJ qb, uS, sJ qc, uS, sJ qd, uS] []) := by first | (simp [entryFrame, mkF, argsToLocals, Value.category, maxLocals]; done) | rfl
def Q_rmRe (Z : State) (qa qb qc qd : Int64) (ia ib ic id : Int) (h0 : Heap) (n0 : Nat) (v : Option Value) (h : Heap) (L : List Loc) : Prop := ∃ r, v = some (.long r) ∧ r.toInt = ia * ic - ib * id ∧ Fr n0 L ∧ h = h0
set_option maxRecDepth 65536 in
set_option maxHeartbeats 40000000 in
theorem rmRe (l : Launch) (Z : State) (a0 : Array Value) (hw : ∀ d ∈ tables_1, d.before a0 Z = true) (ws : List Jvm.Cond) (qa qb qc qd : Int64) (ia ib ic id : Int) (h0 : Heap) (n0 : Nat) (Z0 : n0 ≤ h0.size) (Fa : qa.toInt = ia) (Ya : -2097152 ≤ ia ∧ ia ≤ 2097152) (Fb : qb.toInt = ib) (Yb : -2097152 ≤ ib ∧ ib ≤ 2097152) (Fc : qc.toInt = ic) (Yc : -2097152 ≤ ic ∧ ic ≤ 2097152) (Fd : qd.toInt = id) (Yd : -2097152 ≤ id ∧ id ≤ 2097152) :
    MetFree l (⟨"com/example/isochron/isochron/dsp/FourierSeparatePinLaw", "mulRe", "(JJJJ)J"⟩ : MethodName) (head1 (Jvm.Cond.code (⟨"com/example/isochron/isochron/dsp/FourierSeparatePinLaw", "mulRe", "(JJJJ)J"⟩ : MethodName) method_3_code 8 (some .long) :: ws) ({ frames := 0, cells := 0, slots := 0, locals := 0 } : Room)) (fun a U => a = #[(.long qa), (.long qb), (.long qc), (.long qd)] ∧ Z.Warmed39 U.vm ∧ U.heap = h0) (fun _ _ _ _ _ => True) (fun _ U oO U' => ∃ v L, oO = .returned v ∧ Q_rmRe Z qa qb qc qd ia ib ic id h0 n0 v U'.heap L ∧ FrameEnd U oO U' L ({ frames := 0, cells := 0, slots := 0, locals := 0 } : Room).cells ({ frames := 0, cells := 0, slots := 0, locals := 0 } : Room).slots) := by
  refine MetFree.of_bodySF (plainFor_of_name pn_rmRe) hisR ?_
  intro p e s m args below meth c s₁ Bd hml0 hP hK
  obtain ⟨rfl, hZ, hh⟩ := hP
  have hx := Bd.exec
  have hby := Bd.bytes
  have hml : c.maxLocals = 8 := hml0
  have hown : s.vm.findClass "com/example/isochron/isochron/dsp/FourierSeparatePinLaw" = some m.cls := findClass_of_methodNamed Bd.named
  have hnm := (name_of_methodNamed Bd.named Bd.method).1
  have hk := Bd.notSynchronized
  have hrt := Bd.returns
  have X0 : Stand p l e ({ frames := 0, cells := 0, slots := 0, locals := 0 } : Room) s m #[(.long qa), (.long qb), (.long qc), (.long qd)] below meth c s₁ [] 0 0 := Stand.of_body Bd
  have e0 : s₁.heap = h0 := by rw [← hh, Bd.state]; rfl
  have N0 := Fr.nil n0
  show OwnGo p.tables e below (OwnEnd s (Q_rmRe Z qa qb qc qd ia ib ic id h0 n0) ({ frames := 0, cells := 0, slots := 0, locals := 0 } : Room).cells ({ frames := 0, cells := 0, slots := 0, locals := 0 } : Room).slots) _
  refine OwnGo.pre (fun t k => castTop (ef_rmRe m qa qb qc qd ia ib ic id) k) ?_
  show OwnGo _ _ _ _ (s₁.setTop (mkF m 0 #[sJ qa, uS, sJ qb, uS, sJ qc, uS, sJ qd, uS] []))
  obtain ⟨v1, hv1⟩ : ∃ v, qa * qc = v := ⟨_, rfl⟩
  obtain ⟨j1, hj1⟩ : ∃ i : Int, i = ia * ic := ⟨_, rfl⟩
  have B1 : -4398046511104 ≤ j1 ∧ j1 ≤ 4398046511104 := by rw [hj1]; exact own_bd_mul Ya Yc (by decide)
  have F1 : v1.toInt = j1 := own_lf_mul hv1 Fa Fc Ya Yc (by decide) hj1
  obtain ⟨v2, hv2⟩ : ∃ v, qb * qd = v := ⟨_, rfl⟩
  obtain ⟨j2, hj2⟩ : ∃ i : Int, i = ib * id := ⟨_, rfl⟩
  have B2 : -4398046511104 ≤ j2 ∧ j2 ≤ 4398046511104 := by rw [hj2]; exact own_bd_mul Yb Yd (by decide)
  have F2 : v2.toInt = j2 := own_lf_mul hv2 Fb Fd Yb Yd (by decide) hj2
  obtain ⟨v3, hv3⟩ : ∃ v, v1 - v2 = v := ⟨_, rfl⟩
  obtain ⟨j3, hj3⟩ : ∃ i : Int, i = j1 - j2 := ⟨_, rfl⟩
  have B3 : -8796093022208 ≤ j3 ∧ j3 ≤ 8796093022208 := by rw [hj3]; exact own_bd_sub B1 B2 (by decide)
  have F3 : v3.toInt = j3 := own_lf_sub hv3 F1 F2 B1 B2 (by decide) hj3
  refine OwnGo.pre (fun t k => XT.lloadN X0.here hx rfl (hb hby d3_0) rfl (XT.lload X0.here hx rfl (hb hby d3_1) rfl (own_lmul X0.here hx rfl (hb hby d3_3) rfl hv1 (XT.lloadN X0.here hx rfl (hb hby d3_4) rfl (XT.lload X0.here hx rfl (hb hby d3_5) rfl (own_lmul X0.here hx rfl (hb hby d3_7) rfl hv2 (own_lsub X0.here hx rfl (hb hby d3_8) rfl hv3 k))))))) ?_
  show OwnGo _ _ _ _ (s₁.setTop (mkF m 9 #[sJ qa, uS, sJ qb, uS, sJ qc, uS, sJ qd, uS] [(.long v3)]))
  exact own_retJ X0 hx hk hrt (hb hby d3_9) ⟨_, rfl, by rw [F3]; simp only [hj3, hj1, hj2], N0, e0⟩ (by decide) (by decide)
theorem d4_0 : decode method_4_code 0 = .ok (.lload_n 0, 1) := by decide +kernel
theorem d4_1 : decode method_4_code 1 = .ok (.lload 6, 2) := by decide +kernel
theorem d4_3 : decode method_4_code 3 = .ok (.lmul, 1) := by decide +kernel
theorem d4_4 : decode method_4_code 4 = .ok (.lload_n 2, 1) := by decide +kernel
theorem d4_5 : decode method_4_code 5 = .ok (.lload 4, 2) := by decide +kernel
theorem d4_7 : decode method_4_code 7 = .ok (.lmul, 1) := by decide +kernel
theorem d4_8 : decode method_4_code 8 = .ok (.ladd, 1) := by decide +kernel
theorem d4_9 : decode method_4_code 9 = .ok (.lreturn, 1) := by decide +kernel
theorem pn_rmIm : plainName "com/example/isochron/isochron/dsp/FourierSeparatePinLaw" = true := by first | (simp [plainName, overriddenIn]; done) | decide +kernel
theorem pd_rmIm : parseMethodDescriptor "(JJJJ)J" = some ⟨[.long, .long, .long, .long], (some .long)⟩ := by decide +kernel
theorem ef_rmIm (m : MethodId) (qa qb qc qd : Int64) (ia ib ic id : Int) : entryFrame m #[(.long qa), (.long qb), (.long qc), (.long qd)] 8 = (mkF m 0 #[sJ qa, uS, sJ qb, uS, sJ qc, uS, sJ qd, uS] []) := by first | (simp [entryFrame, mkF, argsToLocals, Value.category, maxLocals]; done) | rfl
def Q_rmIm (Z : State) (qa qb qc qd : Int64) (ia ib ic id : Int) (h0 : Heap) (n0 : Nat) (v : Option Value) (h : Heap) (L : List Loc) : Prop := ∃ r, v = some (.long r) ∧ r.toInt = ia * id + ib * ic ∧ Fr n0 L ∧ h = h0
set_option maxRecDepth 65536 in
set_option maxHeartbeats 40000000 in
theorem rmIm (l : Launch) (Z : State) (a0 : Array Value) (hw : ∀ d ∈ tables_1, d.before a0 Z = true) (ws : List Jvm.Cond) (qa qb qc qd : Int64) (ia ib ic id : Int) (h0 : Heap) (n0 : Nat) (Z0 : n0 ≤ h0.size) (Fa : qa.toInt = ia) (Ya : -2097152 ≤ ia ∧ ia ≤ 2097152) (Fb : qb.toInt = ib) (Yb : -2097152 ≤ ib ∧ ib ≤ 2097152) (Fc : qc.toInt = ic) (Yc : -2097152 ≤ ic ∧ ic ≤ 2097152) (Fd : qd.toInt = id) (Yd : -2097152 ≤ id ∧ id ≤ 2097152) :
    MetFree l (⟨"com/example/isochron/isochron/dsp/FourierSeparatePinLaw", "mulIm", "(JJJJ)J"⟩ : MethodName) (head1 (Jvm.Cond.code (⟨"com/example/isochron/isochron/dsp/FourierSeparatePinLaw", "mulIm", "(JJJJ)J"⟩ : MethodName) method_4_code 8 (some .long) :: ws) ({ frames := 0, cells := 0, slots := 0, locals := 0 } : Room)) (fun a U => a = #[(.long qa), (.long qb), (.long qc), (.long qd)] ∧ Z.Warmed39 U.vm ∧ U.heap = h0) (fun _ _ _ _ _ => True) (fun _ U oO U' => ∃ v L, oO = .returned v ∧ Q_rmIm Z qa qb qc qd ia ib ic id h0 n0 v U'.heap L ∧ FrameEnd U oO U' L ({ frames := 0, cells := 0, slots := 0, locals := 0 } : Room).cells ({ frames := 0, cells := 0, slots := 0, locals := 0 } : Room).slots) := by
  refine MetFree.of_bodySF (plainFor_of_name pn_rmIm) hisR ?_
  intro p e s m args below meth c s₁ Bd hml0 hP hK
  obtain ⟨rfl, hZ, hh⟩ := hP
  have hx := Bd.exec
  have hby := Bd.bytes
  have hml : c.maxLocals = 8 := hml0
  have hown : s.vm.findClass "com/example/isochron/isochron/dsp/FourierSeparatePinLaw" = some m.cls := findClass_of_methodNamed Bd.named
  have hnm := (name_of_methodNamed Bd.named Bd.method).1
  have hk := Bd.notSynchronized
  have hrt := Bd.returns
  have X0 : Stand p l e ({ frames := 0, cells := 0, slots := 0, locals := 0 } : Room) s m #[(.long qa), (.long qb), (.long qc), (.long qd)] below meth c s₁ [] 0 0 := Stand.of_body Bd
  have e0 : s₁.heap = h0 := by rw [← hh, Bd.state]; rfl
  have N0 := Fr.nil n0
  show OwnGo p.tables e below (OwnEnd s (Q_rmIm Z qa qb qc qd ia ib ic id h0 n0) ({ frames := 0, cells := 0, slots := 0, locals := 0 } : Room).cells ({ frames := 0, cells := 0, slots := 0, locals := 0 } : Room).slots) _
  refine OwnGo.pre (fun t k => castTop (ef_rmIm m qa qb qc qd ia ib ic id) k) ?_
  show OwnGo _ _ _ _ (s₁.setTop (mkF m 0 #[sJ qa, uS, sJ qb, uS, sJ qc, uS, sJ qd, uS] []))
  obtain ⟨v4, hv4⟩ : ∃ v, qa * qd = v := ⟨_, rfl⟩
  obtain ⟨j4, hj4⟩ : ∃ i : Int, i = ia * id := ⟨_, rfl⟩
  have B4 : -4398046511104 ≤ j4 ∧ j4 ≤ 4398046511104 := by rw [hj4]; exact own_bd_mul Ya Yd (by decide)
  have F4 : v4.toInt = j4 := own_lf_mul hv4 Fa Fd Ya Yd (by decide) hj4
  obtain ⟨v5, hv5⟩ : ∃ v, qb * qc = v := ⟨_, rfl⟩
  obtain ⟨j5, hj5⟩ : ∃ i : Int, i = ib * ic := ⟨_, rfl⟩
  have B5 : -4398046511104 ≤ j5 ∧ j5 ≤ 4398046511104 := by rw [hj5]; exact own_bd_mul Yb Yc (by decide)
  have F5 : v5.toInt = j5 := own_lf_mul hv5 Fb Fc Yb Yc (by decide) hj5
  obtain ⟨v6, hv6⟩ : ∃ v, v4 + v5 = v := ⟨_, rfl⟩
  obtain ⟨j6, hj6⟩ : ∃ i : Int, i = j4 + j5 := ⟨_, rfl⟩
  have B6 : -8796093022208 ≤ j6 ∧ j6 ≤ 8796093022208 := by rw [hj6]; exact own_bd_add B4 B5 (by decide)
  have F6 : v6.toInt = j6 := own_lf_add hv6 F4 F5 B4 B5 (by decide) hj6
  refine OwnGo.pre (fun t k => XT.lloadN X0.here hx rfl (hb hby d4_0) rfl (XT.lload X0.here hx rfl (hb hby d4_1) rfl (own_lmul X0.here hx rfl (hb hby d4_3) rfl hv4 (XT.lloadN X0.here hx rfl (hb hby d4_4) rfl (XT.lload X0.here hx rfl (hb hby d4_5) rfl (own_lmul X0.here hx rfl (hb hby d4_7) rfl hv5 (own_ladd X0.here hx rfl (hb hby d4_8) rfl hv6 k))))))) ?_
  show OwnGo _ _ _ _ (s₁.setTop (mkF m 9 #[sJ qa, uS, sJ qb, uS, sJ qc, uS, sJ qd, uS] [(.long v6)]))
  exact own_retJ X0 hx hk hrt (hb hby d4_9) ⟨_, rfl, by rw [F6]; simp only [hj6, hj4, hj5], N0, e0⟩ (by decide) (by decide)
theorem d2_0 : decode prog_161_method_20_code 0 = .ok (.aload_n 0, 1) := by decide +kernel
theorem d2_1 : decode prog_161_method_20_code 1 = .ok (.iload_n 1, 1) := by decide +kernel
theorem d2_2 : decode prog_161_method_20_code 2 = .ok (.daload, 1) := by decide +kernel
theorem d2_3 : decode prog_161_method_20_code 3 = .ok (.dstore 12, 2) := by decide +kernel
theorem d2_5 : decode prog_161_method_20_code 5 = .ok (.aload_n 2, 1) := by decide +kernel
theorem d2_6 : decode prog_161_method_20_code 6 = .ok (.iload_n 3, 1) := by decide +kernel
theorem d2_7 : decode prog_161_method_20_code 7 = .ok (.daload, 1) := by decide +kernel
theorem d2_8 : decode prog_161_method_20_code 8 = .ok (.dstore 14, 2) := by decide +kernel
theorem d2_10 : decode prog_161_method_20_code 10 = .ok (.aload 4, 2) := by decide +kernel
theorem d2_12 : decode prog_161_method_20_code 12 = .ok (.iload 5, 2) := by decide +kernel
theorem d2_14 : decode prog_161_method_20_code 14 = .ok (.daload, 1) := by decide +kernel
theorem d2_15 : decode prog_161_method_20_code 15 = .ok (.dstore 16, 2) := by decide +kernel
theorem d2_17 : decode prog_161_method_20_code 17 = .ok (.aload 6, 2) := by decide +kernel
theorem d2_19 : decode prog_161_method_20_code 19 = .ok (.iload 7, 2) := by decide +kernel
theorem d2_21 : decode prog_161_method_20_code 21 = .ok (.daload, 1) := by decide +kernel
theorem d2_22 : decode prog_161_method_20_code 22 = .ok (.dstore 18, 2) := by decide +kernel
theorem d2_24 : decode prog_161_method_20_code 24 = .ok (.dload 12, 2) := by decide +kernel
theorem d2_26 : decode prog_161_method_20_code 26 = .ok (.dload 16, 2) := by decide +kernel
theorem d2_28 : decode prog_161_method_20_code 28 = .ok (.dadd, 1) := by decide +kernel
theorem d2_29 : decode prog_161_method_20_code 29 = .ok (.ldc2_w 171, 3) := by decide +kernel
theorem d2_32 : decode prog_161_method_20_code 32 = .ok (.dmul, 1) := by decide +kernel
theorem d2_33 : decode prog_161_method_20_code 33 = .ok (.dstore 20, 2) := by decide +kernel
theorem d2_35 : decode prog_161_method_20_code 35 = .ok (.dload 14, 2) := by decide +kernel
theorem d2_37 : decode prog_161_method_20_code 37 = .ok (.dload 18, 2) := by decide +kernel
theorem d2_39 : decode prog_161_method_20_code 39 = .ok (.dsub, 1) := by decide +kernel
theorem d2_40 : decode prog_161_method_20_code 40 = .ok (.ldc2_w 171, 3) := by decide +kernel
theorem d2_43 : decode prog_161_method_20_code 43 = .ok (.dmul, 1) := by decide +kernel
theorem d2_44 : decode prog_161_method_20_code 44 = .ok (.dstore 22, 2) := by decide +kernel
theorem d2_46 : decode prog_161_method_20_code 46 = .ok (.dload 14, 2) := by decide +kernel
theorem d2_48 : decode prog_161_method_20_code 48 = .ok (.dload 18, 2) := by decide +kernel
theorem d2_50 : decode prog_161_method_20_code 50 = .ok (.dadd, 1) := by decide +kernel
theorem d2_51 : decode prog_161_method_20_code 51 = .ok (.ldc2_w 171, 3) := by decide +kernel
theorem d2_54 : decode prog_161_method_20_code 54 = .ok (.dmul, 1) := by decide +kernel
theorem d2_55 : decode prog_161_method_20_code 55 = .ok (.dstore 24, 2) := by decide +kernel
theorem d2_57 : decode prog_161_method_20_code 57 = .ok (.dload 16, 2) := by decide +kernel
theorem d2_59 : decode prog_161_method_20_code 59 = .ok (.dload 12, 2) := by decide +kernel
theorem d2_61 : decode prog_161_method_20_code 61 = .ok (.dsub, 1) := by decide +kernel
theorem d2_62 : decode prog_161_method_20_code 62 = .ok (.ldc2_w 171, 3) := by decide +kernel
theorem d2_65 : decode prog_161_method_20_code 65 = .ok (.dmul, 1) := by decide +kernel
theorem d2_66 : decode prog_161_method_20_code 66 = .ok (.dstore 26, 2) := by decide +kernel
theorem d2_68 : decode prog_161_method_20_code 68 = .ok (.dload 8, 2) := by decide +kernel
theorem d2_70 : decode prog_161_method_20_code 70 = .ok (.dload 24, 2) := by decide +kernel
theorem d2_72 : decode prog_161_method_20_code 72 = .ok (.dmul, 1) := by decide +kernel
theorem d2_73 : decode prog_161_method_20_code 73 = .ok (.dload 10, 2) := by decide +kernel
theorem d2_75 : decode prog_161_method_20_code 75 = .ok (.dload 26, 2) := by decide +kernel
theorem d2_77 : decode prog_161_method_20_code 77 = .ok (.dmul, 1) := by decide +kernel
theorem d2_78 : decode prog_161_method_20_code 78 = .ok (.dadd, 1) := by decide +kernel
theorem d2_79 : decode prog_161_method_20_code 79 = .ok (.dstore 28, 2) := by decide +kernel
theorem d2_81 : decode prog_161_method_20_code 81 = .ok (.dload 8, 2) := by decide +kernel
theorem d2_83 : decode prog_161_method_20_code 83 = .ok (.dload 26, 2) := by decide +kernel
theorem d2_85 : decode prog_161_method_20_code 85 = .ok (.dmul, 1) := by decide +kernel
theorem d2_86 : decode prog_161_method_20_code 86 = .ok (.dload 10, 2) := by decide +kernel
theorem d2_88 : decode prog_161_method_20_code 88 = .ok (.dload 24, 2) := by decide +kernel
theorem d2_90 : decode prog_161_method_20_code 90 = .ok (.dmul, 1) := by decide +kernel
theorem d2_91 : decode prog_161_method_20_code 91 = .ok (.dsub, 1) := by decide +kernel
theorem d2_92 : decode prog_161_method_20_code 92 = .ok (.dstore 30, 2) := by decide +kernel
theorem d2_94 : decode prog_161_method_20_code 94 = .ok (.aload_n 0, 1) := by decide +kernel
theorem d2_95 : decode prog_161_method_20_code 95 = .ok (.iload_n 1, 1) := by decide +kernel
theorem d2_96 : decode prog_161_method_20_code 96 = .ok (.dload 20, 2) := by decide +kernel
theorem d2_98 : decode prog_161_method_20_code 98 = .ok (.dload 28, 2) := by decide +kernel
theorem d2_100 : decode prog_161_method_20_code 100 = .ok (.dadd, 1) := by decide +kernel
theorem d2_101 : decode prog_161_method_20_code 101 = .ok (.dastore, 1) := by decide +kernel
theorem d2_102 : decode prog_161_method_20_code 102 = .ok (.aload_n 2, 1) := by decide +kernel
theorem d2_103 : decode prog_161_method_20_code 103 = .ok (.iload_n 3, 1) := by decide +kernel
theorem d2_104 : decode prog_161_method_20_code 104 = .ok (.dload 22, 2) := by decide +kernel
theorem d2_106 : decode prog_161_method_20_code 106 = .ok (.dload 30, 2) := by decide +kernel
theorem d2_108 : decode prog_161_method_20_code 108 = .ok (.dadd, 1) := by decide +kernel
theorem d2_109 : decode prog_161_method_20_code 109 = .ok (.dastore, 1) := by decide +kernel
theorem d2_110 : decode prog_161_method_20_code 110 = .ok (.aload 4, 2) := by decide +kernel
theorem d2_112 : decode prog_161_method_20_code 112 = .ok (.iload 5, 2) := by decide +kernel
theorem d2_114 : decode prog_161_method_20_code 114 = .ok (.dload 20, 2) := by decide +kernel
theorem d2_116 : decode prog_161_method_20_code 116 = .ok (.dload 28, 2) := by decide +kernel
theorem d2_118 : decode prog_161_method_20_code 118 = .ok (.dsub, 1) := by decide +kernel
theorem d2_119 : decode prog_161_method_20_code 119 = .ok (.dastore, 1) := by decide +kernel
theorem d2_120 : decode prog_161_method_20_code 120 = .ok (.aload 6, 2) := by decide +kernel
theorem d2_122 : decode prog_161_method_20_code 122 = .ok (.iload 7, 2) := by decide +kernel
theorem d2_124 : decode prog_161_method_20_code 124 = .ok (.dload 30, 2) := by decide +kernel
theorem d2_126 : decode prog_161_method_20_code 126 = .ok (.dload 22, 2) := by decide +kernel
theorem d2_128 : decode prog_161_method_20_code 128 = .ok (.dsub, 1) := by decide +kernel
theorem d2_129 : decode prog_161_method_20_code 129 = .ok (.dastore, 1) := by decide +kernel
theorem d2_130 : decode prog_161_method_20_code 130 = .ok (.return_, 1) := by decide +kernel
theorem pn_rmK0 : plainName "com/example/isochron/isochron/dsp/Fourier" = true := by first | (simp [plainName, overriddenIn]; done) | decide +kernel
theorem pd_rmK0 : parseMethodDescriptor "([DI[DI[DI[DIDD)V" = some ⟨[(.array .double), .int, (.array .double), .int, (.array .double), .int, (.array .double), .int, .double, .double], none⟩ := by decide +kernel
theorem ef_rmK0 (m : MethodId) (o0 o1 o2 o3 : Addr) (u0_0 u1_0 u2_0 u3_0 uc us : UInt64) (i0_0 i1_0 i2_0 i3_0 ic is : Int) : entryFrame m #[(.ref o0), (.int (0 : Int32)), (.ref o1), (.int (0 : Int32)), (.ref o2), (.int (0 : Int32)), (.ref o3), (.int (0 : Int32)), (.double uc), (.double us)] 32 = (mkF m 0 #[sR o0, sI (0 : Int32), sR o1, sI (0 : Int32), sR o2, sI (0 : Int32), sR o3, sI (0 : Int32), sD uc, uS, sD us, uS, uU, uU, uU, uU, uU, uU, uU, uU, uU, uU, uU, uU, uU, uU, uU, uU, uU, uU, uU, uU] []) := by first | (simp [entryFrame, mkF, argsToLocals, Value.category, maxLocals]; done) | rfl
def Q_rmK0 (Z : State) (o0 o1 o2 o3 : Addr) (u0_0 u1_0 u2_0 u3_0 uc us : UInt64) (i0_0 i1_0 i2_0 i3_0 ic is : Int) (h0 : Heap) (n0 : Nat) (v : Option Value) (h : Heap) (L : List Loc) : Prop := ∃ ro0_0 ro1_0 ro2_0 ro3_0 : UInt64, v = none ∧ OwnDS (-1) (((i0_0 + i2_0) * (1 : Int)) + ((ic * ((i1_0 + i3_0) * (1 : Int))) + (is * ((i2_0 - i0_0) * (1 : Int))))) ro0_0 ∧ (-4398048608256 ≤ (((i0_0 + i2_0) * (1 : Int)) + ((ic * ((i1_0 + i3_0) * (1 : Int))) + (is * ((i2_0 - i0_0) * (1 : Int))))) ∧ (((i0_0 + i2_0) * (1 : Int)) + ((ic * ((i1_0 + i3_0) * (1 : Int))) + (is * ((i2_0 - i0_0) * (1 : Int))))) ≤ 4398048608256) ∧ OwnDS (-1) (((i1_0 - i3_0) * (1 : Int)) + ((ic * ((i2_0 - i0_0) * (1 : Int))) - (is * ((i1_0 + i3_0) * (1 : Int))))) ro1_0 ∧ (-4398048608256 ≤ (((i1_0 - i3_0) * (1 : Int)) + ((ic * ((i2_0 - i0_0) * (1 : Int))) - (is * ((i1_0 + i3_0) * (1 : Int))))) ∧ (((i1_0 - i3_0) * (1 : Int)) + ((ic * ((i2_0 - i0_0) * (1 : Int))) - (is * ((i1_0 + i3_0) * (1 : Int))))) ≤ 4398048608256) ∧ OwnDS (-1) (((i0_0 + i2_0) * (1 : Int)) - ((ic * ((i1_0 + i3_0) * (1 : Int))) + (is * ((i2_0 - i0_0) * (1 : Int))))) ro2_0 ∧ (-4398048608256 ≤ (((i0_0 + i2_0) * (1 : Int)) - ((ic * ((i1_0 + i3_0) * (1 : Int))) + (is * ((i2_0 - i0_0) * (1 : Int))))) ∧ (((i0_0 + i2_0) * (1 : Int)) - ((ic * ((i1_0 + i3_0) * (1 : Int))) + (is * ((i2_0 - i0_0) * (1 : Int))))) ≤ 4398048608256) ∧ OwnDS (-1) (((ic * ((i2_0 - i0_0) * (1 : Int))) - (is * ((i1_0 + i3_0) * (1 : Int)))) - ((i1_0 - i3_0) * (1 : Int))) ro3_0 ∧ (-4398048608256 ≤ (((ic * ((i2_0 - i0_0) * (1 : Int))) - (is * ((i1_0 + i3_0) * (1 : Int)))) - ((i1_0 - i3_0) * (1 : Int))) ∧ (((ic * ((i2_0 - i0_0) * (1 : Int))) - (is * ((i1_0 + i3_0) * (1 : Int)))) - ((i1_0 - i3_0) * (1 : Int))) ≤ 4398048608256) ∧ OwnDA Z h o0 [ro0_0] ∧ OwnDA Z h o1 [ro1_0] ∧ OwnDA Z h o2 [ro2_0] ∧ OwnDA Z h o3 [ro3_0] ∧ Keep h0 h [o0, o1, o2, o3] ∧ Fr n0 L ∧ n0 ≤ h.size
set_option maxRecDepth 65536 in
set_option maxHeartbeats 40000000 in
theorem rmK0 (l : Launch) (Z : State) (a0 : Array Value) (hw : ∀ d ∈ tables_1, d.before a0 Z = true) (ws : List Jvm.Cond) (o0 o1 o2 o3 : Addr) (u0_0 u1_0 u2_0 u3_0 uc us : UInt64) (i0_0 i1_0 i2_0 i3_0 ic is : Int) (h0 : Heap) (n0 : Nat) (Z0 : n0 ≤ h0.size) (Ao0 : OwnDA Z h0 o0 [u0_0]) (Ao1 : OwnDA Z h0 o1 [u1_0]) (Ao2 : OwnDA Z h0 o2 [u2_0]) (Ao3 : OwnDA Z h0 o3 [u3_0]) (neo0o1 : o0 ≠ o1) (neo0o2 : o0 ≠ o2) (neo0o3 : o0 ≠ o3) (neo1o2 : o1 ≠ o2) (neo1o3 : o1 ≠ o3) (neo2o3 : o2 ≠ o3) (go0 : n0 ≤ o0) (go1 : n0 ≤ o1) (go2 : n0 ≤ o2) (go3 : n0 ≤ o3) (Du0_0 : OwnDS 0 i0_0 u0_0) (Bu0_0 : -1048576 ≤ i0_0 ∧ i0_0 ≤ 1048576) (Du1_0 : OwnDS 0 i1_0 u1_0) (Bu1_0 : -1048576 ≤ i1_0 ∧ i1_0 ≤ 1048576) (Du2_0 : OwnDS 0 i2_0 u2_0) (Bu2_0 : -1048576 ≤ i2_0 ∧ i2_0 ≤ 1048576) (Du3_0 : OwnDS 0 i3_0 u3_0) (Bu3_0 : -1048576 ≤ i3_0 ∧ i3_0 ≤ 1048576) (Duc : OwnDS 0 ic uc) (Buc : -1048576 ≤ ic ∧ ic ≤ 1048576) (Dus : OwnDS 0 is us) (Bus : -1048576 ≤ is ∧ is ≤ 1048576) :
    MetFree l (⟨"com/example/isochron/isochron/dsp/Fourier", "separate", "([DI[DI[DI[DIDD)V"⟩ : MethodName) (head1 (Jvm.Cond.code (⟨"com/example/isochron/isochron/dsp/Fourier", "separate", "([DI[DI[DI[DIDD)V"⟩ : MethodName) prog_161_method_20_code 32 none :: ws) ({ frames := 0, cells := 0, slots := 0, locals := 0 } : Room)) (fun a U => a = #[(.ref o0), (.int (0 : Int32)), (.ref o1), (.int (0 : Int32)), (.ref o2), (.int (0 : Int32)), (.ref o3), (.int (0 : Int32)), (.double uc), (.double us)] ∧ Z.Warmed39 U.vm ∧ U.heap = h0) (fun _ _ _ _ _ => True) (fun _ U oO U' => ∃ v L, oO = .returned v ∧ Q_rmK0 Z o0 o1 o2 o3 u0_0 u1_0 u2_0 u3_0 uc us i0_0 i1_0 i2_0 i3_0 ic is h0 n0 v U'.heap L ∧ FrameEnd U oO U' L ({ frames := 0, cells := 0, slots := 0, locals := 0 } : Room).cells ({ frames := 0, cells := 0, slots := 0, locals := 0 } : Room).slots) := by
  refine MetFree.of_bodySF (plainFor_of_name pn_rmK0) hisR ?_
  intro p e s m args below meth c s₁ Bd hml0 hP hK
  obtain ⟨rfl, hZ, hh⟩ := hP
  have hx := Bd.exec
  have hby := Bd.bytes
  have hml : c.maxLocals = 32 := hml0
  have hown : s.vm.findClass "com/example/isochron/isochron/dsp/Fourier" = some m.cls := findClass_of_methodNamed Bd.named
  have hnm := (name_of_methodNamed Bd.named Bd.method).1
  have hk := Bd.notSynchronized
  have hrt := Bd.returns
  have X0 : Stand p l e ({ frames := 0, cells := 0, slots := 0, locals := 0 } : Room) s m #[(.ref o0), (.int (0 : Int32)), (.ref o1), (.int (0 : Int32)), (.ref o2), (.int (0 : Int32)), (.ref o3), (.int (0 : Int32)), (.double uc), (.double us)] below meth c s₁ [] 0 0 := Stand.of_body Bd
  have e0 : s₁.heap = h0 := by rw [← hh, Bd.state]; rfl
  have N0 := Fr.nil n0
  show OwnGo p.tables e below (OwnEnd s (Q_rmK0 Z o0 o1 o2 o3 u0_0 u1_0 u2_0 u3_0 uc us i0_0 i1_0 i2_0 i3_0 ic is h0 n0) ({ frames := 0, cells := 0, slots := 0, locals := 0 } : Room).cells ({ frames := 0, cells := 0, slots := 0, locals := 0 } : Room).slots) _
  refine OwnGo.pre (fun t k => castTop (ef_rmK0 m o0 o1 o2 o3 u0_0 u1_0 u2_0 u3_0 uc us i0_0 i1_0 i2_0 i3_0 ic is) k) ?_
  show OwnGo _ _ _ _ (s₁.setTop (mkF m 0 #[sR o0, sI (0 : Int32), sR o1, sI (0 : Int32), sR o2, sI (0 : Int32), sR o3, sI (0 : Int32), sD uc, uS, sD us, uS, uU, uU, uU, uU, uU, uU, uU, uU, uU, uU, uU, uU, uU, uU, uU, uU, uU, uU, uU, uU] []))
  refine OwnGo.pre (fun t k => XS.aloadN X0.here hx rfl (hb hby d2_0) rfl rfl (XS.iloadN X0.here hx rfl (hb hby d2_1) rfl (own_daL X0 hx hZ e0 Ao0 (j := (0 : Int32)) (by decide) (i := 0) (by decide) (x := u0_0) rfl (g := (mkF m 2 #[sR o0, sI (0 : Int32), sR o1, sI (0 : Int32), sR o2, sI (0 : Int32), sR o3, sI (0 : Int32), sD uc, uS, sD us, uS, uU, uU, uU, uU, uU, uU, uU, uU, uU, uU, uU, uU, uU, uU, uU, uU, uU, uU, uU, uU] [(.int (0 : Int32)), (.ref o0)])) rfl (rest := []) rfl (hb hby d2_2) (XS.dstore X0.here hx rfl (hb hby d2_3) rfl (l' := #[sR o0, sI (0 : Int32), sR o1, sI (0 : Int32), sR o2, sI (0 : Int32), sR o3, sI (0 : Int32), sD uc, uS, sD us, uS, sD u0_0, uS, uU, uU, uU, uU, uU, uU, uU, uU, uU, uU, uU, uU, uU, uU, uU, uU, uU, uU]) rfl (XS.aloadN X0.here hx rfl (hb hby d2_5) rfl rfl (XS.iloadN X0.here hx rfl (hb hby d2_6) rfl (own_daL X0 hx hZ e0 Ao1 (j := (0 : Int32)) (by decide) (i := 0) (by decide) (x := u1_0) rfl (g := (mkF m 7 #[sR o0, sI (0 : Int32), sR o1, sI (0 : Int32), sR o2, sI (0 : Int32), sR o3, sI (0 : Int32), sD uc, uS, sD us, uS, sD u0_0, uS, uU, uU, uU, uU, uU, uU, uU, uU, uU, uU, uU, uU, uU, uU, uU, uU, uU, uU] [(.int (0 : Int32)), (.ref o1)])) rfl (rest := []) rfl (hb hby d2_7) (XS.dstore X0.here hx rfl (hb hby d2_8) rfl (l' := #[sR o0, sI (0 : Int32), sR o1, sI (0 : Int32), sR o2, sI (0 : Int32), sR o3, sI (0 : Int32), sD uc, uS, sD us, uS, sD u0_0, uS, sD u1_0, uS, uU, uU, uU, uU, uU, uU, uU, uU, uU, uU, uU, uU, uU, uU, uU, uU]) rfl k)))))))) ?_
  show OwnGo _ _ _ _ (s₁.setTop (mkF m 10 #[sR o0, sI (0 : Int32), sR o1, sI (0 : Int32), sR o2, sI (0 : Int32), sR o3, sI (0 : Int32), sD uc, uS, sD us, uS, sD u0_0, uS, sD u1_0, uS, uU, uU, uU, uU, uU, uU, uU, uU, uU, uU, uU, uU, uU, uU, uU, uU] []))
  refine OwnGo.pre (fun t k => XS.aload X0.here hx rfl (hb hby d2_10) rfl rfl (XS.iload X0.here hx rfl (hb hby d2_12) rfl (own_daL X0 hx hZ e0 Ao2 (j := (0 : Int32)) (by decide) (i := 0) (by decide) (x := u2_0) rfl (g := (mkF m 14 #[sR o0, sI (0 : Int32), sR o1, sI (0 : Int32), sR o2, sI (0 : Int32), sR o3, sI (0 : Int32), sD uc, uS, sD us, uS, sD u0_0, uS, sD u1_0, uS, uU, uU, uU, uU, uU, uU, uU, uU, uU, uU, uU, uU, uU, uU, uU, uU] [(.int (0 : Int32)), (.ref o2)])) rfl (rest := []) rfl (hb hby d2_14) (XS.dstore X0.here hx rfl (hb hby d2_15) rfl (l' := #[sR o0, sI (0 : Int32), sR o1, sI (0 : Int32), sR o2, sI (0 : Int32), sR o3, sI (0 : Int32), sD uc, uS, sD us, uS, sD u0_0, uS, sD u1_0, uS, sD u2_0, uS, uU, uU, uU, uU, uU, uU, uU, uU, uU, uU, uU, uU, uU, uU]) rfl (XS.aload X0.here hx rfl (hb hby d2_17) rfl rfl (XS.iload X0.here hx rfl (hb hby d2_19) rfl (own_daL X0 hx hZ e0 Ao3 (j := (0 : Int32)) (by decide) (i := 0) (by decide) (x := u3_0) rfl (g := (mkF m 21 #[sR o0, sI (0 : Int32), sR o1, sI (0 : Int32), sR o2, sI (0 : Int32), sR o3, sI (0 : Int32), sD uc, uS, sD us, uS, sD u0_0, uS, sD u1_0, uS, sD u2_0, uS, uU, uU, uU, uU, uU, uU, uU, uU, uU, uU, uU, uU, uU, uU] [(.int (0 : Int32)), (.ref o3)])) rfl (rest := []) rfl (hb hby d2_21) (XS.dstore X0.here hx rfl (hb hby d2_22) rfl (l' := #[sR o0, sI (0 : Int32), sR o1, sI (0 : Int32), sR o2, sI (0 : Int32), sR o3, sI (0 : Int32), sD uc, uS, sD us, uS, sD u0_0, uS, sD u1_0, uS, sD u2_0, uS, sD u3_0, uS, uU, uU, uU, uU, uU, uU, uU, uU, uU, uU, uU, uU]) rfl k)))))))) ?_
  show OwnGo _ _ _ _ (s₁.setTop (mkF m 24 #[sR o0, sI (0 : Int32), sR o1, sI (0 : Int32), sR o2, sI (0 : Int32), sR o3, sI (0 : Int32), sD uc, uS, sD us, uS, sD u0_0, uS, sD u1_0, uS, sD u2_0, uS, sD u3_0, uS, uU, uU, uU, uU, uU, uU, uU, uU, uU, uU, uU, uU] []))
  have Dq7 : OwnDS 0 (i0_0 + i2_0) (FP.dadd u0_0 u2_0) := own_ds_add (n := 53) Du0_0 Du2_0 (own_bd_nat (C := 2097152) (own_bd_add Bu0_0 Bu2_0 (by decide)) (by decide))
  obtain ⟨d7, hd7⟩ : ∃ v, FP.dadd u0_0 u2_0 = v := ⟨_, rfl⟩
  obtain ⟨j7, hj7⟩ : ∃ i : Int, i = i0_0 + i2_0 := ⟨_, rfl⟩
  have B7 : -2097152 ≤ j7 ∧ j7 ≤ 2097152 := by rw [hj7]; exact own_bd_add Bu0_0 Bu2_0 (by decide)
  have D7 : OwnDS 0 j7 d7 := by rw [hj7, ← hd7]; exact Dq7
  obtain ⟨j8, hj8⟩ : ∃ i : Int, i = j7 * (1 : Int) := ⟨_, rfl⟩
  have B8 : -2097152 ≤ j8 ∧ j8 ≤ 2097152 := by rw [hj8]; exact own_bd_mul B7 own_b1 (by decide)
  have Dq8 : OwnDS (-1) j8 (FP.dmul d7 (4602678819172646912 : UInt64)) := by rw [hj8]; have q := own_ds_mul (n := 53) D7 own_half (own_bd_nat (C := 2097152) (own_bd_mul B7 own_b1 (by decide)) (by decide)); exact q
  obtain ⟨d8, hd8⟩ : ∃ v, FP.dmul d7 (4602678819172646912 : UInt64) = v := ⟨_, rfl⟩
  have D8 : OwnDS (-1) j8 d8 := by rw [← hd8]; exact Dq8
  refine OwnGo.pre (fun t k => XS.dload X0.here hx rfl (hb hby d2_24) rfl (XS.dload X0.here hx rfl (hb hby d2_26) rfl (XS.daddS X0.here hx rfl (hb hby d2_28) rfl (own_nn Dq7) hd7 (own_ldcD X0 hx hown (mvT hZ (hw _ (List.mem_of_getElem? (i := 9) rfl))) rfl (hb hby d2_29) (XS.dmulS X0.here hx rfl (hb hby d2_32) rfl (own_nn Dq8) hd8 (XS.dstore X0.here hx rfl (hb hby d2_33) rfl (l' := #[sR o0, sI (0 : Int32), sR o1, sI (0 : Int32), sR o2, sI (0 : Int32), sR o3, sI (0 : Int32), sD uc, uS, sD us, uS, sD u0_0, uS, sD u1_0, uS, sD u2_0, uS, sD u3_0, uS, sD d8, uS, uU, uU, uU, uU, uU, uU, uU, uU, uU, uU]) rfl (XS.dload X0.here hx rfl (hb hby d2_35) rfl (XS.dload X0.here hx rfl (hb hby d2_37) rfl k)))))))) ?_
  show OwnGo _ _ _ _ (s₁.setTop (mkF m 39 #[sR o0, sI (0 : Int32), sR o1, sI (0 : Int32), sR o2, sI (0 : Int32), sR o3, sI (0 : Int32), sD uc, uS, sD us, uS, sD u0_0, uS, sD u1_0, uS, sD u2_0, uS, sD u3_0, uS, sD d8, uS, uU, uU, uU, uU, uU, uU, uU, uU, uU, uU] [(.double u3_0), (.double u1_0)]))
  have Dq9 : OwnDS 0 (i1_0 - i3_0) (FP.dsub u1_0 u3_0) := own_ds_sub (n := 53) Du1_0 Du3_0 (own_bd_nat (C := 2097152) (own_bd_sub Bu1_0 Bu3_0 (by decide)) (by decide))
  obtain ⟨d9, hd9⟩ : ∃ v, FP.dsub u1_0 u3_0 = v := ⟨_, rfl⟩
  obtain ⟨j9, hj9⟩ : ∃ i : Int, i = i1_0 - i3_0 := ⟨_, rfl⟩
  have B9 : -2097152 ≤ j9 ∧ j9 ≤ 2097152 := by rw [hj9]; exact own_bd_sub Bu1_0 Bu3_0 (by decide)
  have D9 : OwnDS 0 j9 d9 := by rw [hj9, ← hd9]; exact Dq9
  obtain ⟨j10, hj10⟩ : ∃ i : Int, i = j9 * (1 : Int) := ⟨_, rfl⟩
  have B10 : -2097152 ≤ j10 ∧ j10 ≤ 2097152 := by rw [hj10]; exact own_bd_mul B9 own_b1 (by decide)
  have Dq10 : OwnDS (-1) j10 (FP.dmul d9 (4602678819172646912 : UInt64)) := by rw [hj10]; have q := own_ds_mul (n := 53) D9 own_half (own_bd_nat (C := 2097152) (own_bd_mul B9 own_b1 (by decide)) (by decide)); exact q
  obtain ⟨d10, hd10⟩ : ∃ v, FP.dmul d9 (4602678819172646912 : UInt64) = v := ⟨_, rfl⟩
  have D10 : OwnDS (-1) j10 d10 := by rw [← hd10]; exact Dq10
  have Dq11 : OwnDS 0 (i1_0 + i3_0) (FP.dadd u1_0 u3_0) := own_ds_add (n := 53) Du1_0 Du3_0 (own_bd_nat (C := 2097152) (own_bd_add Bu1_0 Bu3_0 (by decide)) (by decide))
  obtain ⟨d11, hd11⟩ : ∃ v, FP.dadd u1_0 u3_0 = v := ⟨_, rfl⟩
  obtain ⟨j11, hj11⟩ : ∃ i : Int, i = i1_0 + i3_0 := ⟨_, rfl⟩
  have B11 : -2097152 ≤ j11 ∧ j11 ≤ 2097152 := by rw [hj11]; exact own_bd_add Bu1_0 Bu3_0 (by decide)
  have D11 : OwnDS 0 j11 d11 := by rw [hj11, ← hd11]; exact Dq11
  refine OwnGo.pre (fun t k => XS.dsubS X0.here hx rfl (hb hby d2_39) rfl (own_nn Dq9) hd9 (own_ldcD X0 hx hown (mvT hZ (hw _ (List.mem_of_getElem? (i := 9) rfl))) rfl (hb hby d2_40) (XS.dmulS X0.here hx rfl (hb hby d2_43) rfl (own_nn Dq10) hd10 (XS.dstore X0.here hx rfl (hb hby d2_44) rfl (l' := #[sR o0, sI (0 : Int32), sR o1, sI (0 : Int32), sR o2, sI (0 : Int32), sR o3, sI (0 : Int32), sD uc, uS, sD us, uS, sD u0_0, uS, sD u1_0, uS, sD u2_0, uS, sD u3_0, uS, sD d8, uS, sD d10, uS, uU, uU, uU, uU, uU, uU, uU, uU]) rfl (XS.dload X0.here hx rfl (hb hby d2_46) rfl (XS.dload X0.here hx rfl (hb hby d2_48) rfl (XS.daddS X0.here hx rfl (hb hby d2_50) rfl (own_nn Dq11) hd11 (own_ldcD X0 hx hown (mvT hZ (hw _ (List.mem_of_getElem? (i := 9) rfl))) rfl (hb hby d2_51) k)))))))) ?_
  show OwnGo _ _ _ _ (s₁.setTop (mkF m 54 #[sR o0, sI (0 : Int32), sR o1, sI (0 : Int32), sR o2, sI (0 : Int32), sR o3, sI (0 : Int32), sD uc, uS, sD us, uS, sD u0_0, uS, sD u1_0, uS, sD u2_0, uS, sD u3_0, uS, sD d8, uS, sD d10, uS, uU, uU, uU, uU, uU, uU, uU, uU] [(.double (4602678819172646912 : UInt64)), (.double d11)]))
  obtain ⟨j12, hj12⟩ : ∃ i : Int, i = j11 * (1 : Int) := ⟨_, rfl⟩
  have B12 : -2097152 ≤ j12 ∧ j12 ≤ 2097152 := by rw [hj12]; exact own_bd_mul B11 own_b1 (by decide)
  have Dq12 : OwnDS (-1) j12 (FP.dmul d11 (4602678819172646912 : UInt64)) := by rw [hj12]; have q := own_ds_mul (n := 53) D11 own_half (own_bd_nat (C := 2097152) (own_bd_mul B11 own_b1 (by decide)) (by decide)); exact q
  obtain ⟨d12, hd12⟩ : ∃ v, FP.dmul d11 (4602678819172646912 : UInt64) = v := ⟨_, rfl⟩
  have D12 : OwnDS (-1) j12 d12 := by rw [← hd12]; exact Dq12
  have Dq13 : OwnDS 0 (i2_0 - i0_0) (FP.dsub u2_0 u0_0) := own_ds_sub (n := 53) Du2_0 Du0_0 (own_bd_nat (C := 2097152) (own_bd_sub Bu2_0 Bu0_0 (by decide)) (by decide))
  obtain ⟨d13, hd13⟩ : ∃ v, FP.dsub u2_0 u0_0 = v := ⟨_, rfl⟩
  obtain ⟨j13, hj13⟩ : ∃ i : Int, i = i2_0 - i0_0 := ⟨_, rfl⟩
  have B13 : -2097152 ≤ j13 ∧ j13 ≤ 2097152 := by rw [hj13]; exact own_bd_sub Bu2_0 Bu0_0 (by decide)
  have D13 : OwnDS 0 j13 d13 := by rw [hj13, ← hd13]; exact Dq13
  obtain ⟨j14, hj14⟩ : ∃ i : Int, i = j13 * (1 : Int) := ⟨_, rfl⟩
  have B14 : -2097152 ≤ j14 ∧ j14 ≤ 2097152 := by rw [hj14]; exact own_bd_mul B13 own_b1 (by decide)
  have Dq14 : OwnDS (-1) j14 (FP.dmul d13 (4602678819172646912 : UInt64)) := by rw [hj14]; have q := own_ds_mul (n := 53) D13 own_half (own_bd_nat (C := 2097152) (own_bd_mul B13 own_b1 (by decide)) (by decide)); exact q
  obtain ⟨d14, hd14⟩ : ∃ v, FP.dmul d13 (4602678819172646912 : UInt64) = v := ⟨_, rfl⟩
  have D14 : OwnDS (-1) j14 d14 := by rw [← hd14]; exact Dq14
  refine OwnGo.pre (fun t k => XS.dmulS X0.here hx rfl (hb hby d2_54) rfl (own_nn Dq12) hd12 (XS.dstore X0.here hx rfl (hb hby d2_55) rfl (l' := #[sR o0, sI (0 : Int32), sR o1, sI (0 : Int32), sR o2, sI (0 : Int32), sR o3, sI (0 : Int32), sD uc, uS, sD us, uS, sD u0_0, uS, sD u1_0, uS, sD u2_0, uS, sD u3_0, uS, sD d8, uS, sD d10, uS, sD d12, uS, uU, uU, uU, uU, uU, uU]) rfl (XS.dload X0.here hx rfl (hb hby d2_57) rfl (XS.dload X0.here hx rfl (hb hby d2_59) rfl (XS.dsubS X0.here hx rfl (hb hby d2_61) rfl (own_nn Dq13) hd13 (own_ldcD X0 hx hown (mvT hZ (hw _ (List.mem_of_getElem? (i := 9) rfl))) rfl (hb hby d2_62) (XS.dmulS X0.here hx rfl (hb hby d2_65) rfl (own_nn Dq14) hd14 (XS.dstore X0.here hx rfl (hb hby d2_66) rfl (l' := #[sR o0, sI (0 : Int32), sR o1, sI (0 : Int32), sR o2, sI (0 : Int32), sR o3, sI (0 : Int32), sD uc, uS, sD us, uS, sD u0_0, uS, sD u1_0, uS, sD u2_0, uS, sD u3_0, uS, sD d8, uS, sD d10, uS, sD d12, uS, sD d14, uS, uU, uU, uU, uU]) rfl k)))))))) ?_
  show OwnGo _ _ _ _ (s₁.setTop (mkF m 68 #[sR o0, sI (0 : Int32), sR o1, sI (0 : Int32), sR o2, sI (0 : Int32), sR o3, sI (0 : Int32), sD uc, uS, sD us, uS, sD u0_0, uS, sD u1_0, uS, sD u2_0, uS, sD u3_0, uS, sD d8, uS, sD d10, uS, sD d12, uS, sD d14, uS, uU, uU, uU, uU] []))
  obtain ⟨j15, hj15⟩ : ∃ i : Int, i = ic * j12 := ⟨_, rfl⟩
  have B15 : -2199023255552 ≤ j15 ∧ j15 ≤ 2199023255552 := by rw [hj15]; exact own_bd_mul Buc B12 (by decide)
  have Dq15 : OwnDS (-1) j15 (FP.dmul uc d12) := by rw [hj15]; have q := own_ds_mul (n := 53) Duc D12 (own_bd_nat (C := 2199023255552) (own_bd_mul Buc B12 (by decide)) (by decide)); exact q
  obtain ⟨d15, hd15⟩ : ∃ v, FP.dmul uc d12 = v := ⟨_, rfl⟩
  have D15 : OwnDS (-1) j15 d15 := by rw [← hd15]; exact Dq15
  obtain ⟨j16, hj16⟩ : ∃ i : Int, i = is * j14 := ⟨_, rfl⟩
  have B16 : -2199023255552 ≤ j16 ∧ j16 ≤ 2199023255552 := by rw [hj16]; exact own_bd_mul Bus B14 (by decide)
  have Dq16 : OwnDS (-1) j16 (FP.dmul us d14) := by rw [hj16]; have q := own_ds_mul (n := 53) Dus D14 (own_bd_nat (C := 2199023255552) (own_bd_mul Bus B14 (by decide)) (by decide)); exact q
  obtain ⟨d16, hd16⟩ : ∃ v, FP.dmul us d14 = v := ⟨_, rfl⟩
  have D16 : OwnDS (-1) j16 d16 := by rw [← hd16]; exact Dq16
  have Dq17 : OwnDS (-1) (j15 + j16) (FP.dadd d15 d16) := own_ds_add (n := 53) D15 D16 (own_bd_nat (C := 4398046511104) (own_bd_add B15 B16 (by decide)) (by decide))
  obtain ⟨d17, hd17⟩ : ∃ v, FP.dadd d15 d16 = v := ⟨_, rfl⟩
  obtain ⟨j17, hj17⟩ : ∃ i : Int, i = j15 + j16 := ⟨_, rfl⟩
  have B17 : -4398046511104 ≤ j17 ∧ j17 ≤ 4398046511104 := by rw [hj17]; exact own_bd_add B15 B16 (by decide)
  have D17 : OwnDS (-1) j17 d17 := by rw [hj17, ← hd17]; exact Dq17
  refine OwnGo.pre (fun t k => XS.dload X0.here hx rfl (hb hby d2_68) rfl (XS.dload X0.here hx rfl (hb hby d2_70) rfl (XS.dmulS X0.here hx rfl (hb hby d2_72) rfl (own_nn Dq15) hd15 (XS.dload X0.here hx rfl (hb hby d2_73) rfl (XS.dload X0.here hx rfl (hb hby d2_75) rfl (XS.dmulS X0.here hx rfl (hb hby d2_77) rfl (own_nn Dq16) hd16 (XS.daddS X0.here hx rfl (hb hby d2_78) rfl (own_nn Dq17) hd17 (XS.dstore X0.here hx rfl (hb hby d2_79) rfl (l' := #[sR o0, sI (0 : Int32), sR o1, sI (0 : Int32), sR o2, sI (0 : Int32), sR o3, sI (0 : Int32), sD uc, uS, sD us, uS, sD u0_0, uS, sD u1_0, uS, sD u2_0, uS, sD u3_0, uS, sD d8, uS, sD d10, uS, sD d12, uS, sD d14, uS, sD d17, uS, uU, uU]) rfl k)))))))) ?_
  show OwnGo _ _ _ _ (s₁.setTop (mkF m 81 #[sR o0, sI (0 : Int32), sR o1, sI (0 : Int32), sR o2, sI (0 : Int32), sR o3, sI (0 : Int32), sD uc, uS, sD us, uS, sD u0_0, uS, sD u1_0, uS, sD u2_0, uS, sD u3_0, uS, sD d8, uS, sD d10, uS, sD d12, uS, sD d14, uS, sD d17, uS, uU, uU] []))
  obtain ⟨j18, hj18⟩ : ∃ i : Int, i = ic * j14 := ⟨_, rfl⟩
  have B18 : -2199023255552 ≤ j18 ∧ j18 ≤ 2199023255552 := by rw [hj18]; exact own_bd_mul Buc B14 (by decide)
  have Dq18 : OwnDS (-1) j18 (FP.dmul uc d14) := by rw [hj18]; have q := own_ds_mul (n := 53) Duc D14 (own_bd_nat (C := 2199023255552) (own_bd_mul Buc B14 (by decide)) (by decide)); exact q
  obtain ⟨d18, hd18⟩ : ∃ v, FP.dmul uc d14 = v := ⟨_, rfl⟩
  have D18 : OwnDS (-1) j18 d18 := by rw [← hd18]; exact Dq18
  obtain ⟨j19, hj19⟩ : ∃ i : Int, i = is * j12 := ⟨_, rfl⟩
  have B19 : -2199023255552 ≤ j19 ∧ j19 ≤ 2199023255552 := by rw [hj19]; exact own_bd_mul Bus B12 (by decide)
  have Dq19 : OwnDS (-1) j19 (FP.dmul us d12) := by rw [hj19]; have q := own_ds_mul (n := 53) Dus D12 (own_bd_nat (C := 2199023255552) (own_bd_mul Bus B12 (by decide)) (by decide)); exact q
  obtain ⟨d19, hd19⟩ : ∃ v, FP.dmul us d12 = v := ⟨_, rfl⟩
  have D19 : OwnDS (-1) j19 d19 := by rw [← hd19]; exact Dq19
  have Dq20 : OwnDS (-1) (j18 - j19) (FP.dsub d18 d19) := own_ds_sub (n := 53) D18 D19 (own_bd_nat (C := 4398046511104) (own_bd_sub B18 B19 (by decide)) (by decide))
  obtain ⟨d20, hd20⟩ : ∃ v, FP.dsub d18 d19 = v := ⟨_, rfl⟩
  obtain ⟨j20, hj20⟩ : ∃ i : Int, i = j18 - j19 := ⟨_, rfl⟩
  have B20 : -4398046511104 ≤ j20 ∧ j20 ≤ 4398046511104 := by rw [hj20]; exact own_bd_sub B18 B19 (by decide)
  have D20 : OwnDS (-1) j20 d20 := by rw [hj20, ← hd20]; exact Dq20
  refine OwnGo.pre (fun t k => XS.dload X0.here hx rfl (hb hby d2_81) rfl (XS.dload X0.here hx rfl (hb hby d2_83) rfl (XS.dmulS X0.here hx rfl (hb hby d2_85) rfl (own_nn Dq18) hd18 (XS.dload X0.here hx rfl (hb hby d2_86) rfl (XS.dload X0.here hx rfl (hb hby d2_88) rfl (XS.dmulS X0.here hx rfl (hb hby d2_90) rfl (own_nn Dq19) hd19 (XS.dsubS X0.here hx rfl (hb hby d2_91) rfl (own_nn Dq20) hd20 (XS.dstore X0.here hx rfl (hb hby d2_92) rfl (l' := #[sR o0, sI (0 : Int32), sR o1, sI (0 : Int32), sR o2, sI (0 : Int32), sR o3, sI (0 : Int32), sD uc, uS, sD us, uS, sD u0_0, uS, sD u1_0, uS, sD u2_0, uS, sD u3_0, uS, sD d8, uS, sD d10, uS, sD d12, uS, sD d14, uS, sD d17, uS, sD d20, uS]) rfl k)))))))) ?_
  show OwnGo _ _ _ _ (s₁.setTop (mkF m 94 #[sR o0, sI (0 : Int32), sR o1, sI (0 : Int32), sR o2, sI (0 : Int32), sR o3, sI (0 : Int32), sD uc, uS, sD us, uS, sD u0_0, uS, sD u1_0, uS, sD u2_0, uS, sD u3_0, uS, sD d8, uS, sD d10, uS, sD d12, uS, sD d14, uS, sD d17, uS, sD d20, uS] []))
  have Dq21 : OwnDS (-1) (j8 + j17) (FP.dadd d8 d17) := own_ds_add (n := 53) D8 D17 (own_bd_nat (C := 4398048608256) (own_bd_add B8 B17 (by decide)) (by decide))
  obtain ⟨d21, hd21⟩ : ∃ v, FP.dadd d8 d17 = v := ⟨_, rfl⟩
  obtain ⟨j21, hj21⟩ : ∃ i : Int, i = j8 + j17 := ⟨_, rfl⟩
  have B21 : -4398048608256 ≤ j21 ∧ j21 ≤ 4398048608256 := by rw [hj21]; exact own_bd_add B8 B17 (by decide)
  have D21 : OwnDS (-1) j21 d21 := by rw [hj21, ← hd21]; exact Dq21
  refine OwnGo.pre (fun t k => XS.aloadN X0.here hx rfl (hb hby d2_94) rfl rfl (XS.iloadN X0.here hx rfl (hb hby d2_95) rfl (XS.dload X0.here hx rfl (hb hby d2_96) rfl (XS.dload X0.here hx rfl (hb hby d2_98) rfl (XS.daddS X0.here hx rfl (hb hby d2_100) rfl (own_nn Dq21) hd21 k))))) ?_
  show OwnGo _ _ _ _ (s₁.setTop (mkF m 101 #[sR o0, sI (0 : Int32), sR o1, sI (0 : Int32), sR o2, sI (0 : Int32), sR o3, sI (0 : Int32), sD uc, uS, sD us, uS, sD u0_0, uS, sD u1_0, uS, sD u2_0, uS, sD u3_0, uS, sD d8, uS, sD d10, uS, sD d12, uS, sD d14, uS, sD d17, uS, sD d20, uS] [(.double d21), (.int (0 : Int32)), (.ref o0)]))
  obtain ⟨T22, h22, X22, e22, W22, A22, st22⟩ := own_daS X0 hx hZ e0 Ao0 (by decide) (i := 0) (by decide) (by show 0 < 1; decide) (g := (mkF m 101 #[sR o0, sI (0 : Int32), sR o1, sI (0 : Int32), sR o2, sI (0 : Int32), sR o3, sI (0 : Int32), sD uc, uS, sD us, uS, sD u0_0, uS, sD u1_0, uS, sD u2_0, uS, sD u3_0, uS, sD d8, uS, sD d10, uS, sD d12, uS, sD d14, uS, sD d17, uS, sD d20, uS] [(.double d21), (.int (0 : Int32)), (.ref o0)])) rfl rfl (hb hby d2_101)
  have A22n : OwnDA Z h22 o0 [d21] := A22
  have A22_o1 := Ao1.ot W22 neo0o1.symm
  have A22_o2 := Ao2.ot W22 neo0o2.symm
  have A22_o3 := Ao3.ot W22 neo0o3.symm
  have N22 := Fr.snoc X22 N0 go0
  have P22 := (Keep.refl h0 [o0, o1, o2, o3]).wr W22 (Or.inl (List.mem_of_getElem? (i := 0) rfl))
  have Z22 : n0 ≤ h22.size := by rw [W22.size]; exact Z0
  refine OwnGo.pre (fun t k => st22 t k) ?_
  show OwnGo _ _ _ _ (T22.setTop (mkF m 102 #[sR o0, sI (0 : Int32), sR o1, sI (0 : Int32), sR o2, sI (0 : Int32), sR o3, sI (0 : Int32), sD uc, uS, sD us, uS, sD u0_0, uS, sD u1_0, uS, sD u2_0, uS, sD u3_0, uS, sD d8, uS, sD d10, uS, sD d12, uS, sD d14, uS, sD d17, uS, sD d20, uS] []))
  have Dq23 : OwnDS (-1) (j10 + j20) (FP.dadd d10 d20) := own_ds_add (n := 53) D10 D20 (own_bd_nat (C := 4398048608256) (own_bd_add B10 B20 (by decide)) (by decide))
  obtain ⟨d23, hd23⟩ : ∃ v, FP.dadd d10 d20 = v := ⟨_, rfl⟩
  obtain ⟨j23, hj23⟩ : ∃ i : Int, i = j10 + j20 := ⟨_, rfl⟩
  have B23 : -4398048608256 ≤ j23 ∧ j23 ≤ 4398048608256 := by rw [hj23]; exact own_bd_add B10 B20 (by decide)
  have D23 : OwnDS (-1) j23 d23 := by rw [hj23, ← hd23]; exact Dq23
  refine OwnGo.pre (fun t k => XS.aloadN X22.here hx rfl (hb hby d2_102) rfl rfl (XS.iloadN X22.here hx rfl (hb hby d2_103) rfl (XS.dload X22.here hx rfl (hb hby d2_104) rfl (XS.dload X22.here hx rfl (hb hby d2_106) rfl (XS.daddS X22.here hx rfl (hb hby d2_108) rfl (own_nn Dq23) hd23 k))))) ?_
  show OwnGo _ _ _ _ (T22.setTop (mkF m 109 #[sR o0, sI (0 : Int32), sR o1, sI (0 : Int32), sR o2, sI (0 : Int32), sR o3, sI (0 : Int32), sD uc, uS, sD us, uS, sD u0_0, uS, sD u1_0, uS, sD u2_0, uS, sD u3_0, uS, sD d8, uS, sD d10, uS, sD d12, uS, sD d14, uS, sD d17, uS, sD d20, uS] [(.double d23), (.int (0 : Int32)), (.ref o1)]))
  obtain ⟨T24, h24, X24, e24, W24, A24, st24⟩ := own_daS X22 hx hZ e22 A22_o1 (by decide) (i := 0) (by decide) (by show 0 < 1; decide) (g := (mkF m 109 #[sR o0, sI (0 : Int32), sR o1, sI (0 : Int32), sR o2, sI (0 : Int32), sR o3, sI (0 : Int32), sD uc, uS, sD us, uS, sD u0_0, uS, sD u1_0, uS, sD u2_0, uS, sD u3_0, uS, sD d8, uS, sD d10, uS, sD d12, uS, sD d14, uS, sD d17, uS, sD d20, uS] [(.double d23), (.int (0 : Int32)), (.ref o1)])) rfl rfl (hb hby d2_109)
  have A24n : OwnDA Z h24 o1 [d23] := A24
  have A24_o0 := A22n.ot W24 neo0o1
  have A24_o2 := A22_o2.ot W24 neo1o2.symm
  have A24_o3 := A22_o3.ot W24 neo1o3.symm
  have N24 := Fr.snoc X24 N22 go1
  have P24 := P22.wr W24 (Or.inl (List.mem_of_getElem? (i := 1) rfl))
  have Z24 : n0 ≤ h24.size := by rw [W24.size]; exact Z22
  refine OwnGo.pre (fun t k => st24 t k) ?_
  show OwnGo _ _ _ _ (T24.setTop (mkF m 110 #[sR o0, sI (0 : Int32), sR o1, sI (0 : Int32), sR o2, sI (0 : Int32), sR o3, sI (0 : Int32), sD uc, uS, sD us, uS, sD u0_0, uS, sD u1_0, uS, sD u2_0, uS, sD u3_0, uS, sD d8, uS, sD d10, uS, sD d12, uS, sD d14, uS, sD d17, uS, sD d20, uS] []))
  have Dq25 : OwnDS (-1) (j8 - j17) (FP.dsub d8 d17) := own_ds_sub (n := 53) D8 D17 (own_bd_nat (C := 4398048608256) (own_bd_sub B8 B17 (by decide)) (by decide))
  obtain ⟨d25, hd25⟩ : ∃ v, FP.dsub d8 d17 = v := ⟨_, rfl⟩
  obtain ⟨j25, hj25⟩ : ∃ i : Int, i = j8 - j17 := ⟨_, rfl⟩
  have B25 : -4398048608256 ≤ j25 ∧ j25 ≤ 4398048608256 := by rw [hj25]; exact own_bd_sub B8 B17 (by decide)
  have D25 : OwnDS (-1) j25 d25 := by rw [hj25, ← hd25]; exact Dq25
  refine OwnGo.pre (fun t k => XS.aload X24.here hx rfl (hb hby d2_110) rfl rfl (XS.iload X24.here hx rfl (hb hby d2_112) rfl (XS.dload X24.here hx rfl (hb hby d2_114) rfl (XS.dload X24.here hx rfl (hb hby d2_116) rfl (XS.dsubS X24.here hx rfl (hb hby d2_118) rfl (own_nn Dq25) hd25 k))))) ?_
  show OwnGo _ _ _ _ (T24.setTop (mkF m 119 #[sR o0, sI (0 : Int32), sR o1, sI (0 : Int32), sR o2, sI (0 : Int32), sR o3, sI (0 : Int32), sD uc, uS, sD us, uS, sD u0_0, uS, sD u1_0, uS, sD u2_0, uS, sD u3_0, uS, sD d8, uS, sD d10, uS, sD d12, uS, sD d14, uS, sD d17, uS, sD d20, uS] [(.double d25), (.int (0 : Int32)), (.ref o2)]))
  obtain ⟨T26, h26, X26, e26, W26, A26, st26⟩ := own_daS X24 hx hZ e24 A24_o2 (by decide) (i := 0) (by decide) (by show 0 < 1; decide) (g := (mkF m 119 #[sR o0, sI (0 : Int32), sR o1, sI (0 : Int32), sR o2, sI (0 : Int32), sR o3, sI (0 : Int32), sD uc, uS, sD us, uS, sD u0_0, uS, sD u1_0, uS, sD u2_0, uS, sD u3_0, uS, sD d8, uS, sD d10, uS, sD d12, uS, sD d14, uS, sD d17, uS, sD d20, uS] [(.double d25), (.int (0 : Int32)), (.ref o2)])) rfl rfl (hb hby d2_119)
  have A26n : OwnDA Z h26 o2 [d25] := A26
  have A26_o0 := A24_o0.ot W26 neo0o2
  have A26_o1 := A24n.ot W26 neo1o2
  have A26_o3 := A24_o3.ot W26 neo2o3.symm
  have N26 := Fr.snoc X26 N24 go2
  have P26 := P24.wr W26 (Or.inl (List.mem_of_getElem? (i := 2) rfl))
  have Z26 : n0 ≤ h26.size := by rw [W26.size]; exact Z24
  refine OwnGo.pre (fun t k => st26 t k) ?_
  show OwnGo _ _ _ _ (T26.setTop (mkF m 120 #[sR o0, sI (0 : Int32), sR o1, sI (0 : Int32), sR o2, sI (0 : Int32), sR o3, sI (0 : Int32), sD uc, uS, sD us, uS, sD u0_0, uS, sD u1_0, uS, sD u2_0, uS, sD u3_0, uS, sD d8, uS, sD d10, uS, sD d12, uS, sD d14, uS, sD d17, uS, sD d20, uS] []))
  have Dq27 : OwnDS (-1) (j20 - j10) (FP.dsub d20 d10) := own_ds_sub (n := 53) D20 D10 (own_bd_nat (C := 4398048608256) (own_bd_sub B20 B10 (by decide)) (by decide))
  obtain ⟨d27, hd27⟩ : ∃ v, FP.dsub d20 d10 = v := ⟨_, rfl⟩
  obtain ⟨j27, hj27⟩ : ∃ i : Int, i = j20 - j10 := ⟨_, rfl⟩
  have B27 : -4398048608256 ≤ j27 ∧ j27 ≤ 4398048608256 := by rw [hj27]; exact own_bd_sub B20 B10 (by decide)
  have D27 : OwnDS (-1) j27 d27 := by rw [hj27, ← hd27]; exact Dq27
  refine OwnGo.pre (fun t k => XS.aload X26.here hx rfl (hb hby d2_120) rfl rfl (XS.iload X26.here hx rfl (hb hby d2_122) rfl (XS.dload X26.here hx rfl (hb hby d2_124) rfl (XS.dload X26.here hx rfl (hb hby d2_126) rfl (XS.dsubS X26.here hx rfl (hb hby d2_128) rfl (own_nn Dq27) hd27 k))))) ?_
  show OwnGo _ _ _ _ (T26.setTop (mkF m 129 #[sR o0, sI (0 : Int32), sR o1, sI (0 : Int32), sR o2, sI (0 : Int32), sR o3, sI (0 : Int32), sD uc, uS, sD us, uS, sD u0_0, uS, sD u1_0, uS, sD u2_0, uS, sD u3_0, uS, sD d8, uS, sD d10, uS, sD d12, uS, sD d14, uS, sD d17, uS, sD d20, uS] [(.double d27), (.int (0 : Int32)), (.ref o3)]))
  obtain ⟨T28, h28, X28, e28, W28, A28, st28⟩ := own_daS X26 hx hZ e26 A26_o3 (by decide) (i := 0) (by decide) (by show 0 < 1; decide) (g := (mkF m 129 #[sR o0, sI (0 : Int32), sR o1, sI (0 : Int32), sR o2, sI (0 : Int32), sR o3, sI (0 : Int32), sD uc, uS, sD us, uS, sD u0_0, uS, sD u1_0, uS, sD u2_0, uS, sD u3_0, uS, sD d8, uS, sD d10, uS, sD d12, uS, sD d14, uS, sD d17, uS, sD d20, uS] [(.double d27), (.int (0 : Int32)), (.ref o3)])) rfl rfl (hb hby d2_129)
  have A28n : OwnDA Z h28 o3 [d27] := A28
  have A28_o0 := A26_o0.ot W28 neo0o3
  have A28_o1 := A26_o1.ot W28 neo1o3
  have A28_o2 := A26n.ot W28 neo2o3
  have N28 := Fr.snoc X28 N26 go3
  have P28 := P26.wr W28 (Or.inl (List.mem_of_getElem? (i := 3) rfl))
  have Z28 : n0 ≤ h28.size := by rw [W28.size]; exact Z26
  refine OwnGo.pre (fun t k => st28 t k) ?_
  show OwnGo _ _ _ _ (T28.setTop (mkF m 130 #[sR o0, sI (0 : Int32), sR o1, sI (0 : Int32), sR o2, sI (0 : Int32), sR o3, sI (0 : Int32), sD uc, uS, sD us, uS, sD u0_0, uS, sD u1_0, uS, sD u2_0, uS, sD u3_0, uS, sD d8, uS, sD d10, uS, sD d12, uS, sD d14, uS, sD d17, uS, sD d20, uS] []))
  rw [← e28] at A28_o0 A28_o1 A28_o2 A28n Z28 P28
  exact own_ret0 X28 hx hk hrt (hb hby d2_130) ⟨_, _, _, _, rfl, ((by simp only [hj21, hj8, hj7, hj17, hj15, hj12, hj11, hj16, hj14, hj13] : j21 = (((i0_0 + i2_0) * (1 : Int)) + ((ic * ((i1_0 + i3_0) * (1 : Int))) + (is * ((i2_0 - i0_0) * (1 : Int)))))) ▸ D21), ((by simp only [hj21, hj8, hj7, hj17, hj15, hj12, hj11, hj16, hj14, hj13] : j21 = (((i0_0 + i2_0) * (1 : Int)) + ((ic * ((i1_0 + i3_0) * (1 : Int))) + (is * ((i2_0 - i0_0) * (1 : Int)))))) ▸ B21), ((by simp only [hj23, hj10, hj9, hj20, hj18, hj14, hj13, hj19, hj12, hj11] : j23 = (((i1_0 - i3_0) * (1 : Int)) + ((ic * ((i2_0 - i0_0) * (1 : Int))) - (is * ((i1_0 + i3_0) * (1 : Int)))))) ▸ D23), ((by simp only [hj23, hj10, hj9, hj20, hj18, hj14, hj13, hj19, hj12, hj11] : j23 = (((i1_0 - i3_0) * (1 : Int)) + ((ic * ((i2_0 - i0_0) * (1 : Int))) - (is * ((i1_0 + i3_0) * (1 : Int)))))) ▸ B23), ((by simp only [hj25, hj8, hj7, hj17, hj15, hj12, hj11, hj16, hj14, hj13] : j25 = (((i0_0 + i2_0) * (1 : Int)) - ((ic * ((i1_0 + i3_0) * (1 : Int))) + (is * ((i2_0 - i0_0) * (1 : Int)))))) ▸ D25), ((by simp only [hj25, hj8, hj7, hj17, hj15, hj12, hj11, hj16, hj14, hj13] : j25 = (((i0_0 + i2_0) * (1 : Int)) - ((ic * ((i1_0 + i3_0) * (1 : Int))) + (is * ((i2_0 - i0_0) * (1 : Int)))))) ▸ B25), ((by simp only [hj27, hj20, hj18, hj14, hj13, hj19, hj12, hj11, hj10, hj9] : j27 = (((ic * ((i2_0 - i0_0) * (1 : Int))) - (is * ((i1_0 + i3_0) * (1 : Int)))) - ((i1_0 - i3_0) * (1 : Int)))) ▸ D27), ((by simp only [hj27, hj20, hj18, hj14, hj13, hj19, hj12, hj11, hj10, hj9] : j27 = (((ic * ((i2_0 - i0_0) * (1 : Int))) - (is * ((i1_0 + i3_0) * (1 : Int)))) - ((i1_0 - i3_0) * (1 : Int)))) ▸ B27), A28_o0, A28_o1, A28_o2, A28n, P28, N28, Z28⟩ (by decide) (by decide)
theorem pn_rmK1 : plainName "com/example/isochron/isochron/dsp/Fourier" = true := by first | (simp [plainName, overriddenIn]; done) | decide +kernel
theorem pd_rmK1 : parseMethodDescriptor "([DI[DI[DI[DIDD)V" = some ⟨[(.array .double), .int, (.array .double), .int, (.array .double), .int, (.array .double), .int, .double, .double], none⟩ := by decide +kernel
theorem ef_rmK1 (m : MethodId) (o0 : Addr) (u0_0 u0_1 u0_2 u0_3 uc us : UInt64) (i0_0 i0_1 i0_2 i0_3 ic is : Int) : entryFrame m #[(.ref o0), (.int (0 : Int32)), (.ref o0), (.int (1 : Int32)), (.ref o0), (.int (2 : Int32)), (.ref o0), (.int (3 : Int32)), (.double uc), (.double us)] 32 = (mkF m 0 #[sR o0, sI (0 : Int32), sR o0, sI (1 : Int32), sR o0, sI (2 : Int32), sR o0, sI (3 : Int32), sD uc, uS, sD us, uS, uU, uU, uU, uU, uU, uU, uU, uU, uU, uU, uU, uU, uU, uU, uU, uU, uU, uU, uU, uU] []) := by first | (simp [entryFrame, mkF, argsToLocals, Value.category, maxLocals]; done) | rfl
def Q_rmK1 (Z : State) (o0 : Addr) (u0_0 u0_1 u0_2 u0_3 uc us : UInt64) (i0_0 i0_1 i0_2 i0_3 ic is : Int) (h0 : Heap) (n0 : Nat) (v : Option Value) (h : Heap) (L : List Loc) : Prop := ∃ ro0_0 ro0_1 ro0_2 ro0_3 : UInt64, v = none ∧ OwnDS (-1) (((i0_0 + i0_2) * (1 : Int)) + ((ic * ((i0_1 + i0_3) * (1 : Int))) + (is * ((i0_2 - i0_0) * (1 : Int))))) ro0_0 ∧ (-4398048608256 ≤ (((i0_0 + i0_2) * (1 : Int)) + ((ic * ((i0_1 + i0_3) * (1 : Int))) + (is * ((i0_2 - i0_0) * (1 : Int))))) ∧ (((i0_0 + i0_2) * (1 : Int)) + ((ic * ((i0_1 + i0_3) * (1 : Int))) + (is * ((i0_2 - i0_0) * (1 : Int))))) ≤ 4398048608256) ∧ OwnDS (-1) (((i0_1 - i0_3) * (1 : Int)) + ((ic * ((i0_2 - i0_0) * (1 : Int))) - (is * ((i0_1 + i0_3) * (1 : Int))))) ro0_1 ∧ (-4398048608256 ≤ (((i0_1 - i0_3) * (1 : Int)) + ((ic * ((i0_2 - i0_0) * (1 : Int))) - (is * ((i0_1 + i0_3) * (1 : Int))))) ∧ (((i0_1 - i0_3) * (1 : Int)) + ((ic * ((i0_2 - i0_0) * (1 : Int))) - (is * ((i0_1 + i0_3) * (1 : Int))))) ≤ 4398048608256) ∧ OwnDS (-1) (((i0_0 + i0_2) * (1 : Int)) - ((ic * ((i0_1 + i0_3) * (1 : Int))) + (is * ((i0_2 - i0_0) * (1 : Int))))) ro0_2 ∧ (-4398048608256 ≤ (((i0_0 + i0_2) * (1 : Int)) - ((ic * ((i0_1 + i0_3) * (1 : Int))) + (is * ((i0_2 - i0_0) * (1 : Int))))) ∧ (((i0_0 + i0_2) * (1 : Int)) - ((ic * ((i0_1 + i0_3) * (1 : Int))) + (is * ((i0_2 - i0_0) * (1 : Int))))) ≤ 4398048608256) ∧ OwnDS (-1) (((ic * ((i0_2 - i0_0) * (1 : Int))) - (is * ((i0_1 + i0_3) * (1 : Int)))) - ((i0_1 - i0_3) * (1 : Int))) ro0_3 ∧ (-4398048608256 ≤ (((ic * ((i0_2 - i0_0) * (1 : Int))) - (is * ((i0_1 + i0_3) * (1 : Int)))) - ((i0_1 - i0_3) * (1 : Int))) ∧ (((ic * ((i0_2 - i0_0) * (1 : Int))) - (is * ((i0_1 + i0_3) * (1 : Int)))) - ((i0_1 - i0_3) * (1 : Int))) ≤ 4398048608256) ∧ OwnDA Z h o0 [ro0_0, ro0_1, ro0_2, ro0_3] ∧ Keep h0 h [o0] ∧ Fr n0 L ∧ n0 ≤ h.size
set_option maxRecDepth 65536 in
set_option maxHeartbeats 40000000 in
theorem rmK1 (l : Launch) (Z : State) (a0 : Array Value) (hw : ∀ d ∈ tables_1, d.before a0 Z = true) (ws : List Jvm.Cond) (o0 : Addr) (u0_0 u0_1 u0_2 u0_3 uc us : UInt64) (i0_0 i0_1 i0_2 i0_3 ic is : Int) (h0 : Heap) (n0 : Nat) (Z0 : n0 ≤ h0.size) (Ao0 : OwnDA Z h0 o0 [u0_0, u0_1, u0_2, u0_3])  (go0 : n0 ≤ o0) (Du0_0 : OwnDS 0 i0_0 u0_0) (Bu0_0 : -1048576 ≤ i0_0 ∧ i0_0 ≤ 1048576) (Du0_1 : OwnDS 0 i0_1 u0_1) (Bu0_1 : -1048576 ≤ i0_1 ∧ i0_1 ≤ 1048576) (Du0_2 : OwnDS 0 i0_2 u0_2) (Bu0_2 : -1048576 ≤ i0_2 ∧ i0_2 ≤ 1048576) (Du0_3 : OwnDS 0 i0_3 u0_3) (Bu0_3 : -1048576 ≤ i0_3 ∧ i0_3 ≤ 1048576) (Duc : OwnDS 0 ic uc) (Buc : -1048576 ≤ ic ∧ ic ≤ 1048576) (Dus : OwnDS 0 is us) (Bus : -1048576 ≤ is ∧ is ≤ 1048576) :
    MetFree l (⟨"com/example/isochron/isochron/dsp/Fourier", "separate", "([DI[DI[DI[DIDD)V"⟩ : MethodName) (head1 (Jvm.Cond.code (⟨"com/example/isochron/isochron/dsp/Fourier", "separate", "([DI[DI[DI[DIDD)V"⟩ : MethodName) prog_161_method_20_code 32 none :: ws) ({ frames := 0, cells := 0, slots := 0, locals := 0 } : Room)) (fun a U => a = #[(.ref o0), (.int (0 : Int32)), (.ref o0), (.int (1 : Int32)), (.ref o0), (.int (2 : Int32)), (.ref o0), (.int (3 : Int32)), (.double uc), (.double us)] ∧ Z.Warmed39 U.vm ∧ U.heap = h0) (fun _ _ _ _ _ => True) (fun _ U oO U' => ∃ v L, oO = .returned v ∧ Q_rmK1 Z o0 u0_0 u0_1 u0_2 u0_3 uc us i0_0 i0_1 i0_2 i0_3 ic is h0 n0 v U'.heap L ∧ FrameEnd U oO U' L ({ frames := 0, cells := 0, slots := 0, locals := 0 } : Room).cells ({ frames := 0, cells := 0, slots := 0, locals := 0 } : Room).slots) := by
  refine MetFree.of_bodySF (plainFor_of_name pn_rmK1) hisR ?_
  intro p e s m args below meth c s₁ Bd hml0 hP hK
  obtain ⟨rfl, hZ, hh⟩ := hP
  have hx := Bd.exec
  have hby := Bd.bytes
  have hml : c.maxLocals = 32 := hml0
  have hown : s.vm.findClass "com/example/isochron/isochron/dsp/Fourier" = some m.cls := findClass_of_methodNamed Bd.named
  have hnm := (name_of_methodNamed Bd.named Bd.method).1
  have hk := Bd.notSynchronized
  have hrt := Bd.returns
  have X0 : Stand p l e ({ frames := 0, cells := 0, slots := 0, locals := 0 } : Room) s m #[(.ref o0), (.int (0 : Int32)), (.ref o0), (.int (1 : Int32)), (.ref o0), (.int (2 : Int32)), (.ref o0), (.int (3 : Int32)), (.double uc), (.double us)] below meth c s₁ [] 0 0 := Stand.of_body Bd
  have e0 : s₁.heap = h0 := by rw [← hh, Bd.state]; rfl
  have N0 := Fr.nil n0
  show OwnGo p.tables e below (OwnEnd s (Q_rmK1 Z o0 u0_0 u0_1 u0_2 u0_3 uc us i0_0 i0_1 i0_2 i0_3 ic is h0 n0) ({ frames := 0, cells := 0, slots := 0, locals := 0 } : Room).cells ({ frames := 0, cells := 0, slots := 0, locals := 0 } : Room).slots) _
  refine OwnGo.pre (fun t k => castTop (ef_rmK1 m o0 u0_0 u0_1 u0_2 u0_3 uc us i0_0 i0_1 i0_2 i0_3 ic is) k) ?_
  show OwnGo _ _ _ _ (s₁.setTop (mkF m 0 #[sR o0, sI (0 : Int32), sR o0, sI (1 : Int32), sR o0, sI (2 : Int32), sR o0, sI (3 : Int32), sD uc, uS, sD us, uS, uU, uU, uU, uU, uU, uU, uU, uU, uU, uU, uU, uU, uU, uU, uU, uU, uU, uU, uU, uU] []))
  refine OwnGo.pre (fun t k => XS.aloadN X0.here hx rfl (hb hby d2_0) rfl rfl (XS.iloadN X0.here hx rfl (hb hby d2_1) rfl (own_daL X0 hx hZ e0 Ao0 (j := (0 : Int32)) (by decide) (i := 0) (by decide) (x := u0_0) rfl (g := (mkF m 2 #[sR o0, sI (0 : Int32), sR o0, sI (1 : Int32), sR o0, sI (2 : Int32), sR o0, sI (3 : Int32), sD uc, uS, sD us, uS, uU, uU, uU, uU, uU, uU, uU, uU, uU, uU, uU, uU, uU, uU, uU, uU, uU, uU, uU, uU] [(.int (0 : Int32)), (.ref o0)])) rfl (rest := []) rfl (hb hby d2_2) (XS.dstore X0.here hx rfl (hb hby d2_3) rfl (l' := #[sR o0, sI (0 : Int32), sR o0, sI (1 : Int32), sR o0, sI (2 : Int32), sR o0, sI (3 : Int32), sD uc, uS, sD us, uS, sD u0_0, uS, uU, uU, uU, uU, uU, uU, uU, uU, uU, uU, uU, uU, uU, uU, uU, uU, uU, uU]) rfl (XS.aloadN X0.here hx rfl (hb hby d2_5) rfl rfl (XS.iloadN X0.here hx rfl (hb hby d2_6) rfl (own_daL X0 hx hZ e0 Ao0 (j := (1 : Int32)) (by decide) (i := 1) (by decide) (x := u0_1) rfl (g := (mkF m 7 #[sR o0, sI (0 : Int32), sR o0, sI (1 : Int32), sR o0, sI (2 : Int32), sR o0, sI (3 : Int32), sD uc, uS, sD us, uS, sD u0_0, uS, uU, uU, uU, uU, uU, uU, uU, uU, uU, uU, uU, uU, uU, uU, uU, uU, uU, uU] [(.int (1 : Int32)), (.ref o0)])) rfl (rest := []) rfl (hb hby d2_7) (XS.dstore X0.here hx rfl (hb hby d2_8) rfl (l' := #[sR o0, sI (0 : Int32), sR o0, sI (1 : Int32), sR o0, sI (2 : Int32), sR o0, sI (3 : Int32), sD uc, uS, sD us, uS, sD u0_0, uS, sD u0_1, uS, uU, uU, uU, uU, uU, uU, uU, uU, uU, uU, uU, uU, uU, uU, uU, uU]) rfl k)))))))) ?_
  show OwnGo _ _ _ _ (s₁.setTop (mkF m 10 #[sR o0, sI (0 : Int32), sR o0, sI (1 : Int32), sR o0, sI (2 : Int32), sR o0, sI (3 : Int32), sD uc, uS, sD us, uS, sD u0_0, uS, sD u0_1, uS, uU, uU, uU, uU, uU, uU, uU, uU, uU, uU, uU, uU, uU, uU, uU, uU] []))
  refine OwnGo.pre (fun t k => XS.aload X0.here hx rfl (hb hby d2_10) rfl rfl (XS.iload X0.here hx rfl (hb hby d2_12) rfl (own_daL X0 hx hZ e0 Ao0 (j := (2 : Int32)) (by decide) (i := 2) (by decide) (x := u0_2) rfl (g := (mkF m 14 #[sR o0, sI (0 : Int32), sR o0, sI (1 : Int32), sR o0, sI (2 : Int32), sR o0, sI (3 : Int32), sD uc, uS, sD us, uS, sD u0_0, uS, sD u0_1, uS, uU, uU, uU, uU, uU, uU, uU, uU, uU, uU, uU, uU, uU, uU, uU, uU] [(.int (2 : Int32)), (.ref o0)])) rfl (rest := []) rfl (hb hby d2_14) (XS.dstore X0.here hx rfl (hb hby d2_15) rfl (l' := #[sR o0, sI (0 : Int32), sR o0, sI (1 : Int32), sR o0, sI (2 : Int32), sR o0, sI (3 : Int32), sD uc, uS, sD us, uS, sD u0_0, uS, sD u0_1, uS, sD u0_2, uS, uU, uU, uU, uU, uU, uU, uU, uU, uU, uU, uU, uU, uU, uU]) rfl (XS.aload X0.here hx rfl (hb hby d2_17) rfl rfl (XS.iload X0.here hx rfl (hb hby d2_19) rfl (own_daL X0 hx hZ e0 Ao0 (j := (3 : Int32)) (by decide) (i := 3) (by decide) (x := u0_3) rfl (g := (mkF m 21 #[sR o0, sI (0 : Int32), sR o0, sI (1 : Int32), sR o0, sI (2 : Int32), sR o0, sI (3 : Int32), sD uc, uS, sD us, uS, sD u0_0, uS, sD u0_1, uS, sD u0_2, uS, uU, uU, uU, uU, uU, uU, uU, uU, uU, uU, uU, uU, uU, uU] [(.int (3 : Int32)), (.ref o0)])) rfl (rest := []) rfl (hb hby d2_21) (XS.dstore X0.here hx rfl (hb hby d2_22) rfl (l' := #[sR o0, sI (0 : Int32), sR o0, sI (1 : Int32), sR o0, sI (2 : Int32), sR o0, sI (3 : Int32), sD uc, uS, sD us, uS, sD u0_0, uS, sD u0_1, uS, sD u0_2, uS, sD u0_3, uS, uU, uU, uU, uU, uU, uU, uU, uU, uU, uU, uU, uU]) rfl k)))))))) ?_
  show OwnGo _ _ _ _ (s₁.setTop (mkF m 24 #[sR o0, sI (0 : Int32), sR o0, sI (1 : Int32), sR o0, sI (2 : Int32), sR o0, sI (3 : Int32), sD uc, uS, sD us, uS, sD u0_0, uS, sD u0_1, uS, sD u0_2, uS, sD u0_3, uS, uU, uU, uU, uU, uU, uU, uU, uU, uU, uU, uU, uU] []))
  have Dq29 : OwnDS 0 (i0_0 + i0_2) (FP.dadd u0_0 u0_2) := own_ds_add (n := 53) Du0_0 Du0_2 (own_bd_nat (C := 2097152) (own_bd_add Bu0_0 Bu0_2 (by decide)) (by decide))
  obtain ⟨d29, hd29⟩ : ∃ v, FP.dadd u0_0 u0_2 = v := ⟨_, rfl⟩
  obtain ⟨j29, hj29⟩ : ∃ i : Int, i = i0_0 + i0_2 := ⟨_, rfl⟩
  have B29 : -2097152 ≤ j29 ∧ j29 ≤ 2097152 := by rw [hj29]; exact own_bd_add Bu0_0 Bu0_2 (by decide)
  have D29 : OwnDS 0 j29 d29 := by rw [hj29, ← hd29]; exact Dq29
  obtain ⟨j30, hj30⟩ : ∃ i : Int, i = j29 * (1 : Int) := ⟨_, rfl⟩
  have B30 : -2097152 ≤ j30 ∧ j30 ≤ 2097152 := by rw [hj30]; exact own_bd_mul B29 own_b1 (by decide)
  have Dq30 : OwnDS (-1) j30 (FP.dmul d29 (4602678819172646912 : UInt64)) := by rw [hj30]; have q := own_ds_mul (n := 53) D29 own_half (own_bd_nat (C := 2097152) (own_bd_mul B29 own_b1 (by decide)) (by decide)); exact q
  obtain ⟨d30, hd30⟩ : ∃ v, FP.dmul d29 (4602678819172646912 : UInt64) = v := ⟨_, rfl⟩
  have D30 : OwnDS (-1) j30 d30 := by rw [← hd30]; exact Dq30
  refine OwnGo.pre (fun t k => XS.dload X0.here hx rfl (hb hby d2_24) rfl (XS.dload X0.here hx rfl (hb hby d2_26) rfl (XS.daddS X0.here hx rfl (hb hby d2_28) rfl (own_nn Dq29) hd29 (own_ldcD X0 hx hown (mvT hZ (hw _ (List.mem_of_getElem? (i := 9) rfl))) rfl (hb hby d2_29) (XS.dmulS X0.here hx rfl (hb hby d2_32) rfl (own_nn Dq30) hd30 (XS.dstore X0.here hx rfl (hb hby d2_33) rfl (l' := #[sR o0, sI (0 : Int32), sR o0, sI (1 : Int32), sR o0, sI (2 : Int32), sR o0, sI (3 : Int32), sD uc, uS, sD us, uS, sD u0_0, uS, sD u0_1, uS, sD u0_2, uS, sD u0_3, uS, sD d30, uS, uU, uU, uU, uU, uU, uU, uU, uU, uU, uU]) rfl (XS.dload X0.here hx rfl (hb hby d2_35) rfl (XS.dload X0.here hx rfl (hb hby d2_37) rfl k)))))))) ?_
  show OwnGo _ _ _ _ (s₁.setTop (mkF m 39 #[sR o0, sI (0 : Int32), sR o0, sI (1 : Int32), sR o0, sI (2 : Int32), sR o0, sI (3 : Int32), sD uc, uS, sD us, uS, sD u0_0, uS, sD u0_1, uS, sD u0_2, uS, sD u0_3, uS, sD d30, uS, uU, uU, uU, uU, uU, uU, uU, uU, uU, uU] [(.double u0_3), (.double u0_1)]))
  have Dq31 : OwnDS 0 (i0_1 - i0_3) (FP.dsub u0_1 u0_3) := own_ds_sub (n := 53) Du0_1 Du0_3 (own_bd_nat (C := 2097152) (own_bd_sub Bu0_1 Bu0_3 (by decide)) (by decide))
  obtain ⟨d31, hd31⟩ : ∃ v, FP.dsub u0_1 u0_3 = v := ⟨_, rfl⟩
  obtain ⟨j31, hj31⟩ : ∃ i : Int, i = i0_1 - i0_3 := ⟨_, rfl⟩
  have B31 : -2097152 ≤ j31 ∧ j31 ≤ 2097152 := by rw [hj31]; exact own_bd_sub Bu0_1 Bu0_3 (by decide)
  have D31 : OwnDS 0 j31 d31 := by rw [hj31, ← hd31]; exact Dq31
  obtain ⟨j32, hj32⟩ : ∃ i : Int, i = j31 * (1 : Int) := ⟨_, rfl⟩
  have B32 : -2097152 ≤ j32 ∧ j32 ≤ 2097152 := by rw [hj32]; exact own_bd_mul B31 own_b1 (by decide)
  have Dq32 : OwnDS (-1) j32 (FP.dmul d31 (4602678819172646912 : UInt64)) := by rw [hj32]; have q := own_ds_mul (n := 53) D31 own_half (own_bd_nat (C := 2097152) (own_bd_mul B31 own_b1 (by decide)) (by decide)); exact q
  obtain ⟨d32, hd32⟩ : ∃ v, FP.dmul d31 (4602678819172646912 : UInt64) = v := ⟨_, rfl⟩
  have D32 : OwnDS (-1) j32 d32 := by rw [← hd32]; exact Dq32
  have Dq33 : OwnDS 0 (i0_1 + i0_3) (FP.dadd u0_1 u0_3) := own_ds_add (n := 53) Du0_1 Du0_3 (own_bd_nat (C := 2097152) (own_bd_add Bu0_1 Bu0_3 (by decide)) (by decide))
  obtain ⟨d33, hd33⟩ : ∃ v, FP.dadd u0_1 u0_3 = v := ⟨_, rfl⟩
  obtain ⟨j33, hj33⟩ : ∃ i : Int, i = i0_1 + i0_3 := ⟨_, rfl⟩
  have B33 : -2097152 ≤ j33 ∧ j33 ≤ 2097152 := by rw [hj33]; exact own_bd_add Bu0_1 Bu0_3 (by decide)
  have D33 : OwnDS 0 j33 d33 := by rw [hj33, ← hd33]; exact Dq33
  refine OwnGo.pre (fun t k => XS.dsubS X0.here hx rfl (hb hby d2_39) rfl (own_nn Dq31) hd31 (own_ldcD X0 hx hown (mvT hZ (hw _ (List.mem_of_getElem? (i := 9) rfl))) rfl (hb hby d2_40) (XS.dmulS X0.here hx rfl (hb hby d2_43) rfl (own_nn Dq32) hd32 (XS.dstore X0.here hx rfl (hb hby d2_44) rfl (l' := #[sR o0, sI (0 : Int32), sR o0, sI (1 : Int32), sR o0, sI (2 : Int32), sR o0, sI (3 : Int32), sD uc, uS, sD us, uS, sD u0_0, uS, sD u0_1, uS, sD u0_2, uS, sD u0_3, uS, sD d30, uS, sD d32, uS, uU, uU, uU, uU, uU, uU, uU, uU]) rfl (XS.dload X0.here hx rfl (hb hby d2_46) rfl (XS.dload X0.here hx rfl (hb hby d2_48) rfl (XS.daddS X0.here hx rfl (hb hby d2_50) rfl (own_nn Dq33) hd33 (own_ldcD X0 hx hown (mvT hZ (hw _ (List.mem_of_getElem? (i := 9) rfl))) rfl (hb hby d2_51) k)))))))) ?_
  show OwnGo _ _ _ _ (s₁.setTop (mkF m 54 #[sR o0, sI (0 : Int32), sR o0, sI (1 : Int32), sR o0, sI (2 : Int32), sR o0, sI (3 : Int32), sD uc, uS, sD us, uS, sD u0_0, uS, sD u0_1, uS, sD u0_2, uS, sD u0_3, uS, sD d30, uS, sD d32, uS, uU, uU, uU, uU, uU, uU, uU, uU] [(.double (4602678819172646912 : UInt64)), (.double d33)]))
  obtain ⟨j34, hj34⟩ : ∃ i : Int, i = j33 * (1 : Int) := ⟨_, rfl⟩
  have B34 : -2097152 ≤ j34 ∧ j34 ≤ 2097152 := by rw [hj34]; exact own_bd_mul B33 own_b1 (by decide)
  have Dq34 : OwnDS (-1) j34 (FP.dmul d33 (4602678819172646912 : UInt64)) := by rw [hj34]; have q := own_ds_mul (n := 53) D33 own_half (own_bd_nat (C := 2097152) (own_bd_mul B33 own_b1 (by decide)) (by decide)); exact q
  obtain ⟨d34, hd34⟩ : ∃ v, FP.dmul d33 (4602678819172646912 : UInt64) = v := ⟨_, rfl⟩
  have D34 : OwnDS (-1) j34 d34 := by rw [← hd34]; exact Dq34
  have Dq35 : OwnDS 0 (i0_2 - i0_0) (FP.dsub u0_2 u0_0) := own_ds_sub (n := 53) Du0_2 Du0_0 (own_bd_nat (C := 2097152) (own_bd_sub Bu0_2 Bu0_0 (by decide)) (by decide))
  obtain ⟨d35, hd35⟩ : ∃ v, FP.dsub u0_2 u0_0 = v := ⟨_, rfl⟩
  obtain ⟨j35, hj35⟩ : ∃ i : Int, i = i0_2 - i0_0 := ⟨_, rfl⟩
  have B35 : -2097152 ≤ j35 ∧ j35 ≤ 2097152 := by rw [hj35]; exact own_bd_sub Bu0_2 Bu0_0 (by decide)
  have D35 : OwnDS 0 j35 d35 := by rw [hj35, ← hd35]; exact Dq35
  obtain ⟨j36, hj36⟩ : ∃ i : Int, i = j35 * (1 : Int) := ⟨_, rfl⟩
  have B36 : -2097152 ≤ j36 ∧ j36 ≤ 2097152 := by rw [hj36]; exact own_bd_mul B35 own_b1 (by decide)
  have Dq36 : OwnDS (-1) j36 (FP.dmul d35 (4602678819172646912 : UInt64)) := by rw [hj36]; have q := own_ds_mul (n := 53) D35 own_half (own_bd_nat (C := 2097152) (own_bd_mul B35 own_b1 (by decide)) (by decide)); exact q
  obtain ⟨d36, hd36⟩ : ∃ v, FP.dmul d35 (4602678819172646912 : UInt64) = v := ⟨_, rfl⟩
  have D36 : OwnDS (-1) j36 d36 := by rw [← hd36]; exact Dq36
  refine OwnGo.pre (fun t k => XS.dmulS X0.here hx rfl (hb hby d2_54) rfl (own_nn Dq34) hd34 (XS.dstore X0.here hx rfl (hb hby d2_55) rfl (l' := #[sR o0, sI (0 : Int32), sR o0, sI (1 : Int32), sR o0, sI (2 : Int32), sR o0, sI (3 : Int32), sD uc, uS, sD us, uS, sD u0_0, uS, sD u0_1, uS, sD u0_2, uS, sD u0_3, uS, sD d30, uS, sD d32, uS, sD d34, uS, uU, uU, uU, uU, uU, uU]) rfl (XS.dload X0.here hx rfl (hb hby d2_57) rfl (XS.dload X0.here hx rfl (hb hby d2_59) rfl (XS.dsubS X0.here hx rfl (hb hby d2_61) rfl (own_nn Dq35) hd35 (own_ldcD X0 hx hown (mvT hZ (hw _ (List.mem_of_getElem? (i := 9) rfl))) rfl (hb hby d2_62) (XS.dmulS X0.here hx rfl (hb hby d2_65) rfl (own_nn Dq36) hd36 (XS.dstore X0.here hx rfl (hb hby d2_66) rfl (l' := #[sR o0, sI (0 : Int32), sR o0, sI (1 : Int32), sR o0, sI (2 : Int32), sR o0, sI (3 : Int32), sD uc, uS, sD us, uS, sD u0_0, uS, sD u0_1, uS, sD u0_2, uS, sD u0_3, uS, sD d30, uS, sD d32, uS, sD d34, uS, sD d36, uS, uU, uU, uU, uU]) rfl k)))))))) ?_
  show OwnGo _ _ _ _ (s₁.setTop (mkF m 68 #[sR o0, sI (0 : Int32), sR o0, sI (1 : Int32), sR o0, sI (2 : Int32), sR o0, sI (3 : Int32), sD uc, uS, sD us, uS, sD u0_0, uS, sD u0_1, uS, sD u0_2, uS, sD u0_3, uS, sD d30, uS, sD d32, uS, sD d34, uS, sD d36, uS, uU, uU, uU, uU] []))
  obtain ⟨j37, hj37⟩ : ∃ i : Int, i = ic * j34 := ⟨_, rfl⟩
  have B37 : -2199023255552 ≤ j37 ∧ j37 ≤ 2199023255552 := by rw [hj37]; exact own_bd_mul Buc B34 (by decide)
  have Dq37 : OwnDS (-1) j37 (FP.dmul uc d34) := by rw [hj37]; have q := own_ds_mul (n := 53) Duc D34 (own_bd_nat (C := 2199023255552) (own_bd_mul Buc B34 (by decide)) (by decide)); exact q
  obtain ⟨d37, hd37⟩ : ∃ v, FP.dmul uc d34 = v := ⟨_, rfl⟩
  have D37 : OwnDS (-1) j37 d37 := by rw [← hd37]; exact Dq37
  obtain ⟨j38, hj38⟩ : ∃ i : Int, i = is * j36 := ⟨_, rfl⟩
  have B38 : -2199023255552 ≤ j38 ∧ j38 ≤ 2199023255552 := by rw [hj38]; exact own_bd_mul Bus B36 (by decide)
  have Dq38 : OwnDS (-1) j38 (FP.dmul us d36) := by rw [hj38]; have q := own_ds_mul (n := 53) Dus D36 (own_bd_nat (C := 2199023255552) (own_bd_mul Bus B36 (by decide)) (by decide)); exact q
  obtain ⟨d38, hd38⟩ : ∃ v, FP.dmul us d36 = v := ⟨_, rfl⟩
  have D38 : OwnDS (-1) j38 d38 := by rw [← hd38]; exact Dq38
  have Dq39 : OwnDS (-1) (j37 + j38) (FP.dadd d37 d38) := own_ds_add (n := 53) D37 D38 (own_bd_nat (C := 4398046511104) (own_bd_add B37 B38 (by decide)) (by decide))
  obtain ⟨d39, hd39⟩ : ∃ v, FP.dadd d37 d38 = v := ⟨_, rfl⟩
  obtain ⟨j39, hj39⟩ : ∃ i : Int, i = j37 + j38 := ⟨_, rfl⟩
  have B39 : -4398046511104 ≤ j39 ∧ j39 ≤ 4398046511104 := by rw [hj39]; exact own_bd_add B37 B38 (by decide)
  have D39 : OwnDS (-1) j39 d39 := by rw [hj39, ← hd39]; exact Dq39
  refine OwnGo.pre (fun t k => XS.dload X0.here hx rfl (hb hby d2_68) rfl (XS.dload X0.here hx rfl (hb hby d2_70) rfl (XS.dmulS X0.here hx rfl (hb hby d2_72) rfl (own_nn Dq37) hd37 (XS.dload X0.here hx rfl (hb hby d2_73) rfl (XS.dload X0.here hx rfl (hb hby d2_75) rfl (XS.dmulS X0.here hx rfl (hb hby d2_77) rfl (own_nn Dq38) hd38 (XS.daddS X0.here hx rfl (hb hby d2_78) rfl (own_nn Dq39) hd39 (XS.dstore X0.here hx rfl (hb hby d2_79) rfl (l' := #[sR o0, sI (0 : Int32), sR o0, sI (1 : Int32), sR o0, sI (2 : Int32), sR o0, sI (3 : Int32), sD uc, uS, sD us, uS, sD u0_0, uS, sD u0_1, uS, sD u0_2, uS, sD u0_3, uS, sD d30, uS, sD d32, uS, sD d34, uS, sD d36, uS, sD d39, uS, uU, uU]) rfl k)))))))) ?_
  show OwnGo _ _ _ _ (s₁.setTop (mkF m 81 #[sR o0, sI (0 : Int32), sR o0, sI (1 : Int32), sR o0, sI (2 : Int32), sR o0, sI (3 : Int32), sD uc, uS, sD us, uS, sD u0_0, uS, sD u0_1, uS, sD u0_2, uS, sD u0_3, uS, sD d30, uS, sD d32, uS, sD d34, uS, sD d36, uS, sD d39, uS, uU, uU] []))
  obtain ⟨j40, hj40⟩ : ∃ i : Int, i = ic * j36 := ⟨_, rfl⟩
  have B40 : -2199023255552 ≤ j40 ∧ j40 ≤ 2199023255552 := by rw [hj40]; exact own_bd_mul Buc B36 (by decide)
  have Dq40 : OwnDS (-1) j40 (FP.dmul uc d36) := by rw [hj40]; have q := own_ds_mul (n := 53) Duc D36 (own_bd_nat (C := 2199023255552) (own_bd_mul Buc B36 (by decide)) (by decide)); exact q
  obtain ⟨d40, hd40⟩ : ∃ v, FP.dmul uc d36 = v := ⟨_, rfl⟩
  have D40 : OwnDS (-1) j40 d40 := by rw [← hd40]; exact Dq40
  obtain ⟨j41, hj41⟩ : ∃ i : Int, i = is * j34 := ⟨_, rfl⟩
  have B41 : -2199023255552 ≤ j41 ∧ j41 ≤ 2199023255552 := by rw [hj41]; exact own_bd_mul Bus B34 (by decide)
  have Dq41 : OwnDS (-1) j41 (FP.dmul us d34) := by rw [hj41]; have q := own_ds_mul (n := 53) Dus D34 (own_bd_nat (C := 2199023255552) (own_bd_mul Bus B34 (by decide)) (by decide)); exact q
  obtain ⟨d41, hd41⟩ : ∃ v, FP.dmul us d34 = v := ⟨_, rfl⟩
  have D41 : OwnDS (-1) j41 d41 := by rw [← hd41]; exact Dq41
  have Dq42 : OwnDS (-1) (j40 - j41) (FP.dsub d40 d41) := own_ds_sub (n := 53) D40 D41 (own_bd_nat (C := 4398046511104) (own_bd_sub B40 B41 (by decide)) (by decide))
  obtain ⟨d42, hd42⟩ : ∃ v, FP.dsub d40 d41 = v := ⟨_, rfl⟩
  obtain ⟨j42, hj42⟩ : ∃ i : Int, i = j40 - j41 := ⟨_, rfl⟩
  have B42 : -4398046511104 ≤ j42 ∧ j42 ≤ 4398046511104 := by rw [hj42]; exact own_bd_sub B40 B41 (by decide)
  have D42 : OwnDS (-1) j42 d42 := by rw [hj42, ← hd42]; exact Dq42
  refine OwnGo.pre (fun t k => XS.dload X0.here hx rfl (hb hby d2_81) rfl (XS.dload X0.here hx rfl (hb hby d2_83) rfl (XS.dmulS X0.here hx rfl (hb hby d2_85) rfl (own_nn Dq40) hd40 (XS.dload X0.here hx rfl (hb hby d2_86) rfl (XS.dload X0.here hx rfl (hb hby d2_88) rfl (XS.dmulS X0.here hx rfl (hb hby d2_90) rfl (own_nn Dq41) hd41 (XS.dsubS X0.here hx rfl (hb hby d2_91) rfl (own_nn Dq42) hd42 (XS.dstore X0.here hx rfl (hb hby d2_92) rfl (l' := #[sR o0, sI (0 : Int32), sR o0, sI (1 : Int32), sR o0, sI (2 : Int32), sR o0, sI (3 : Int32), sD uc, uS, sD us, uS, sD u0_0, uS, sD u0_1, uS, sD u0_2, uS, sD u0_3, uS, sD d30, uS, sD d32, uS, sD d34, uS, sD d36, uS, sD d39, uS, sD d42, uS]) rfl k)))))))) ?_
  show OwnGo _ _ _ _ (s₁.setTop (mkF m 94 #[sR o0, sI (0 : Int32), sR o0, sI (1 : Int32), sR o0, sI (2 : Int32), sR o0, sI (3 : Int32), sD uc, uS, sD us, uS, sD u0_0, uS, sD u0_1, uS, sD u0_2, uS, sD u0_3, uS, sD d30, uS, sD d32, uS, sD d34, uS, sD d36, uS, sD d39, uS, sD d42, uS] []))
  have Dq43 : OwnDS (-1) (j30 + j39) (FP.dadd d30 d39) := own_ds_add (n := 53) D30 D39 (own_bd_nat (C := 4398048608256) (own_bd_add B30 B39 (by decide)) (by decide))
  obtain ⟨d43, hd43⟩ : ∃ v, FP.dadd d30 d39 = v := ⟨_, rfl⟩
  obtain ⟨j43, hj43⟩ : ∃ i : Int, i = j30 + j39 := ⟨_, rfl⟩
  have B43 : -4398048608256 ≤ j43 ∧ j43 ≤ 4398048608256 := by rw [hj43]; exact own_bd_add B30 B39 (by decide)
  have D43 : OwnDS (-1) j43 d43 := by rw [hj43, ← hd43]; exact Dq43
  refine OwnGo.pre (fun t k => XS.aloadN X0.here hx rfl (hb hby d2_94) rfl rfl (XS.iloadN X0.here hx rfl (hb hby d2_95) rfl (XS.dload X0.here hx rfl (hb hby d2_96) rfl (XS.dload X0.here hx rfl (hb hby d2_98) rfl (XS.daddS X0.here hx rfl (hb hby d2_100) rfl (own_nn Dq43) hd43 k))))) ?_
  show OwnGo _ _ _ _ (s₁.setTop (mkF m 101 #[sR o0, sI (0 : Int32), sR o0, sI (1 : Int32), sR o0, sI (2 : Int32), sR o0, sI (3 : Int32), sD uc, uS, sD us, uS, sD u0_0, uS, sD u0_1, uS, sD u0_2, uS, sD u0_3, uS, sD d30, uS, sD d32, uS, sD d34, uS, sD d36, uS, sD d39, uS, sD d42, uS] [(.double d43), (.int (0 : Int32)), (.ref o0)]))
  obtain ⟨T44, h44, X44, e44, W44, A44, st44⟩ := own_daS X0 hx hZ e0 Ao0 (by decide) (i := 0) (by decide) (by show 0 < 4; decide) (g := (mkF m 101 #[sR o0, sI (0 : Int32), sR o0, sI (1 : Int32), sR o0, sI (2 : Int32), sR o0, sI (3 : Int32), sD uc, uS, sD us, uS, sD u0_0, uS, sD u0_1, uS, sD u0_2, uS, sD u0_3, uS, sD d30, uS, sD d32, uS, sD d34, uS, sD d36, uS, sD d39, uS, sD d42, uS] [(.double d43), (.int (0 : Int32)), (.ref o0)])) rfl rfl (hb hby d2_101)
  have A44n : OwnDA Z h44 o0 [d43, u0_1, u0_2, u0_3] := A44
  have N44 := Fr.snoc X44 N0 go0
  have P44 := (Keep.refl h0 [o0]).wr W44 (Or.inl (List.mem_of_getElem? (i := 0) rfl))
  have Z44 : n0 ≤ h44.size := by rw [W44.size]; exact Z0
  refine OwnGo.pre (fun t k => st44 t k) ?_
  show OwnGo _ _ _ _ (T44.setTop (mkF m 102 #[sR o0, sI (0 : Int32), sR o0, sI (1 : Int32), sR o0, sI (2 : Int32), sR o0, sI (3 : Int32), sD uc, uS, sD us, uS, sD u0_0, uS, sD u0_1, uS, sD u0_2, uS, sD u0_3, uS, sD d30, uS, sD d32, uS, sD d34, uS, sD d36, uS, sD d39, uS, sD d42, uS] []))
  have Dq45 : OwnDS (-1) (j32 + j42) (FP.dadd d32 d42) := own_ds_add (n := 53) D32 D42 (own_bd_nat (C := 4398048608256) (own_bd_add B32 B42 (by decide)) (by decide))
  obtain ⟨d45, hd45⟩ : ∃ v, FP.dadd d32 d42 = v := ⟨_, rfl⟩
  obtain ⟨j45, hj45⟩ : ∃ i : Int, i = j32 + j42 := ⟨_, rfl⟩
  have B45 : -4398048608256 ≤ j45 ∧ j45 ≤ 4398048608256 := by rw [hj45]; exact own_bd_add B32 B42 (by decide)
  have D45 : OwnDS (-1) j45 d45 := by rw [hj45, ← hd45]; exact Dq45
  refine OwnGo.pre (fun t k => XS.aloadN X44.here hx rfl (hb hby d2_102) rfl rfl (XS.iloadN X44.here hx rfl (hb hby d2_103) rfl (XS.dload X44.here hx rfl (hb hby d2_104) rfl (XS.dload X44.here hx rfl (hb hby d2_106) rfl (XS.daddS X44.here hx rfl (hb hby d2_108) rfl (own_nn Dq45) hd45 k))))) ?_
  show OwnGo _ _ _ _ (T44.setTop (mkF m 109 #[sR o0, sI (0 : Int32), sR o0, sI (1 : Int32), sR o0, sI (2 : Int32), sR o0, sI (3 : Int32), sD uc, uS, sD us, uS, sD u0_0, uS, sD u0_1, uS, sD u0_2, uS, sD u0_3, uS, sD d30, uS, sD d32, uS, sD d34, uS, sD d36, uS, sD d39, uS, sD d42, uS] [(.double d45), (.int (1 : Int32)), (.ref o0)]))
  obtain ⟨T46, h46, X46, e46, W46, A46, st46⟩ := own_daS X44 hx hZ e44 A44n (by decide) (i := 1) (by decide) (by show 1 < 4; decide) (g := (mkF m 109 #[sR o0, sI (0 : Int32), sR o0, sI (1 : Int32), sR o0, sI (2 : Int32), sR o0, sI (3 : Int32), sD uc, uS, sD us, uS, sD u0_0, uS, sD u0_1, uS, sD u0_2, uS, sD u0_3, uS, sD d30, uS, sD d32, uS, sD d34, uS, sD d36, uS, sD d39, uS, sD d42, uS] [(.double d45), (.int (1 : Int32)), (.ref o0)])) rfl rfl (hb hby d2_109)
  have A46n : OwnDA Z h46 o0 [d43, d45, u0_2, u0_3] := A46
  have N46 := Fr.snoc X46 N44 go0
  have P46 := P44.wr W46 (Or.inl (List.mem_of_getElem? (i := 0) rfl))
  have Z46 : n0 ≤ h46.size := by rw [W46.size]; exact Z44
  refine OwnGo.pre (fun t k => st46 t k) ?_
  show OwnGo _ _ _ _ (T46.setTop (mkF m 110 #[sR o0, sI (0 : Int32), sR o0, sI (1 : Int32), sR o0, sI (2 : Int32), sR o0, sI (3 : Int32), sD uc, uS, sD us, uS, sD u0_0, uS, sD u0_1, uS, sD u0_2, uS, sD u0_3, uS, sD d30, uS, sD d32, uS, sD d34, uS, sD d36, uS, sD d39, uS, sD d42, uS] []))
  have Dq47 : OwnDS (-1) (j30 - j39) (FP.dsub d30 d39) := own_ds_sub (n := 53) D30 D39 (own_bd_nat (C := 4398048608256) (own_bd_sub B30 B39 (by decide)) (by decide))
  obtain ⟨d47, hd47⟩ : ∃ v, FP.dsub d30 d39 = v := ⟨_, rfl⟩
  obtain ⟨j47, hj47⟩ : ∃ i : Int, i = j30 - j39 := ⟨_, rfl⟩
  have B47 : -4398048608256 ≤ j47 ∧ j47 ≤ 4398048608256 := by rw [hj47]; exact own_bd_sub B30 B39 (by decide)
  have D47 : OwnDS (-1) j47 d47 := by rw [hj47, ← hd47]; exact Dq47
  refine OwnGo.pre (fun t k => XS.aload X46.here hx rfl (hb hby d2_110) rfl rfl (XS.iload X46.here hx rfl (hb hby d2_112) rfl (XS.dload X46.here hx rfl (hb hby d2_114) rfl (XS.dload X46.here hx rfl (hb hby d2_116) rfl (XS.dsubS X46.here hx rfl (hb hby d2_118) rfl (own_nn Dq47) hd47 k))))) ?_
  show OwnGo _ _ _ _ (T46.setTop (mkF m 119 #[sR o0, sI (0 : Int32), sR o0, sI (1 : Int32), sR o0, sI (2 : Int32), sR o0, sI (3 : Int32), sD uc, uS, sD us, uS, sD u0_0, uS, sD u0_1, uS, sD u0_2, uS, sD u0_3, uS, sD d30, uS, sD d32, uS, sD d34, uS, sD d36, uS, sD d39, uS, sD d42, uS] [(.double d47), (.int (2 : Int32)), (.ref o0)]))
  obtain ⟨T48, h48, X48, e48, W48, A48, st48⟩ := own_daS X46 hx hZ e46 A46n (by decide) (i := 2) (by decide) (by show 2 < 4; decide) (g := (mkF m 119 #[sR o0, sI (0 : Int32), sR o0, sI (1 : Int32), sR o0, sI (2 : Int32), sR o0, sI (3 : Int32), sD uc, uS, sD us, uS, sD u0_0, uS, sD u0_1, uS, sD u0_2, uS, sD u0_3, uS, sD d30, uS, sD d32, uS, sD d34, uS, sD d36, uS, sD d39, uS, sD d42, uS] [(.double d47), (.int (2 : Int32)), (.ref o0)])) rfl rfl (hb hby d2_119)
  have A48n : OwnDA Z h48 o0 [d43, d45, d47, u0_3] := A48
  have N48 := Fr.snoc X48 N46 go0
  have P48 := P46.wr W48 (Or.inl (List.mem_of_getElem? (i := 0) rfl))
  have Z48 : n0 ≤ h48.size := by rw [W48.size]; exact Z46
  refine OwnGo.pre (fun t k => st48 t k) ?_
  show OwnGo _ _ _ _ (T48.setTop (mkF m 120 #[sR o0, sI (0 : Int32), sR o0, sI (1 : Int32), sR o0, sI (2 : Int32), sR o0, sI (3 : Int32), sD uc, uS, sD us, uS, sD u0_0, uS, sD u0_1, uS, sD u0_2, uS, sD u0_3, uS, sD d30, uS, sD d32, uS, sD d34, uS, sD d36, uS, sD d39, uS, sD d42, uS] []))
  have Dq49 : OwnDS (-1) (j42 - j32) (FP.dsub d42 d32) := own_ds_sub (n := 53) D42 D32 (own_bd_nat (C := 4398048608256) (own_bd_sub B42 B32 (by decide)) (by decide))
  obtain ⟨d49, hd49⟩ : ∃ v, FP.dsub d42 d32 = v := ⟨_, rfl⟩
  obtain ⟨j49, hj49⟩ : ∃ i : Int, i = j42 - j32 := ⟨_, rfl⟩
  have B49 : -4398048608256 ≤ j49 ∧ j49 ≤ 4398048608256 := by rw [hj49]; exact own_bd_sub B42 B32 (by decide)
  have D49 : OwnDS (-1) j49 d49 := by rw [hj49, ← hd49]; exact Dq49
  refine OwnGo.pre (fun t k => XS.aload X48.here hx rfl (hb hby d2_120) rfl rfl (XS.iload X48.here hx rfl (hb hby d2_122) rfl (XS.dload X48.here hx rfl (hb hby d2_124) rfl (XS.dload X48.here hx rfl (hb hby d2_126) rfl (XS.dsubS X48.here hx rfl (hb hby d2_128) rfl (own_nn Dq49) hd49 k))))) ?_
  show OwnGo _ _ _ _ (T48.setTop (mkF m 129 #[sR o0, sI (0 : Int32), sR o0, sI (1 : Int32), sR o0, sI (2 : Int32), sR o0, sI (3 : Int32), sD uc, uS, sD us, uS, sD u0_0, uS, sD u0_1, uS, sD u0_2, uS, sD u0_3, uS, sD d30, uS, sD d32, uS, sD d34, uS, sD d36, uS, sD d39, uS, sD d42, uS] [(.double d49), (.int (3 : Int32)), (.ref o0)]))
  obtain ⟨T50, h50, X50, e50, W50, A50, st50⟩ := own_daS X48 hx hZ e48 A48n (by decide) (i := 3) (by decide) (by show 3 < 4; decide) (g := (mkF m 129 #[sR o0, sI (0 : Int32), sR o0, sI (1 : Int32), sR o0, sI (2 : Int32), sR o0, sI (3 : Int32), sD uc, uS, sD us, uS, sD u0_0, uS, sD u0_1, uS, sD u0_2, uS, sD u0_3, uS, sD d30, uS, sD d32, uS, sD d34, uS, sD d36, uS, sD d39, uS, sD d42, uS] [(.double d49), (.int (3 : Int32)), (.ref o0)])) rfl rfl (hb hby d2_129)
  have A50n : OwnDA Z h50 o0 [d43, d45, d47, d49] := A50
  have N50 := Fr.snoc X50 N48 go0
  have P50 := P48.wr W50 (Or.inl (List.mem_of_getElem? (i := 0) rfl))
  have Z50 : n0 ≤ h50.size := by rw [W50.size]; exact Z48
  refine OwnGo.pre (fun t k => st50 t k) ?_
  show OwnGo _ _ _ _ (T50.setTop (mkF m 130 #[sR o0, sI (0 : Int32), sR o0, sI (1 : Int32), sR o0, sI (2 : Int32), sR o0, sI (3 : Int32), sD uc, uS, sD us, uS, sD u0_0, uS, sD u0_1, uS, sD u0_2, uS, sD u0_3, uS, sD d30, uS, sD d32, uS, sD d34, uS, sD d36, uS, sD d39, uS, sD d42, uS] []))
  rw [← e50] at A50n Z50 P50
  exact own_ret0 X50 hx hk hrt (hb hby d2_130) ⟨_, _, _, _, rfl, ((by simp only [hj43, hj30, hj29, hj39, hj37, hj34, hj33, hj38, hj36, hj35] : j43 = (((i0_0 + i0_2) * (1 : Int)) + ((ic * ((i0_1 + i0_3) * (1 : Int))) + (is * ((i0_2 - i0_0) * (1 : Int)))))) ▸ D43), ((by simp only [hj43, hj30, hj29, hj39, hj37, hj34, hj33, hj38, hj36, hj35] : j43 = (((i0_0 + i0_2) * (1 : Int)) + ((ic * ((i0_1 + i0_3) * (1 : Int))) + (is * ((i0_2 - i0_0) * (1 : Int)))))) ▸ B43), ((by simp only [hj45, hj32, hj31, hj42, hj40, hj36, hj35, hj41, hj34, hj33] : j45 = (((i0_1 - i0_3) * (1 : Int)) + ((ic * ((i0_2 - i0_0) * (1 : Int))) - (is * ((i0_1 + i0_3) * (1 : Int)))))) ▸ D45), ((by simp only [hj45, hj32, hj31, hj42, hj40, hj36, hj35, hj41, hj34, hj33] : j45 = (((i0_1 - i0_3) * (1 : Int)) + ((ic * ((i0_2 - i0_0) * (1 : Int))) - (is * ((i0_1 + i0_3) * (1 : Int)))))) ▸ B45), ((by simp only [hj47, hj30, hj29, hj39, hj37, hj34, hj33, hj38, hj36, hj35] : j47 = (((i0_0 + i0_2) * (1 : Int)) - ((ic * ((i0_1 + i0_3) * (1 : Int))) + (is * ((i0_2 - i0_0) * (1 : Int)))))) ▸ D47), ((by simp only [hj47, hj30, hj29, hj39, hj37, hj34, hj33, hj38, hj36, hj35] : j47 = (((i0_0 + i0_2) * (1 : Int)) - ((ic * ((i0_1 + i0_3) * (1 : Int))) + (is * ((i0_2 - i0_0) * (1 : Int)))))) ▸ B47), ((by simp only [hj49, hj42, hj40, hj36, hj35, hj41, hj34, hj33, hj32, hj31] : j49 = (((ic * ((i0_2 - i0_0) * (1 : Int))) - (is * ((i0_1 + i0_3) * (1 : Int)))) - ((i0_1 - i0_3) * (1 : Int)))) ▸ D49), ((by simp only [hj49, hj42, hj40, hj36, hj35, hj41, hj34, hj33, hj32, hj31] : j49 = (((ic * ((i0_2 - i0_0) * (1 : Int))) - (is * ((i0_1 + i0_3) * (1 : Int)))) - ((i0_1 - i0_3) * (1 : Int)))) ▸ B49), A50n, P50, N50, Z50⟩ (by decide) (by decide)
theorem pn_rmK2 : plainName "com/example/isochron/isochron/dsp/Fourier" = true := by first | (simp [plainName, overriddenIn]; done) | decide +kernel
theorem pd_rmK2 : parseMethodDescriptor "([DI[DI[DI[DIDD)V" = some ⟨[(.array .double), .int, (.array .double), .int, (.array .double), .int, (.array .double), .int, .double, .double], none⟩ := by decide +kernel
theorem ef_rmK2 (m : MethodId) (o0 : Addr) (u0_0 u0_1 u0_2 u0_3 uc us : UInt64) (i0_3 i0_0 i0_1 i0_2 ic is : Int) : entryFrame m #[(.ref o0), (.int (3 : Int32)), (.ref o0), (.int (0 : Int32)), (.ref o0), (.int (1 : Int32)), (.ref o0), (.int (2 : Int32)), (.double uc), (.double us)] 32 = (mkF m 0 #[sR o0, sI (3 : Int32), sR o0, sI (0 : Int32), sR o0, sI (1 : Int32), sR o0, sI (2 : Int32), sD uc, uS, sD us, uS, uU, uU, uU, uU, uU, uU, uU, uU, uU, uU, uU, uU, uU, uU, uU, uU, uU, uU, uU, uU] []) := by first | (simp [entryFrame, mkF, argsToLocals, Value.category, maxLocals]; done) | rfl
def Q_rmK2 (Z : State) (o0 : Addr) (u0_0 u0_1 u0_2 u0_3 uc us : UInt64) (i0_3 i0_0 i0_1 i0_2 ic is : Int) (h0 : Heap) (n0 : Nat) (v : Option Value) (h : Heap) (L : List Loc) : Prop := ∃ ro0_0 ro0_1 ro0_2 ro0_3 : UInt64, v = none ∧ OwnDS (-1) (((i0_0 - i0_2) * (1 : Int)) + ((ic * ((i0_1 - i0_3) * (1 : Int))) - (is * ((i0_0 + i0_2) * (1 : Int))))) ro0_0 ∧ (-4398048608256 ≤ (((i0_0 - i0_2) * (1 : Int)) + ((ic * ((i0_1 - i0_3) * (1 : Int))) - (is * ((i0_0 + i0_2) * (1 : Int))))) ∧ (((i0_0 - i0_2) * (1 : Int)) + ((ic * ((i0_1 - i0_3) * (1 : Int))) - (is * ((i0_0 + i0_2) * (1 : Int))))) ≤ 4398048608256) ∧ OwnDS (-1) (((i0_3 + i0_1) * (1 : Int)) - ((ic * ((i0_0 + i0_2) * (1 : Int))) + (is * ((i0_1 - i0_3) * (1 : Int))))) ro0_1 ∧ (-4398048608256 ≤ (((i0_3 + i0_1) * (1 : Int)) - ((ic * ((i0_0 + i0_2) * (1 : Int))) + (is * ((i0_1 - i0_3) * (1 : Int))))) ∧ (((i0_3 + i0_1) * (1 : Int)) - ((ic * ((i0_0 + i0_2) * (1 : Int))) + (is * ((i0_1 - i0_3) * (1 : Int))))) ≤ 4398048608256) ∧ OwnDS (-1) (((ic * ((i0_1 - i0_3) * (1 : Int))) - (is * ((i0_0 + i0_2) * (1 : Int)))) - ((i0_0 - i0_2) * (1 : Int))) ro0_2 ∧ (-4398048608256 ≤ (((ic * ((i0_1 - i0_3) * (1 : Int))) - (is * ((i0_0 + i0_2) * (1 : Int)))) - ((i0_0 - i0_2) * (1 : Int))) ∧ (((ic * ((i0_1 - i0_3) * (1 : Int))) - (is * ((i0_0 + i0_2) * (1 : Int)))) - ((i0_0 - i0_2) * (1 : Int))) ≤ 4398048608256) ∧ OwnDS (-1) (((i0_3 + i0_1) * (1 : Int)) + ((ic * ((i0_0 + i0_2) * (1 : Int))) + (is * ((i0_1 - i0_3) * (1 : Int))))) ro0_3 ∧ (-4398048608256 ≤ (((i0_3 + i0_1) * (1 : Int)) + ((ic * ((i0_0 + i0_2) * (1 : Int))) + (is * ((i0_1 - i0_3) * (1 : Int))))) ∧ (((i0_3 + i0_1) * (1 : Int)) + ((ic * ((i0_0 + i0_2) * (1 : Int))) + (is * ((i0_1 - i0_3) * (1 : Int))))) ≤ 4398048608256) ∧ OwnDA Z h o0 [ro0_0, ro0_1, ro0_2, ro0_3] ∧ Keep h0 h [o0] ∧ Fr n0 L ∧ n0 ≤ h.size
set_option maxRecDepth 65536 in
set_option maxHeartbeats 40000000 in
theorem rmK2 (l : Launch) (Z : State) (a0 : Array Value) (hw : ∀ d ∈ tables_1, d.before a0 Z = true) (ws : List Jvm.Cond) (o0 : Addr) (u0_0 u0_1 u0_2 u0_3 uc us : UInt64) (i0_3 i0_0 i0_1 i0_2 ic is : Int) (h0 : Heap) (n0 : Nat) (Z0 : n0 ≤ h0.size) (Ao0 : OwnDA Z h0 o0 [u0_0, u0_1, u0_2, u0_3])  (go0 : n0 ≤ o0) (Du0_3 : OwnDS 0 i0_3 u0_3) (Bu0_3 : -1048576 ≤ i0_3 ∧ i0_3 ≤ 1048576) (Du0_0 : OwnDS 0 i0_0 u0_0) (Bu0_0 : -1048576 ≤ i0_0 ∧ i0_0 ≤ 1048576) (Du0_1 : OwnDS 0 i0_1 u0_1) (Bu0_1 : -1048576 ≤ i0_1 ∧ i0_1 ≤ 1048576) (Du0_2 : OwnDS 0 i0_2 u0_2) (Bu0_2 : -1048576 ≤ i0_2 ∧ i0_2 ≤ 1048576) (Duc : OwnDS 0 ic uc) (Buc : -1048576 ≤ ic ∧ ic ≤ 1048576) (Dus : OwnDS 0 is us) (Bus : -1048576 ≤ is ∧ is ≤ 1048576) :
    MetFree l (⟨"com/example/isochron/isochron/dsp/Fourier", "separate", "([DI[DI[DI[DIDD)V"⟩ : MethodName) (head1 (Jvm.Cond.code (⟨"com/example/isochron/isochron/dsp/Fourier", "separate", "([DI[DI[DI[DIDD)V"⟩ : MethodName) prog_161_method_20_code 32 none :: ws) ({ frames := 0, cells := 0, slots := 0, locals := 0 } : Room)) (fun a U => a = #[(.ref o0), (.int (3 : Int32)), (.ref o0), (.int (0 : Int32)), (.ref o0), (.int (1 : Int32)), (.ref o0), (.int (2 : Int32)), (.double uc), (.double us)] ∧ Z.Warmed39 U.vm ∧ U.heap = h0) (fun _ _ _ _ _ => True) (fun _ U oO U' => ∃ v L, oO = .returned v ∧ Q_rmK2 Z o0 u0_0 u0_1 u0_2 u0_3 uc us i0_3 i0_0 i0_1 i0_2 ic is h0 n0 v U'.heap L ∧ FrameEnd U oO U' L ({ frames := 0, cells := 0, slots := 0, locals := 0 } : Room).cells ({ frames := 0, cells := 0, slots := 0, locals := 0 } : Room).slots) := by
  refine MetFree.of_bodySF (plainFor_of_name pn_rmK2) hisR ?_
  intro p e s m args below meth c s₁ Bd hml0 hP hK
  obtain ⟨rfl, hZ, hh⟩ := hP
  have hx := Bd.exec
  have hby := Bd.bytes
  have hml : c.maxLocals = 32 := hml0
  have hown : s.vm.findClass "com/example/isochron/isochron/dsp/Fourier" = some m.cls := findClass_of_methodNamed Bd.named
  have hnm := (name_of_methodNamed Bd.named Bd.method).1
  have hk := Bd.notSynchronized
  have hrt := Bd.returns
  have X0 : Stand p l e ({ frames := 0, cells := 0, slots := 0, locals := 0 } : Room) s m #[(.ref o0), (.int (3 : Int32)), (.ref o0), (.int (0 : Int32)), (.ref o0), (.int (1 : Int32)), (.ref o0), (.int (2 : Int32)), (.double uc), (.double us)] below meth c s₁ [] 0 0 := Stand.of_body Bd
  have e0 : s₁.heap = h0 := by rw [← hh, Bd.state]; rfl
  have N0 := Fr.nil n0
  show OwnGo p.tables e below (OwnEnd s (Q_rmK2 Z o0 u0_0 u0_1 u0_2 u0_3 uc us i0_3 i0_0 i0_1 i0_2 ic is h0 n0) ({ frames := 0, cells := 0, slots := 0, locals := 0 } : Room).cells ({ frames := 0, cells := 0, slots := 0, locals := 0 } : Room).slots) _
  refine OwnGo.pre (fun t k => castTop (ef_rmK2 m o0 u0_0 u0_1 u0_2 u0_3 uc us i0_3 i0_0 i0_1 i0_2 ic is) k) ?_
  show OwnGo _ _ _ _ (s₁.setTop (mkF m 0 #[sR o0, sI (3 : Int32), sR o0, sI (0 : Int32), sR o0, sI (1 : Int32), sR o0, sI (2 : Int32), sD uc, uS, sD us, uS, uU, uU, uU, uU, uU, uU, uU, uU, uU, uU, uU, uU, uU, uU, uU, uU, uU, uU, uU, uU] []))
  refine OwnGo.pre (fun t k => XS.aloadN X0.here hx rfl (hb hby d2_0) rfl rfl (XS.iloadN X0.here hx rfl (hb hby d2_1) rfl (own_daL X0 hx hZ e0 Ao0 (j := (3 : Int32)) (by decide) (i := 3) (by decide) (x := u0_3) rfl (g := (mkF m 2 #[sR o0, sI (3 : Int32), sR o0, sI (0 : Int32), sR o0, sI (1 : Int32), sR o0, sI (2 : Int32), sD uc, uS, sD us, uS, uU, uU, uU, uU, uU, uU, uU, uU, uU, uU, uU, uU, uU, uU, uU, uU, uU, uU, uU, uU] [(.int (3 : Int32)), (.ref o0)])) rfl (rest := []) rfl (hb hby d2_2) (XS.dstore X0.here hx rfl (hb hby d2_3) rfl (l' := #[sR o0, sI (3 : Int32), sR o0, sI (0 : Int32), sR o0, sI (1 : Int32), sR o0, sI (2 : Int32), sD uc, uS, sD us, uS, sD u0_3, uS, uU, uU, uU, uU, uU, uU, uU, uU, uU, uU, uU, uU, uU, uU, uU, uU, uU, uU]) rfl (XS.aloadN X0.here hx rfl (hb hby d2_5) rfl rfl (XS.iloadN X0.here hx rfl (hb hby d2_6) rfl (own_daL X0 hx hZ e0 Ao0 (j := (0 : Int32)) (by decide) (i := 0) (by decide) (x := u0_0) rfl (g := (mkF m 7 #[sR o0, sI (3 : Int32), sR o0, sI (0 : Int32), sR o0, sI (1 : Int32), sR o0, sI (2 : Int32), sD uc, uS, sD us, uS, sD u0_3, uS, uU, uU, uU, uU, uU, uU, uU, uU, uU, uU, uU, uU, uU, uU, uU, uU, uU, uU] [(.int (0 : Int32)), (.ref o0)])) rfl (rest := []) rfl (hb hby d2_7) (XS.dstore X0.here hx rfl (hb hby d2_8) rfl (l' := #[sR o0, sI (3 : Int32), sR o0, sI (0 : Int32), sR o0, sI (1 : Int32), sR o0, sI (2 : Int32), sD uc, uS, sD us, uS, sD u0_3, uS, sD u0_0, uS, uU, uU, uU, uU, uU, uU, uU, uU, uU, uU, uU, uU, uU, uU, uU, uU]) rfl k)))))))) ?_
  show OwnGo _ _ _ _ (s₁.setTop (mkF m 10 #[sR o0, sI (3 : Int32), sR o0, sI (0 : Int32), sR o0, sI (1 : Int32), sR o0, sI (2 : Int32), sD uc, uS, sD us, uS, sD u0_3, uS, sD u0_0, uS, uU, uU, uU, uU, uU, uU, uU, uU, uU, uU, uU, uU, uU, uU, uU, uU] []))
  refine OwnGo.pre (fun t k => XS.aload X0.here hx rfl (hb hby d2_10) rfl rfl (XS.iload X0.here hx rfl (hb hby d2_12) rfl (own_daL X0 hx hZ e0 Ao0 (j := (1 : Int32)) (by decide) (i := 1) (by decide) (x := u0_1) rfl (g := (mkF m 14 #[sR o0, sI (3 : Int32), sR o0, sI (0 : Int32), sR o0, sI (1 : Int32), sR o0, sI (2 : Int32), sD uc, uS, sD us, uS, sD u0_3, uS, sD u0_0, uS, uU, uU, uU, uU, uU, uU, uU, uU, uU, uU, uU, uU, uU, uU, uU, uU] [(.int (1 : Int32)), (.ref o0)])) rfl (rest := []) rfl (hb hby d2_14) (XS.dstore X0.here hx rfl (hb hby d2_15) rfl (l' := #[sR o0, sI (3 : Int32), sR o0, sI (0 : Int32), sR o0, sI (1 : Int32), sR o0, sI (2 : Int32), sD uc, uS, sD us, uS, sD u0_3, uS, sD u0_0, uS, sD u0_1, uS, uU, uU, uU, uU, uU, uU, uU, uU, uU, uU, uU, uU, uU, uU]) rfl (XS.aload X0.here hx rfl (hb hby d2_17) rfl rfl (XS.iload X0.here hx rfl (hb hby d2_19) rfl (own_daL X0 hx hZ e0 Ao0 (j := (2 : Int32)) (by decide) (i := 2) (by decide) (x := u0_2) rfl (g := (mkF m 21 #[sR o0, sI (3 : Int32), sR o0, sI (0 : Int32), sR o0, sI (1 : Int32), sR o0, sI (2 : Int32), sD uc, uS, sD us, uS, sD u0_3, uS, sD u0_0, uS, sD u0_1, uS, uU, uU, uU, uU, uU, uU, uU, uU, uU, uU, uU, uU, uU, uU] [(.int (2 : Int32)), (.ref o0)])) rfl (rest := []) rfl (hb hby d2_21) (XS.dstore X0.here hx rfl (hb hby d2_22) rfl (l' := #[sR o0, sI (3 : Int32), sR o0, sI (0 : Int32), sR o0, sI (1 : Int32), sR o0, sI (2 : Int32), sD uc, uS, sD us, uS, sD u0_3, uS, sD u0_0, uS, sD u0_1, uS, sD u0_2, uS, uU, uU, uU, uU, uU, uU, uU, uU, uU, uU, uU, uU]) rfl k)))))))) ?_
  show OwnGo _ _ _ _ (s₁.setTop (mkF m 24 #[sR o0, sI (3 : Int32), sR o0, sI (0 : Int32), sR o0, sI (1 : Int32), sR o0, sI (2 : Int32), sD uc, uS, sD us, uS, sD u0_3, uS, sD u0_0, uS, sD u0_1, uS, sD u0_2, uS, uU, uU, uU, uU, uU, uU, uU, uU, uU, uU, uU, uU] []))
  have Dq51 : OwnDS 0 (i0_3 + i0_1) (FP.dadd u0_3 u0_1) := own_ds_add (n := 53) Du0_3 Du0_1 (own_bd_nat (C := 2097152) (own_bd_add Bu0_3 Bu0_1 (by decide)) (by decide))
  obtain ⟨d51, hd51⟩ : ∃ v, FP.dadd u0_3 u0_1 = v := ⟨_, rfl⟩
  obtain ⟨j51, hj51⟩ : ∃ i : Int, i = i0_3 + i0_1 := ⟨_, rfl⟩
  have B51 : -2097152 ≤ j51 ∧ j51 ≤ 2097152 := by rw [hj51]; exact own_bd_add Bu0_3 Bu0_1 (by decide)
  have D51 : OwnDS 0 j51 d51 := by rw [hj51, ← hd51]; exact Dq51
  obtain ⟨j52, hj52⟩ : ∃ i : Int, i = j51 * (1 : Int) := ⟨_, rfl⟩
  have B52 : -2097152 ≤ j52 ∧ j52 ≤ 2097152 := by rw [hj52]; exact own_bd_mul B51 own_b1 (by decide)
  have Dq52 : OwnDS (-1) j52 (FP.dmul d51 (4602678819172646912 : UInt64)) := by rw [hj52]; have q := own_ds_mul (n := 53) D51 own_half (own_bd_nat (C := 2097152) (own_bd_mul B51 own_b1 (by decide)) (by decide)); exact q
  obtain ⟨d52, hd52⟩ : ∃ v, FP.dmul d51 (4602678819172646912 : UInt64) = v := ⟨_, rfl⟩
  have D52 : OwnDS (-1) j52 d52 := by rw [← hd52]; exact Dq52
  refine OwnGo.pre (fun t k => XS.dload X0.here hx rfl (hb hby d2_24) rfl (XS.dload X0.here hx rfl (hb hby d2_26) rfl (XS.daddS X0.here hx rfl (hb hby d2_28) rfl (own_nn Dq51) hd51 (own_ldcD X0 hx hown (mvT hZ (hw _ (List.mem_of_getElem? (i := 9) rfl))) rfl (hb hby d2_29) (XS.dmulS X0.here hx rfl (hb hby d2_32) rfl (own_nn Dq52) hd52 (XS.dstore X0.here hx rfl (hb hby d2_33) rfl (l' := #[sR o0, sI (3 : Int32), sR o0, sI (0 : Int32), sR o0, sI (1 : Int32), sR o0, sI (2 : Int32), sD uc, uS, sD us, uS, sD u0_3, uS, sD u0_0, uS, sD u0_1, uS, sD u0_2, uS, sD d52, uS, uU, uU, uU, uU, uU, uU, uU, uU, uU, uU]) rfl (XS.dload X0.here hx rfl (hb hby d2_35) rfl (XS.dload X0.here hx rfl (hb hby d2_37) rfl k)))))))) ?_
  show OwnGo _ _ _ _ (s₁.setTop (mkF m 39 #[sR o0, sI (3 : Int32), sR o0, sI (0 : Int32), sR o0, sI (1 : Int32), sR o0, sI (2 : Int32), sD uc, uS, sD us, uS, sD u0_3, uS, sD u0_0, uS, sD u0_1, uS, sD u0_2, uS, sD d52, uS, uU, uU, uU, uU, uU, uU, uU, uU, uU, uU] [(.double u0_2), (.double u0_0)]))
  have Dq53 : OwnDS 0 (i0_0 - i0_2) (FP.dsub u0_0 u0_2) := own_ds_sub (n := 53) Du0_0 Du0_2 (own_bd_nat (C := 2097152) (own_bd_sub Bu0_0 Bu0_2 (by decide)) (by decide))
  obtain ⟨d53, hd53⟩ : ∃ v, FP.dsub u0_0 u0_2 = v := ⟨_, rfl⟩
  obtain ⟨j53, hj53⟩ : ∃ i : Int, i = i0_0 - i0_2 := ⟨_, rfl⟩
  have B53 : -2097152 ≤ j53 ∧ j53 ≤ 2097152 := by rw [hj53]; exact own_bd_sub Bu0_0 Bu0_2 (by decide)
  have D53 : OwnDS 0 j53 d53 := by rw [hj53, ← hd53]; exact Dq53
  obtain ⟨j54, hj54⟩ : ∃ i : Int, i = j53 * (1 : Int) := ⟨_, rfl⟩
  have B54 : -2097152 ≤ j54 ∧ j54 ≤ 2097152 := by rw [hj54]; exact own_bd_mul B53 own_b1 (by decide)
  have Dq54 : OwnDS (-1) j54 (FP.dmul d53 (4602678819172646912 : UInt64)) := by rw [hj54]; have q := own_ds_mul (n := 53) D53 own_half (own_bd_nat (C := 2097152) (own_bd_mul B53 own_b1 (by decide)) (by decide)); exact q
  obtain ⟨d54, hd54⟩ : ∃ v, FP.dmul d53 (4602678819172646912 : UInt64) = v := ⟨_, rfl⟩
  have D54 : OwnDS (-1) j54 d54 := by rw [← hd54]; exact Dq54
  have Dq55 : OwnDS 0 (i0_0 + i0_2) (FP.dadd u0_0 u0_2) := own_ds_add (n := 53) Du0_0 Du0_2 (own_bd_nat (C := 2097152) (own_bd_add Bu0_0 Bu0_2 (by decide)) (by decide))
  obtain ⟨d55, hd55⟩ : ∃ v, FP.dadd u0_0 u0_2 = v := ⟨_, rfl⟩
  obtain ⟨j55, hj55⟩ : ∃ i : Int, i = i0_0 + i0_2 := ⟨_, rfl⟩
  have B55 : -2097152 ≤ j55 ∧ j55 ≤ 2097152 := by rw [hj55]; exact own_bd_add Bu0_0 Bu0_2 (by decide)
  have D55 : OwnDS 0 j55 d55 := by rw [hj55, ← hd55]; exact Dq55
  refine OwnGo.pre (fun t k => XS.dsubS X0.here hx rfl (hb hby d2_39) rfl (own_nn Dq53) hd53 (own_ldcD X0 hx hown (mvT hZ (hw _ (List.mem_of_getElem? (i := 9) rfl))) rfl (hb hby d2_40) (XS.dmulS X0.here hx rfl (hb hby d2_43) rfl (own_nn Dq54) hd54 (XS.dstore X0.here hx rfl (hb hby d2_44) rfl (l' := #[sR o0, sI (3 : Int32), sR o0, sI (0 : Int32), sR o0, sI (1 : Int32), sR o0, sI (2 : Int32), sD uc, uS, sD us, uS, sD u0_3, uS, sD u0_0, uS, sD u0_1, uS, sD u0_2, uS, sD d52, uS, sD d54, uS, uU, uU, uU, uU, uU, uU, uU, uU]) rfl (XS.dload X0.here hx rfl (hb hby d2_46) rfl (XS.dload X0.here hx rfl (hb hby d2_48) rfl (XS.daddS X0.here hx rfl (hb hby d2_50) rfl (own_nn Dq55) hd55 (own_ldcD X0 hx hown (mvT hZ (hw _ (List.mem_of_getElem? (i := 9) rfl))) rfl (hb hby d2_51) k)))))))) ?_
  show OwnGo _ _ _ _ (s₁.setTop (mkF m 54 #[sR o0, sI (3 : Int32), sR o0, sI (0 : Int32), sR o0, sI (1 : Int32), sR o0, sI (2 : Int32), sD uc, uS, sD us, uS, sD u0_3, uS, sD u0_0, uS, sD u0_1, uS, sD u0_2, uS, sD d52, uS, sD d54, uS, uU, uU, uU, uU, uU, uU, uU, uU] [(.double (4602678819172646912 : UInt64)), (.double d55)]))
  obtain ⟨j56, hj56⟩ : ∃ i : Int, i = j55 * (1 : Int) := ⟨_, rfl⟩
  have B56 : -2097152 ≤ j56 ∧ j56 ≤ 2097152 := by rw [hj56]; exact own_bd_mul B55 own_b1 (by decide)
  have Dq56 : OwnDS (-1) j56 (FP.dmul d55 (4602678819172646912 : UInt64)) := by rw [hj56]; have q := own_ds_mul (n := 53) D55 own_half (own_bd_nat (C := 2097152) (own_bd_mul B55 own_b1 (by decide)) (by decide)); exact q
  obtain ⟨d56, hd56⟩ : ∃ v, FP.dmul d55 (4602678819172646912 : UInt64) = v := ⟨_, rfl⟩
  have D56 : OwnDS (-1) j56 d56 := by rw [← hd56]; exact Dq56
  have Dq57 : OwnDS 0 (i0_1 - i0_3) (FP.dsub u0_1 u0_3) := own_ds_sub (n := 53) Du0_1 Du0_3 (own_bd_nat (C := 2097152) (own_bd_sub Bu0_1 Bu0_3 (by decide)) (by decide))
  obtain ⟨d57, hd57⟩ : ∃ v, FP.dsub u0_1 u0_3 = v := ⟨_, rfl⟩
  obtain ⟨j57, hj57⟩ : ∃ i : Int, i = i0_1 - i0_3 := ⟨_, rfl⟩
  have B57 : -2097152 ≤ j57 ∧ j57 ≤ 2097152 := by rw [hj57]; exact own_bd_sub Bu0_1 Bu0_3 (by decide)
  have D57 : OwnDS 0 j57 d57 := by rw [hj57, ← hd57]; exact Dq57
  obtain ⟨j58, hj58⟩ : ∃ i : Int, i = j57 * (1 : Int) := ⟨_, rfl⟩
  have B58 : -2097152 ≤ j58 ∧ j58 ≤ 2097152 := by rw [hj58]; exact own_bd_mul B57 own_b1 (by decide)
  have Dq58 : OwnDS (-1) j58 (FP.dmul d57 (4602678819172646912 : UInt64)) := by rw [hj58]; have q := own_ds_mul (n := 53) D57 own_half (own_bd_nat (C := 2097152) (own_bd_mul B57 own_b1 (by decide)) (by decide)); exact q
  obtain ⟨d58, hd58⟩ : ∃ v, FP.dmul d57 (4602678819172646912 : UInt64) = v := ⟨_, rfl⟩
  have D58 : OwnDS (-1) j58 d58 := by rw [← hd58]; exact Dq58
  refine OwnGo.pre (fun t k => XS.dmulS X0.here hx rfl (hb hby d2_54) rfl (own_nn Dq56) hd56 (XS.dstore X0.here hx rfl (hb hby d2_55) rfl (l' := #[sR o0, sI (3 : Int32), sR o0, sI (0 : Int32), sR o0, sI (1 : Int32), sR o0, sI (2 : Int32), sD uc, uS, sD us, uS, sD u0_3, uS, sD u0_0, uS, sD u0_1, uS, sD u0_2, uS, sD d52, uS, sD d54, uS, sD d56, uS, uU, uU, uU, uU, uU, uU]) rfl (XS.dload X0.here hx rfl (hb hby d2_57) rfl (XS.dload X0.here hx rfl (hb hby d2_59) rfl (XS.dsubS X0.here hx rfl (hb hby d2_61) rfl (own_nn Dq57) hd57 (own_ldcD X0 hx hown (mvT hZ (hw _ (List.mem_of_getElem? (i := 9) rfl))) rfl (hb hby d2_62) (XS.dmulS X0.here hx rfl (hb hby d2_65) rfl (own_nn Dq58) hd58 (XS.dstore X0.here hx rfl (hb hby d2_66) rfl (l' := #[sR o0, sI (3 : Int32), sR o0, sI (0 : Int32), sR o0, sI (1 : Int32), sR o0, sI (2 : Int32), sD uc, uS, sD us, uS, sD u0_3, uS, sD u0_0, uS, sD u0_1, uS, sD u0_2, uS, sD d52, uS, sD d54, uS, sD d56, uS, sD d58, uS, uU, uU, uU, uU]) rfl k)))))))) ?_
  show OwnGo _ _ _ _ (s₁.setTop (mkF m 68 #[sR o0, sI (3 : Int32), sR o0, sI (0 : Int32), sR o0, sI (1 : Int32), sR o0, sI (2 : Int32), sD uc, uS, sD us, uS, sD u0_3, uS, sD u0_0, uS, sD u0_1, uS, sD u0_2, uS, sD d52, uS, sD d54, uS, sD d56, uS, sD d58, uS, uU, uU, uU, uU] []))
  obtain ⟨j59, hj59⟩ : ∃ i : Int, i = ic * j56 := ⟨_, rfl⟩
  have B59 : -2199023255552 ≤ j59 ∧ j59 ≤ 2199023255552 := by rw [hj59]; exact own_bd_mul Buc B56 (by decide)
  have Dq59 : OwnDS (-1) j59 (FP.dmul uc d56) := by rw [hj59]; have q := own_ds_mul (n := 53) Duc D56 (own_bd_nat (C := 2199023255552) (own_bd_mul Buc B56 (by decide)) (by decide)); exact q
  obtain ⟨d59, hd59⟩ : ∃ v, FP.dmul uc d56 = v := ⟨_, rfl⟩
  have D59 : OwnDS (-1) j59 d59 := by rw [← hd59]; exact Dq59
  obtain ⟨j60, hj60⟩ : ∃ i : Int, i = is * j58 := ⟨_, rfl⟩
  have B60 : -2199023255552 ≤ j60 ∧ j60 ≤ 2199023255552 := by rw [hj60]; exact own_bd_mul Bus B58 (by decide)
  have Dq60 : OwnDS (-1) j60 (FP.dmul us d58) := by rw [hj60]; have q := own_ds_mul (n := 53) Dus D58 (own_bd_nat (C := 2199023255552) (own_bd_mul Bus B58 (by decide)) (by decide)); exact q
  obtain ⟨d60, hd60⟩ : ∃ v, FP.dmul us d58 = v := ⟨_, rfl⟩
  have D60 : OwnDS (-1) j60 d60 := by rw [← hd60]; exact Dq60
  have Dq61 : OwnDS (-1) (j59 + j60) (FP.dadd d59 d60) := own_ds_add (n := 53) D59 D60 (own_bd_nat (C := 4398046511104) (own_bd_add B59 B60 (by decide)) (by decide))
  obtain ⟨d61, hd61⟩ : ∃ v, FP.dadd d59 d60 = v := ⟨_, rfl⟩
  obtain ⟨j61, hj61⟩ : ∃ i : Int, i = j59 + j60 := ⟨_, rfl⟩
  have B61 : -4398046511104 ≤ j61 ∧ j61 ≤ 4398046511104 := by rw [hj61]; exact own_bd_add B59 B60 (by decide)
  have D61 : OwnDS (-1) j61 d61 := by rw [hj61, ← hd61]; exact Dq61
  refine OwnGo.pre (fun t k => XS.dload X0.here hx rfl (hb hby d2_68) rfl (XS.dload X0.here hx rfl (hb hby d2_70) rfl (XS.dmulS X0.here hx rfl (hb hby d2_72) rfl (own_nn Dq59) hd59 (XS.dload X0.here hx rfl (hb hby d2_73) rfl (XS.dload X0.here hx rfl (hb hby d2_75) rfl (XS.dmulS X0.here hx rfl (hb hby d2_77) rfl (own_nn Dq60) hd60 (XS.daddS X0.here hx rfl (hb hby d2_78) rfl (own_nn Dq61) hd61 (XS.dstore X0.here hx rfl (hb hby d2_79) rfl (l' := #[sR o0, sI (3 : Int32), sR o0, sI (0 : Int32), sR o0, sI (1 : Int32), sR o0, sI (2 : Int32), sD uc, uS, sD us, uS, sD u0_3, uS, sD u0_0, uS, sD u0_1, uS, sD u0_2, uS, sD d52, uS, sD d54, uS, sD d56, uS, sD d58, uS, sD d61, uS, uU, uU]) rfl k)))))))) ?_
  show OwnGo _ _ _ _ (s₁.setTop (mkF m 81 #[sR o0, sI (3 : Int32), sR o0, sI (0 : Int32), sR o0, sI (1 : Int32), sR o0, sI (2 : Int32), sD uc, uS, sD us, uS, sD u0_3, uS, sD u0_0, uS, sD u0_1, uS, sD u0_2, uS, sD d52, uS, sD d54, uS, sD d56, uS, sD d58, uS, sD d61, uS, uU, uU] []))
  obtain ⟨j62, hj62⟩ : ∃ i : Int, i = ic * j58 := ⟨_, rfl⟩
  have B62 : -2199023255552 ≤ j62 ∧ j62 ≤ 2199023255552 := by rw [hj62]; exact own_bd_mul Buc B58 (by decide)
  have Dq62 : OwnDS (-1) j62 (FP.dmul uc d58) := by rw [hj62]; have q := own_ds_mul (n := 53) Duc D58 (own_bd_nat (C := 2199023255552) (own_bd_mul Buc B58 (by decide)) (by decide)); exact q
  obtain ⟨d62, hd62⟩ : ∃ v, FP.dmul uc d58 = v := ⟨_, rfl⟩
  have D62 : OwnDS (-1) j62 d62 := by rw [← hd62]; exact Dq62
  obtain ⟨j63, hj63⟩ : ∃ i : Int, i = is * j56 := ⟨_, rfl⟩
  have B63 : -2199023255552 ≤ j63 ∧ j63 ≤ 2199023255552 := by rw [hj63]; exact own_bd_mul Bus B56 (by decide)
  have Dq63 : OwnDS (-1) j63 (FP.dmul us d56) := by rw [hj63]; have q := own_ds_mul (n := 53) Dus D56 (own_bd_nat (C := 2199023255552) (own_bd_mul Bus B56 (by decide)) (by decide)); exact q
  obtain ⟨d63, hd63⟩ : ∃ v, FP.dmul us d56 = v := ⟨_, rfl⟩
  have D63 : OwnDS (-1) j63 d63 := by rw [← hd63]; exact Dq63
  have Dq64 : OwnDS (-1) (j62 - j63) (FP.dsub d62 d63) := own_ds_sub (n := 53) D62 D63 (own_bd_nat (C := 4398046511104) (own_bd_sub B62 B63 (by decide)) (by decide))
  obtain ⟨d64, hd64⟩ : ∃ v, FP.dsub d62 d63 = v := ⟨_, rfl⟩
  obtain ⟨j64, hj64⟩ : ∃ i : Int, i = j62 - j63 := ⟨_, rfl⟩
  have B64 : -4398046511104 ≤ j64 ∧ j64 ≤ 4398046511104 := by rw [hj64]; exact own_bd_sub B62 B63 (by decide)
  have D64 : OwnDS (-1) j64 d64 := by rw [hj64, ← hd64]; exact Dq64
  refine OwnGo.pre (fun t k => XS.dload X0.here hx rfl (hb hby d2_81) rfl (XS.dload X0.here hx rfl (hb hby d2_83) rfl (XS.dmulS X0.here hx rfl (hb hby d2_85) rfl (own_nn Dq62) hd62 (XS.dload X0.here hx rfl (hb hby d2_86) rfl (XS.dload X0.here hx rfl (hb hby d2_88) rfl (XS.dmulS X0.here hx rfl (hb hby d2_90) rfl (own_nn Dq63) hd63 (XS.dsubS X0.here hx rfl (hb hby d2_91) rfl (own_nn Dq64) hd64 (XS.dstore X0.here hx rfl (hb hby d2_92) rfl (l' := #[sR o0, sI (3 : Int32), sR o0, sI (0 : Int32), sR o0, sI (1 : Int32), sR o0, sI (2 : Int32), sD uc, uS, sD us, uS, sD u0_3, uS, sD u0_0, uS, sD u0_1, uS, sD u0_2, uS, sD d52, uS, sD d54, uS, sD d56, uS, sD d58, uS, sD d61, uS, sD d64, uS]) rfl k)))))))) ?_
  show OwnGo _ _ _ _ (s₁.setTop (mkF m 94 #[sR o0, sI (3 : Int32), sR o0, sI (0 : Int32), sR o0, sI (1 : Int32), sR o0, sI (2 : Int32), sD uc, uS, sD us, uS, sD u0_3, uS, sD u0_0, uS, sD u0_1, uS, sD u0_2, uS, sD d52, uS, sD d54, uS, sD d56, uS, sD d58, uS, sD d61, uS, sD d64, uS] []))
  have Dq65 : OwnDS (-1) (j52 + j61) (FP.dadd d52 d61) := own_ds_add (n := 53) D52 D61 (own_bd_nat (C := 4398048608256) (own_bd_add B52 B61 (by decide)) (by decide))
  obtain ⟨d65, hd65⟩ : ∃ v, FP.dadd d52 d61 = v := ⟨_, rfl⟩
  obtain ⟨j65, hj65⟩ : ∃ i : Int, i = j52 + j61 := ⟨_, rfl⟩
  have B65 : -4398048608256 ≤ j65 ∧ j65 ≤ 4398048608256 := by rw [hj65]; exact own_bd_add B52 B61 (by decide)
  have D65 : OwnDS (-1) j65 d65 := by rw [hj65, ← hd65]; exact Dq65
  refine OwnGo.pre (fun t k => XS.aloadN X0.here hx rfl (hb hby d2_94) rfl rfl (XS.iloadN X0.here hx rfl (hb hby d2_95) rfl (XS.dload X0.here hx rfl (hb hby d2_96) rfl (XS.dload X0.here hx rfl (hb hby d2_98) rfl (XS.daddS X0.here hx rfl (hb hby d2_100) rfl (own_nn Dq65) hd65 k))))) ?_
  show OwnGo _ _ _ _ (s₁.setTop (mkF m 101 #[sR o0, sI (3 : Int32), sR o0, sI (0 : Int32), sR o0, sI (1 : Int32), sR o0, sI (2 : Int32), sD uc, uS, sD us, uS, sD u0_3, uS, sD u0_0, uS, sD u0_1, uS, sD u0_2, uS, sD d52, uS, sD d54, uS, sD d56, uS, sD d58, uS, sD d61, uS, sD d64, uS] [(.double d65), (.int (3 : Int32)), (.ref o0)]))
  obtain ⟨T66, h66, X66, e66, W66, A66, st66⟩ := own_daS X0 hx hZ e0 Ao0 (by decide) (i := 3) (by decide) (by show 3 < 4; decide) (g := (mkF m 101 #[sR o0, sI (3 : Int32), sR o0, sI (0 : Int32), sR o0, sI (1 : Int32), sR o0, sI (2 : Int32), sD uc, uS, sD us, uS, sD u0_3, uS, sD u0_0, uS, sD u0_1, uS, sD u0_2, uS, sD d52, uS, sD d54, uS, sD d56, uS, sD d58, uS, sD d61, uS, sD d64, uS] [(.double d65), (.int (3 : Int32)), (.ref o0)])) rfl rfl (hb hby d2_101)
  have A66n : OwnDA Z h66 o0 [u0_0, u0_1, u0_2, d65] := A66
  have N66 := Fr.snoc X66 N0 go0
  have P66 := (Keep.refl h0 [o0]).wr W66 (Or.inl (List.mem_of_getElem? (i := 0) rfl))
  have Z66 : n0 ≤ h66.size := by rw [W66.size]; exact Z0
  refine OwnGo.pre (fun t k => st66 t k) ?_
  show OwnGo _ _ _ _ (T66.setTop (mkF m 102 #[sR o0, sI (3 : Int32), sR o0, sI (0 : Int32), sR o0, sI (1 : Int32), sR o0, sI (2 : Int32), sD uc, uS, sD us, uS, sD u0_3, uS, sD u0_0, uS, sD u0_1, uS, sD u0_2, uS, sD d52, uS, sD d54, uS, sD d56, uS, sD d58, uS, sD d61, uS, sD d64, uS] []))
  have Dq67 : OwnDS (-1) (j54 + j64) (FP.dadd d54 d64) := own_ds_add (n := 53) D54 D64 (own_bd_nat (C := 4398048608256) (own_bd_add B54 B64 (by decide)) (by decide))
  obtain ⟨d67, hd67⟩ : ∃ v, FP.dadd d54 d64 = v := ⟨_, rfl⟩
  obtain ⟨j67, hj67⟩ : ∃ i : Int, i = j54 + j64 := ⟨_, rfl⟩
  have B67 : -4398048608256 ≤ j67 ∧ j67 ≤ 4398048608256 := by rw [hj67]; exact own_bd_add B54 B64 (by decide)
  have D67 : OwnDS (-1) j67 d67 := by rw [hj67, ← hd67]; exact Dq67
  refine OwnGo.pre (fun t k => XS.aloadN X66.here hx rfl (hb hby d2_102) rfl rfl (XS.iloadN X66.here hx rfl (hb hby d2_103) rfl (XS.dload X66.here hx rfl (hb hby d2_104) rfl (XS.dload X66.here hx rfl (hb hby d2_106) rfl (XS.daddS X66.here hx rfl (hb hby d2_108) rfl (own_nn Dq67) hd67 k))))) ?_
  show OwnGo _ _ _ _ (T66.setTop (mkF m 109 #[sR o0, sI (3 : Int32), sR o0, sI (0 : Int32), sR o0, sI (1 : Int32), sR o0, sI (2 : Int32), sD uc, uS, sD us, uS, sD u0_3, uS, sD u0_0, uS, sD u0_1, uS, sD u0_2, uS, sD d52, uS, sD d54, uS, sD d56, uS, sD d58, uS, sD d61, uS, sD d64, uS] [(.double d67), (.int (0 : Int32)), (.ref o0)]))
  obtain ⟨T68, h68, X68, e68, W68, A68, st68⟩ := own_daS X66 hx hZ e66 A66n (by decide) (i := 0) (by decide) (by show 0 < 4; decide) (g := (mkF m 109 #[sR o0, sI (3 : Int32), sR o0, sI (0 : Int32), sR o0, sI (1 : Int32), sR o0, sI (2 : Int32), sD uc, uS, sD us, uS, sD u0_3, uS, sD u0_0, uS, sD u0_1, uS, sD u0_2, uS, sD d52, uS, sD d54, uS, sD d56, uS, sD d58, uS, sD d61, uS, sD d64, uS] [(.double d67), (.int (0 : Int32)), (.ref o0)])) rfl rfl (hb hby d2_109)
  have A68n : OwnDA Z h68 o0 [d67, u0_1, u0_2, d65] := A68
  have N68 := Fr.snoc X68 N66 go0
  have P68 := P66.wr W68 (Or.inl (List.mem_of_getElem? (i := 0) rfl))
  have Z68 : n0 ≤ h68.size := by rw [W68.size]; exact Z66
  refine OwnGo.pre (fun t k => st68 t k) ?_
  show OwnGo _ _ _ _ (T68.setTop (mkF m 110 #[sR o0, sI (3 : Int32), sR o0, sI (0 : Int32), sR o0, sI (1 : Int32), sR o0, sI (2 : Int32), sD uc, uS, sD us, uS, sD u0_3, uS, sD u0_0, uS, sD u0_1, uS, sD u0_2, uS, sD d52, uS, sD d54, uS, sD d56, uS, sD d58, uS, sD d61, uS, sD d64, uS] []))
  have Dq69 : OwnDS (-1) (j52 - j61) (FP.dsub d52 d61) := own_ds_sub (n := 53) D52 D61 (own_bd_nat (C := 4398048608256) (own_bd_sub B52 B61 (by decide)) (by decide))
  obtain ⟨d69, hd69⟩ : ∃ v, FP.dsub d52 d61 = v := ⟨_, rfl⟩
  obtain ⟨j69, hj69⟩ : ∃ i : Int, i = j52 - j61 := ⟨_, rfl⟩
  have B69 : -4398048608256 ≤ j69 ∧ j69 ≤ 4398048608256 := by rw [hj69]; exact own_bd_sub B52 B61 (by decide)
  have D69 : OwnDS (-1) j69 d69 := by rw [hj69, ← hd69]; exact Dq69
  refine OwnGo.pre (fun t k => XS.aload X68.here hx rfl (hb hby d2_110) rfl rfl (XS.iload X68.here hx rfl (hb hby d2_112) rfl (XS.dload X68.here hx rfl (hb hby d2_114) rfl (XS.dload X68.here hx rfl (hb hby d2_116) rfl (XS.dsubS X68.here hx rfl (hb hby d2_118) rfl (own_nn Dq69) hd69 k))))) ?_
  show OwnGo _ _ _ _ (T68.setTop (mkF m 119 #[sR o0, sI (3 : Int32), sR o0, sI (0 : Int32), sR o0, sI (1 : Int32), sR o0, sI (2 : Int32), sD uc, uS, sD us, uS, sD u0_3, uS, sD u0_0, uS, sD u0_1, uS, sD u0_2, uS, sD d52, uS, sD d54, uS, sD d56, uS, sD d58, uS, sD d61, uS, sD d64, uS] [(.double d69), (.int (1 : Int32)), (.ref o0)]))
  obtain ⟨T70, h70, X70, e70, W70, A70, st70⟩ := own_daS X68 hx hZ e68 A68n (by decide) (i := 1) (by decide) (by show 1 < 4; decide) (g := (mkF m 119 #[sR o0, sI (3 : Int32), sR o0, sI (0 : Int32), sR o0, sI (1 : Int32), sR o0, sI (2 : Int32), sD uc, uS, sD us, uS, sD u0_3, uS, sD u0_0, uS, sD u0_1, uS, sD u0_2, uS, sD d52, uS, sD d54, uS, sD d56, uS, sD d58, uS, sD d61, uS, sD d64, uS] [(.double d69), (.int (1 : Int32)), (.ref o0)])) rfl rfl (hb hby d2_119)
  have A70n : OwnDA Z h70 o0 [d67, d69, u0_2, d65] := A70
  have N70 := Fr.snoc X70 N68 go0
  have P70 := P68.wr W70 (Or.inl (List.mem_of_getElem? (i := 0) rfl))
  have Z70 : n0 ≤ h70.size := by rw [W70.size]; exact Z68
  refine OwnGo.pre (fun t k => st70 t k) ?_
  show OwnGo _ _ _ _ (T70.setTop (mkF m 120 #[sR o0, sI (3 : Int32), sR o0, sI (0 : Int32), sR o0, sI (1 : Int32), sR o0, sI (2 : Int32), sD uc, uS, sD us, uS, sD u0_3, uS, sD u0_0, uS, sD u0_1, uS, sD u0_2, uS, sD d52, uS, sD d54, uS, sD d56, uS, sD d58, uS, sD d61, uS, sD d64, uS] []))
  have Dq71 : OwnDS (-1) (j64 - j54) (FP.dsub d64 d54) := own_ds_sub (n := 53) D64 D54 (own_bd_nat (C := 4398048608256) (own_bd_sub B64 B54 (by decide)) (by decide))
  obtain ⟨d71, hd71⟩ : ∃ v, FP.dsub d64 d54 = v := ⟨_, rfl⟩
  obtain ⟨j71, hj71⟩ : ∃ i : Int, i = j64 - j54 := ⟨_, rfl⟩
  have B71 : -4398048608256 ≤ j71 ∧ j71 ≤ 4398048608256 := by rw [hj71]; exact own_bd_sub B64 B54 (by decide)
  have D71 : OwnDS (-1) j71 d71 := by rw [hj71, ← hd71]; exact Dq71
  refine OwnGo.pre (fun t k => XS.aload X70.here hx rfl (hb hby d2_120) rfl rfl (XS.iload X70.here hx rfl (hb hby d2_122) rfl (XS.dload X70.here hx rfl (hb hby d2_124) rfl (XS.dload X70.here hx rfl (hb hby d2_126) rfl (XS.dsubS X70.here hx rfl (hb hby d2_128) rfl (own_nn Dq71) hd71 k))))) ?_
  show OwnGo _ _ _ _ (T70.setTop (mkF m 129 #[sR o0, sI (3 : Int32), sR o0, sI (0 : Int32), sR o0, sI (1 : Int32), sR o0, sI (2 : Int32), sD uc, uS, sD us, uS, sD u0_3, uS, sD u0_0, uS, sD u0_1, uS, sD u0_2, uS, sD d52, uS, sD d54, uS, sD d56, uS, sD d58, uS, sD d61, uS, sD d64, uS] [(.double d71), (.int (2 : Int32)), (.ref o0)]))
  obtain ⟨T72, h72, X72, e72, W72, A72, st72⟩ := own_daS X70 hx hZ e70 A70n (by decide) (i := 2) (by decide) (by show 2 < 4; decide) (g := (mkF m 129 #[sR o0, sI (3 : Int32), sR o0, sI (0 : Int32), sR o0, sI (1 : Int32), sR o0, sI (2 : Int32), sD uc, uS, sD us, uS, sD u0_3, uS, sD u0_0, uS, sD u0_1, uS, sD u0_2, uS, sD d52, uS, sD d54, uS, sD d56, uS, sD d58, uS, sD d61, uS, sD d64, uS] [(.double d71), (.int (2 : Int32)), (.ref o0)])) rfl rfl (hb hby d2_129)
  have A72n : OwnDA Z h72 o0 [d67, d69, d71, d65] := A72
  have N72 := Fr.snoc X72 N70 go0
  have P72 := P70.wr W72 (Or.inl (List.mem_of_getElem? (i := 0) rfl))
  have Z72 : n0 ≤ h72.size := by rw [W72.size]; exact Z70
  refine OwnGo.pre (fun t k => st72 t k) ?_
  show OwnGo _ _ _ _ (T72.setTop (mkF m 130 #[sR o0, sI (3 : Int32), sR o0, sI (0 : Int32), sR o0, sI (1 : Int32), sR o0, sI (2 : Int32), sD uc, uS, sD us, uS, sD u0_3, uS, sD u0_0, uS, sD u0_1, uS, sD u0_2, uS, sD d52, uS, sD d54, uS, sD d56, uS, sD d58, uS, sD d61, uS, sD d64, uS] []))
  rw [← e72] at A72n Z72 P72
  exact own_ret0 X72 hx hk hrt (hb hby d2_130) ⟨_, _, _, _, rfl, ((by simp only [hj67, hj54, hj53, hj64, hj62, hj58, hj57, hj63, hj56, hj55] : j67 = (((i0_0 - i0_2) * (1 : Int)) + ((ic * ((i0_1 - i0_3) * (1 : Int))) - (is * ((i0_0 + i0_2) * (1 : Int)))))) ▸ D67), ((by simp only [hj67, hj54, hj53, hj64, hj62, hj58, hj57, hj63, hj56, hj55] : j67 = (((i0_0 - i0_2) * (1 : Int)) + ((ic * ((i0_1 - i0_3) * (1 : Int))) - (is * ((i0_0 + i0_2) * (1 : Int)))))) ▸ B67), ((by simp only [hj69, hj52, hj51, hj61, hj59, hj56, hj55, hj60, hj58, hj57] : j69 = (((i0_3 + i0_1) * (1 : Int)) - ((ic * ((i0_0 + i0_2) * (1 : Int))) + (is * ((i0_1 - i0_3) * (1 : Int)))))) ▸ D69), ((by simp only [hj69, hj52, hj51, hj61, hj59, hj56, hj55, hj60, hj58, hj57] : j69 = (((i0_3 + i0_1) * (1 : Int)) - ((ic * ((i0_0 + i0_2) * (1 : Int))) + (is * ((i0_1 - i0_3) * (1 : Int)))))) ▸ B69), ((by simp only [hj71, hj64, hj62, hj58, hj57, hj63, hj56, hj55, hj54, hj53] : j71 = (((ic * ((i0_1 - i0_3) * (1 : Int))) - (is * ((i0_0 + i0_2) * (1 : Int)))) - ((i0_0 - i0_2) * (1 : Int)))) ▸ D71), ((by simp only [hj71, hj64, hj62, hj58, hj57, hj63, hj56, hj55, hj54, hj53] : j71 = (((ic * ((i0_1 - i0_3) * (1 : Int))) - (is * ((i0_0 + i0_2) * (1 : Int)))) - ((i0_0 - i0_2) * (1 : Int)))) ▸ B71), ((by simp only [hj65, hj52, hj51, hj61, hj59, hj56, hj55, hj60, hj58, hj57] : j65 = (((i0_3 + i0_1) * (1 : Int)) + ((ic * ((i0_0 + i0_2) * (1 : Int))) + (is * ((i0_1 - i0_3) * (1 : Int)))))) ▸ D65), ((by simp only [hj65, hj52, hj51, hj61, hj59, hj56, hj55, hj60, hj58, hj57] : j65 = (((i0_3 + i0_1) * (1 : Int)) + ((ic * ((i0_0 + i0_2) * (1 : Int))) + (is * ((i0_1 - i0_3) * (1 : Int)))))) ▸ B65), A72n, P72, N72, Z72⟩ (by decide) (by decide)
theorem pn_rmK3 : plainName "com/example/isochron/isochron/dsp/Fourier" = true := by first | (simp [plainName, overriddenIn]; done) | decide +kernel
theorem pd_rmK3 : parseMethodDescriptor "([DI[DI[DI[DIDD)V" = some ⟨[(.array .double), .int, (.array .double), .int, (.array .double), .int, (.array .double), .int, .double, .double], none⟩ := by decide +kernel
theorem ef_rmK3 (m : MethodId) (o0 : Addr) (u0_0 u0_1 u0_2 u0_3 uc us : UInt64) (i0_0 i0_1 ic is : Int) : entryFrame m #[(.ref o0), (.int (0 : Int32)), (.ref o0), (.int (1 : Int32)), (.ref o0), (.int (0 : Int32)), (.ref o0), (.int (1 : Int32)), (.double uc), (.double us)] 32 = (mkF m 0 #[sR o0, sI (0 : Int32), sR o0, sI (1 : Int32), sR o0, sI (0 : Int32), sR o0, sI (1 : Int32), sD uc, uS, sD us, uS, uU, uU, uU, uU, uU, uU, uU, uU, uU, uU, uU, uU, uU, uU, uU, uU, uU, uU, uU, uU] []) := by first | (simp [entryFrame, mkF, argsToLocals, Value.category, maxLocals]; done) | rfl
def Q_rmK3 (Z : State) (o0 : Addr) (u0_0 u0_1 u0_2 u0_3 uc us : UInt64) (i0_0 i0_1 ic is : Int) (h0 : Heap) (n0 : Nat) (v : Option Value) (h : Heap) (L : List Loc) : Prop := ∃ ro0_0 ro0_1 : UInt64, v = none ∧ OwnDS (-1) (((i0_0 + i0_0) * (1 : Int)) - ((ic * ((i0_1 + i0_1) * (1 : Int))) + (is * ((i0_0 - i0_0) * (1 : Int))))) ro0_0 ∧ (-4398048608256 ≤ (((i0_0 + i0_0) * (1 : Int)) - ((ic * ((i0_1 + i0_1) * (1 : Int))) + (is * ((i0_0 - i0_0) * (1 : Int))))) ∧ (((i0_0 + i0_0) * (1 : Int)) - ((ic * ((i0_1 + i0_1) * (1 : Int))) + (is * ((i0_0 - i0_0) * (1 : Int))))) ≤ 4398048608256) ∧ OwnDS (-1) (((ic * ((i0_0 - i0_0) * (1 : Int))) - (is * ((i0_1 + i0_1) * (1 : Int)))) - ((i0_1 - i0_1) * (1 : Int))) ro0_1 ∧ (-4398048608256 ≤ (((ic * ((i0_0 - i0_0) * (1 : Int))) - (is * ((i0_1 + i0_1) * (1 : Int)))) - ((i0_1 - i0_1) * (1 : Int))) ∧ (((ic * ((i0_0 - i0_0) * (1 : Int))) - (is * ((i0_1 + i0_1) * (1 : Int)))) - ((i0_1 - i0_1) * (1 : Int))) ≤ 4398048608256) ∧ OwnDA Z h o0 [ro0_0, ro0_1, u0_2, u0_3] ∧ Keep h0 h [o0] ∧ Fr n0 L ∧ n0 ≤ h.size
set_option maxRecDepth 65536 in
set_option maxHeartbeats 40000000 in
theorem rmK3 (l : Launch) (Z : State) (a0 : Array Value) (hw : ∀ d ∈ tables_1, d.before a0 Z = true) (ws : List Jvm.Cond) (o0 : Addr) (u0_0 u0_1 u0_2 u0_3 uc us : UInt64) (i0_0 i0_1 ic is : Int) (h0 : Heap) (n0 : Nat) (Z0 : n0 ≤ h0.size) (Ao0 : OwnDA Z h0 o0 [u0_0, u0_1, u0_2, u0_3])  (go0 : n0 ≤ o0) (Du0_0 : OwnDS 0 i0_0 u0_0) (Bu0_0 : -1048576 ≤ i0_0 ∧ i0_0 ≤ 1048576) (Du0_1 : OwnDS 0 i0_1 u0_1) (Bu0_1 : -1048576 ≤ i0_1 ∧ i0_1 ≤ 1048576) (Duc : OwnDS 0 ic uc) (Buc : -1048576 ≤ ic ∧ ic ≤ 1048576) (Dus : OwnDS 0 is us) (Bus : -1048576 ≤ is ∧ is ≤ 1048576) :
    MetFree l (⟨"com/example/isochron/isochron/dsp/Fourier", "separate", "([DI[DI[DI[DIDD)V"⟩ : MethodName) (head1 (Jvm.Cond.code (⟨"com/example/isochron/isochron/dsp/Fourier", "separate", "([DI[DI[DI[DIDD)V"⟩ : MethodName) prog_161_method_20_code 32 none :: ws) ({ frames := 0, cells := 0, slots := 0, locals := 0 } : Room)) (fun a U => a = #[(.ref o0), (.int (0 : Int32)), (.ref o0), (.int (1 : Int32)), (.ref o0), (.int (0 : Int32)), (.ref o0), (.int (1 : Int32)), (.double uc), (.double us)] ∧ Z.Warmed39 U.vm ∧ U.heap = h0) (fun _ _ _ _ _ => True) (fun _ U oO U' => ∃ v L, oO = .returned v ∧ Q_rmK3 Z o0 u0_0 u0_1 u0_2 u0_3 uc us i0_0 i0_1 ic is h0 n0 v U'.heap L ∧ FrameEnd U oO U' L ({ frames := 0, cells := 0, slots := 0, locals := 0 } : Room).cells ({ frames := 0, cells := 0, slots := 0, locals := 0 } : Room).slots) := by
  refine MetFree.of_bodySF (plainFor_of_name pn_rmK3) hisR ?_
  intro p e s m args below meth c s₁ Bd hml0 hP hK
  obtain ⟨rfl, hZ, hh⟩ := hP
  have hx := Bd.exec
  have hby := Bd.bytes
  have hml : c.maxLocals = 32 := hml0
  have hown : s.vm.findClass "com/example/isochron/isochron/dsp/Fourier" = some m.cls := findClass_of_methodNamed Bd.named
  have hnm := (name_of_methodNamed Bd.named Bd.method).1
  have hk := Bd.notSynchronized
  have hrt := Bd.returns
  have X0 : Stand p l e ({ frames := 0, cells := 0, slots := 0, locals := 0 } : Room) s m #[(.ref o0), (.int (0 : Int32)), (.ref o0), (.int (1 : Int32)), (.ref o0), (.int (0 : Int32)), (.ref o0), (.int (1 : Int32)), (.double uc), (.double us)] below meth c s₁ [] 0 0 := Stand.of_body Bd
  have e0 : s₁.heap = h0 := by rw [← hh, Bd.state]; rfl
  have N0 := Fr.nil n0
  show OwnGo p.tables e below (OwnEnd s (Q_rmK3 Z o0 u0_0 u0_1 u0_2 u0_3 uc us i0_0 i0_1 ic is h0 n0) ({ frames := 0, cells := 0, slots := 0, locals := 0 } : Room).cells ({ frames := 0, cells := 0, slots := 0, locals := 0 } : Room).slots) _
  refine OwnGo.pre (fun t k => castTop (ef_rmK3 m o0 u0_0 u0_1 u0_2 u0_3 uc us i0_0 i0_1 ic is) k) ?_
  show OwnGo _ _ _ _ (s₁.setTop (mkF m 0 #[sR o0, sI (0 : Int32), sR o0, sI (1 : Int32), sR o0, sI (0 : Int32), sR o0, sI (1 : Int32), sD uc, uS, sD us, uS, uU, uU, uU, uU, uU, uU, uU, uU, uU, uU, uU, uU, uU, uU, uU, uU, uU, uU, uU, uU] []))
  refine OwnGo.pre (fun t k => XS.aloadN X0.here hx rfl (hb hby d2_0) rfl rfl (XS.iloadN X0.here hx rfl (hb hby d2_1) rfl (own_daL X0 hx hZ e0 Ao0 (j := (0 : Int32)) (by decide) (i := 0) (by decide) (x := u0_0) rfl (g := (mkF m 2 #[sR o0, sI (0 : Int32), sR o0, sI (1 : Int32), sR o0, sI (0 : Int32), sR o0, sI (1 : Int32), sD uc, uS, sD us, uS, uU, uU, uU, uU, uU, uU, uU, uU, uU, uU, uU, uU, uU, uU, uU, uU, uU, uU, uU, uU] [(.int (0 : Int32)), (.ref o0)])) rfl (rest := []) rfl (hb hby d2_2) (XS.dstore X0.here hx rfl (hb hby d2_3) rfl (l' := #[sR o0, sI (0 : Int32), sR o0, sI (1 : Int32), sR o0, sI (0 : Int32), sR o0, sI (1 : Int32), sD uc, uS, sD us, uS, sD u0_0, uS, uU, uU, uU, uU, uU, uU, uU, uU, uU, uU, uU, uU, uU, uU, uU, uU, uU, uU]) rfl (XS.aloadN X0.here hx rfl (hb hby d2_5) rfl rfl (XS.iloadN X0.here hx rfl (hb hby d2_6) rfl (own_daL X0 hx hZ e0 Ao0 (j := (1 : Int32)) (by decide) (i := 1) (by decide) (x := u0_1) rfl (g := (mkF m 7 #[sR o0, sI (0 : Int32), sR o0, sI (1 : Int32), sR o0, sI (0 : Int32), sR o0, sI (1 : Int32), sD uc, uS, sD us, uS, sD u0_0, uS, uU, uU, uU, uU, uU, uU, uU, uU, uU, uU, uU, uU, uU, uU, uU, uU, uU, uU] [(.int (1 : Int32)), (.ref o0)])) rfl (rest := []) rfl (hb hby d2_7) (XS.dstore X0.here hx rfl (hb hby d2_8) rfl (l' := #[sR o0, sI (0 : Int32), sR o0, sI (1 : Int32), sR o0, sI (0 : Int32), sR o0, sI (1 : Int32), sD uc, uS, sD us, uS, sD u0_0, uS, sD u0_1, uS, uU, uU, uU, uU, uU, uU, uU, uU, uU, uU, uU, uU, uU, uU, uU, uU]) rfl k)))))))) ?_
  show OwnGo _ _ _ _ (s₁.setTop (mkF m 10 #[sR o0, sI (0 : Int32), sR o0, sI (1 : Int32), sR o0, sI (0 : Int32), sR o0, sI (1 : Int32), sD uc, uS, sD us, uS, sD u0_0, uS, sD u0_1, uS, uU, uU, uU, uU, uU, uU, uU, uU, uU, uU, uU, uU, uU, uU, uU, uU] []))
  refine OwnGo.pre (fun t k => XS.aload X0.here hx rfl (hb hby d2_10) rfl rfl (XS.iload X0.here hx rfl (hb hby d2_12) rfl (own_daL X0 hx hZ e0 Ao0 (j := (0 : Int32)) (by decide) (i := 0) (by decide) (x := u0_0) rfl (g := (mkF m 14 #[sR o0, sI (0 : Int32), sR o0, sI (1 : Int32), sR o0, sI (0 : Int32), sR o0, sI (1 : Int32), sD uc, uS, sD us, uS, sD u0_0, uS, sD u0_1, uS, uU, uU, uU, uU, uU, uU, uU, uU, uU, uU, uU, uU, uU, uU, uU, uU] [(.int (0 : Int32)), (.ref o0)])) rfl (rest := []) rfl (hb hby d2_14) (XS.dstore X0.here hx rfl (hb hby d2_15) rfl (l' := #[sR o0, sI (0 : Int32), sR o0, sI (1 : Int32), sR o0, sI (0 : Int32), sR o0, sI (1 : Int32), sD uc, uS, sD us, uS, sD u0_0, uS, sD u0_1, uS, sD u0_0, uS, uU, uU, uU, uU, uU, uU, uU, uU, uU, uU, uU, uU, uU, uU]) rfl (XS.aload X0.here hx rfl (hb hby d2_17) rfl rfl (XS.iload X0.here hx rfl (hb hby d2_19) rfl (own_daL X0 hx hZ e0 Ao0 (j := (1 : Int32)) (by decide) (i := 1) (by decide) (x := u0_1) rfl (g := (mkF m 21 #[sR o0, sI (0 : Int32), sR o0, sI (1 : Int32), sR o0, sI (0 : Int32), sR o0, sI (1 : Int32), sD uc, uS, sD us, uS, sD u0_0, uS, sD u0_1, uS, sD u0_0, uS, uU, uU, uU, uU, uU, uU, uU, uU, uU, uU, uU, uU, uU, uU] [(.int (1 : Int32)), (.ref o0)])) rfl (rest := []) rfl (hb hby d2_21) (XS.dstore X0.here hx rfl (hb hby d2_22) rfl (l' := #[sR o0, sI (0 : Int32), sR o0, sI (1 : Int32), sR o0, sI (0 : Int32), sR o0, sI (1 : Int32), sD uc, uS, sD us, uS, sD u0_0, uS, sD u0_1, uS, sD u0_0, uS, sD u0_1, uS, uU, uU, uU, uU, uU, uU, uU, uU, uU, uU, uU, uU]) rfl k)))))))) ?_
  show OwnGo _ _ _ _ (s₁.setTop (mkF m 24 #[sR o0, sI (0 : Int32), sR o0, sI (1 : Int32), sR o0, sI (0 : Int32), sR o0, sI (1 : Int32), sD uc, uS, sD us, uS, sD u0_0, uS, sD u0_1, uS, sD u0_0, uS, sD u0_1, uS, uU, uU, uU, uU, uU, uU, uU, uU, uU, uU, uU, uU] []))
  have Dq73 : OwnDS 0 (i0_0 + i0_0) (FP.dadd u0_0 u0_0) := own_ds_add (n := 53) Du0_0 Du0_0 (own_bd_nat (C := 2097152) (own_bd_add Bu0_0 Bu0_0 (by decide)) (by decide))
  obtain ⟨d73, hd73⟩ : ∃ v, FP.dadd u0_0 u0_0 = v := ⟨_, rfl⟩
  obtain ⟨j73, hj73⟩ : ∃ i : Int, i = i0_0 + i0_0 := ⟨_, rfl⟩
  have B73 : -2097152 ≤ j73 ∧ j73 ≤ 2097152 := by rw [hj73]; exact own_bd_add Bu0_0 Bu0_0 (by decide)
  have D73 : OwnDS 0 j73 d73 := by rw [hj73, ← hd73]; exact Dq73
  obtain ⟨j74, hj74⟩ : ∃ i : Int, i = j73 * (1 : Int) := ⟨_, rfl⟩
  have B74 : -2097152 ≤ j74 ∧ j74 ≤ 2097152 := by rw [hj74]; exact own_bd_mul B73 own_b1 (by decide)
  have Dq74 : OwnDS (-1) j74 (FP.dmul d73 (4602678819172646912 : UInt64)) := by rw [hj74]; have q := own_ds_mul (n := 53) D73 own_half (own_bd_nat (C := 2097152) (own_bd_mul B73 own_b1 (by decide)) (by decide)); exact q
  obtain ⟨d74, hd74⟩ : ∃ v, FP.dmul d73 (4602678819172646912 : UInt64) = v := ⟨_, rfl⟩
  have D74 : OwnDS (-1) j74 d74 := by rw [← hd74]; exact Dq74
  refine OwnGo.pre (fun t k => XS.dload X0.here hx rfl (hb hby d2_24) rfl (XS.dload X0.here hx rfl (hb hby d2_26) rfl (XS.daddS X0.here hx rfl (hb hby d2_28) rfl (own_nn Dq73) hd73 (own_ldcD X0 hx hown (mvT hZ (hw _ (List.mem_of_getElem? (i := 9) rfl))) rfl (hb hby d2_29) (XS.dmulS X0.here hx rfl (hb hby d2_32) rfl (own_nn Dq74) hd74 (XS.dstore X0.here hx rfl (hb hby d2_33) rfl (l' := #[sR o0, sI (0 : Int32), sR o0, sI (1 : Int32), sR o0, sI (0 : Int32), sR o0, sI (1 : Int32), sD uc, uS, sD us, uS, sD u0_0, uS, sD u0_1, uS, sD u0_0, uS, sD u0_1, uS, sD d74, uS, uU, uU, uU, uU, uU, uU, uU, uU, uU, uU]) rfl (XS.dload X0.here hx rfl (hb hby d2_35) rfl (XS.dload X0.here hx rfl (hb hby d2_37) rfl k)))))))) ?_
  show OwnGo _ _ _ _ (s₁.setTop (mkF m 39 #[sR o0, sI (0 : Int32), sR o0, sI (1 : Int32), sR o0, sI (0 : Int32), sR o0, sI (1 : Int32), sD uc, uS, sD us, uS, sD u0_0, uS, sD u0_1, uS, sD u0_0, uS, sD u0_1, uS, sD d74, uS, uU, uU, uU, uU, uU, uU, uU, uU, uU, uU] [(.double u0_1), (.double u0_1)]))
  have Dq75 : OwnDS 0 (i0_1 - i0_1) (FP.dsub u0_1 u0_1) := own_ds_sub (n := 53) Du0_1 Du0_1 (own_bd_nat (C := 2097152) (own_bd_sub Bu0_1 Bu0_1 (by decide)) (by decide))
  obtain ⟨d75, hd75⟩ : ∃ v, FP.dsub u0_1 u0_1 = v := ⟨_, rfl⟩
  obtain ⟨j75, hj75⟩ : ∃ i : Int, i = i0_1 - i0_1 := ⟨_, rfl⟩
  have B75 : -2097152 ≤ j75 ∧ j75 ≤ 2097152 := by rw [hj75]; exact own_bd_sub Bu0_1 Bu0_1 (by decide)
  have D75 : OwnDS 0 j75 d75 := by rw [hj75, ← hd75]; exact Dq75
  obtain ⟨j76, hj76⟩ : ∃ i : Int, i = j75 * (1 : Int) := ⟨_, rfl⟩
  have B76 : -2097152 ≤ j76 ∧ j76 ≤ 2097152 := by rw [hj76]; exact own_bd_mul B75 own_b1 (by decide)
  have Dq76 : OwnDS (-1) j76 (FP.dmul d75 (4602678819172646912 : UInt64)) := by rw [hj76]; have q := own_ds_mul (n := 53) D75 own_half (own_bd_nat (C := 2097152) (own_bd_mul B75 own_b1 (by decide)) (by decide)); exact q
  obtain ⟨d76, hd76⟩ : ∃ v, FP.dmul d75 (4602678819172646912 : UInt64) = v := ⟨_, rfl⟩
  have D76 : OwnDS (-1) j76 d76 := by rw [← hd76]; exact Dq76
  have Dq77 : OwnDS 0 (i0_1 + i0_1) (FP.dadd u0_1 u0_1) := own_ds_add (n := 53) Du0_1 Du0_1 (own_bd_nat (C := 2097152) (own_bd_add Bu0_1 Bu0_1 (by decide)) (by decide))
  obtain ⟨d77, hd77⟩ : ∃ v, FP.dadd u0_1 u0_1 = v := ⟨_, rfl⟩
  obtain ⟨j77, hj77⟩ : ∃ i : Int, i = i0_1 + i0_1 := ⟨_, rfl⟩
  have B77 : -2097152 ≤ j77 ∧ j77 ≤ 2097152 := by rw [hj77]; exact own_bd_add Bu0_1 Bu0_1 (by decide)
  have D77 : OwnDS 0 j77 d77 := by rw [hj77, ← hd77]; exact Dq77
  refine OwnGo.pre (fun t k => XS.dsubS X0.here hx rfl (hb hby d2_39) rfl (own_nn Dq75) hd75 (own_ldcD X0 hx hown (mvT hZ (hw _ (List.mem_of_getElem? (i := 9) rfl))) rfl (hb hby d2_40) (XS.dmulS X0.here hx rfl (hb hby d2_43) rfl (own_nn Dq76) hd76 (XS.dstore X0.here hx rfl (hb hby d2_44) rfl (l' := #[sR o0, sI (0 : Int32), sR o0, sI (1 : Int32), sR o0, sI (0 : Int32), sR o0, sI (1 : Int32), sD uc, uS, sD us, uS, sD u0_0, uS, sD u0_1, uS, sD u0_0, uS, sD u0_1, uS, sD d74, uS, sD d76, uS, uU, uU, uU, uU, uU, uU, uU, uU]) rfl (XS.dload X0.here hx rfl (hb hby d2_46) rfl (XS.dload X0.here hx rfl (hb hby d2_48) rfl (XS.daddS X0.here hx rfl (hb hby d2_50) rfl (own_nn Dq77) hd77 (own_ldcD X0 hx hown (mvT hZ (hw _ (List.mem_of_getElem? (i := 9) rfl))) rfl (hb hby d2_51) k)))))))) ?_
  show OwnGo _ _ _ _ (s₁.setTop (mkF m 54 #[sR o0, sI (0 : Int32), sR o0, sI (1 : Int32), sR o0, sI (0 : Int32), sR o0, sI (1 : Int32), sD uc, uS, sD us, uS, sD u0_0, uS, sD u0_1, uS, sD u0_0, uS, sD u0_1, uS, sD d74, uS, sD d76, uS, uU, uU, uU, uU, uU, uU, uU, uU] [(.double (4602678819172646912 : UInt64)), (.double d77)]))
  obtain ⟨j78, hj78⟩ : ∃ i : Int, i = j77 * (1 : Int) := ⟨_, rfl⟩
  have B78 : -2097152 ≤ j78 ∧ j78 ≤ 2097152 := by rw [hj78]; exact own_bd_mul B77 own_b1 (by decide)
  have Dq78 : OwnDS (-1) j78 (FP.dmul d77 (4602678819172646912 : UInt64)) := by rw [hj78]; have q := own_ds_mul (n := 53) D77 own_half (own_bd_nat (C := 2097152) (own_bd_mul B77 own_b1 (by decide)) (by decide)); exact q
  obtain ⟨d78, hd78⟩ : ∃ v, FP.dmul d77 (4602678819172646912 : UInt64) = v := ⟨_, rfl⟩
  have D78 : OwnDS (-1) j78 d78 := by rw [← hd78]; exact Dq78
  have Dq79 : OwnDS 0 (i0_0 - i0_0) (FP.dsub u0_0 u0_0) := own_ds_sub (n := 53) Du0_0 Du0_0 (own_bd_nat (C := 2097152) (own_bd_sub Bu0_0 Bu0_0 (by decide)) (by decide))
  obtain ⟨d79, hd79⟩ : ∃ v, FP.dsub u0_0 u0_0 = v := ⟨_, rfl⟩
  obtain ⟨j79, hj79⟩ : ∃ i : Int, i = i0_0 - i0_0 := ⟨_, rfl⟩
  have B79 : -2097152 ≤ j79 ∧ j79 ≤ 2097152 := by rw [hj79]; exact own_bd_sub Bu0_0 Bu0_0 (by decide)
  have D79 : OwnDS 0 j79 d79 := by rw [hj79, ← hd79]; exact Dq79
  obtain ⟨j80, hj80⟩ : ∃ i : Int, i = j79 * (1 : Int) := ⟨_, rfl⟩
  have B80 : -2097152 ≤ j80 ∧ j80 ≤ 2097152 := by rw [hj80]; exact own_bd_mul B79 own_b1 (by decide)
  have Dq80 : OwnDS (-1) j80 (FP.dmul d79 (4602678819172646912 : UInt64)) := by rw [hj80]; have q := own_ds_mul (n := 53) D79 own_half (own_bd_nat (C := 2097152) (own_bd_mul B79 own_b1 (by decide)) (by decide)); exact q
  obtain ⟨d80, hd80⟩ : ∃ v, FP.dmul d79 (4602678819172646912 : UInt64) = v := ⟨_, rfl⟩
  have D80 : OwnDS (-1) j80 d80 := by rw [← hd80]; exact Dq80
  refine OwnGo.pre (fun t k => XS.dmulS X0.here hx rfl (hb hby d2_54) rfl (own_nn Dq78) hd78 (XS.dstore X0.here hx rfl (hb hby d2_55) rfl (l' := #[sR o0, sI (0 : Int32), sR o0, sI (1 : Int32), sR o0, sI (0 : Int32), sR o0, sI (1 : Int32), sD uc, uS, sD us, uS, sD u0_0, uS, sD u0_1, uS, sD u0_0, uS, sD u0_1, uS, sD d74, uS, sD d76, uS, sD d78, uS, uU, uU, uU, uU, uU, uU]) rfl (XS.dload X0.here hx rfl (hb hby d2_57) rfl (XS.dload X0.here hx rfl (hb hby d2_59) rfl (XS.dsubS X0.here hx rfl (hb hby d2_61) rfl (own_nn Dq79) hd79 (own_ldcD X0 hx hown (mvT hZ (hw _ (List.mem_of_getElem? (i := 9) rfl))) rfl (hb hby d2_62) (XS.dmulS X0.here hx rfl (hb hby d2_65) rfl (own_nn Dq80) hd80 (XS.dstore X0.here hx rfl (hb hby d2_66) rfl (l' := #[sR o0, sI (0 : Int32), sR o0, sI (1 : Int32), sR o0, sI (0 : Int32), sR o0, sI (1 : Int32), sD uc, uS, sD us, uS, sD u0_0, uS, sD u0_1, uS, sD u0_0, uS, sD u0_1, uS, sD d74, uS, sD d76, uS, sD d78, uS, sD d80, uS, uU, uU, uU, uU]) rfl k)))))))) ?_
  show OwnGo _ _ _ _ (s₁.setTop (mkF m 68 #[sR o0, sI (0 : Int32), sR o0, sI (1 : Int32), sR o0, sI (0 : Int32), sR o0, sI (1 : Int32), sD uc, uS, sD us, uS, sD u0_0, uS, sD u0_1, uS, sD u0_0, uS, sD u0_1, uS, sD d74, uS, sD d76, uS, sD d78, uS, sD d80, uS, uU, uU, uU, uU] []))
  obtain ⟨j81, hj81⟩ : ∃ i : Int, i = ic * j78 := ⟨_, rfl⟩
  have B81 : -2199023255552 ≤ j81 ∧ j81 ≤ 2199023255552 := by rw [hj81]; exact own_bd_mul Buc B78 (by decide)
  have Dq81 : OwnDS (-1) j81 (FP.dmul uc d78) := by rw [hj81]; have q := own_ds_mul (n := 53) Duc D78 (own_bd_nat (C := 2199023255552) (own_bd_mul Buc B78 (by decide)) (by decide)); exact q
  obtain ⟨d81, hd81⟩ : ∃ v, FP.dmul uc d78 = v := ⟨_, rfl⟩
  have D81 : OwnDS (-1) j81 d81 := by rw [← hd81]; exact Dq81
  obtain ⟨j82, hj82⟩ : ∃ i : Int, i = is * j80 := ⟨_, rfl⟩
  have B82 : -2199023255552 ≤ j82 ∧ j82 ≤ 2199023255552 := by rw [hj82]; exact own_bd_mul Bus B80 (by decide)
  have Dq82 : OwnDS (-1) j82 (FP.dmul us d80) := by rw [hj82]; have q := own_ds_mul (n := 53) Dus D80 (own_bd_nat (C := 2199023255552) (own_bd_mul Bus B80 (by decide)) (by decide)); exact q
  obtain ⟨d82, hd82⟩ : ∃ v, FP.dmul us d80 = v := ⟨_, rfl⟩
  have D82 : OwnDS (-1) j82 d82 := by rw [← hd82]; exact Dq82
  have Dq83 : OwnDS (-1) (j81 + j82) (FP.dadd d81 d82) := own_ds_add (n := 53) D81 D82 (own_bd_nat (C := 4398046511104) (own_bd_add B81 B82 (by decide)) (by decide))
  obtain ⟨d83, hd83⟩ : ∃ v, FP.dadd d81 d82 = v := ⟨_, rfl⟩
  obtain ⟨j83, hj83⟩ : ∃ i : Int, i = j81 + j82 := ⟨_, rfl⟩
  have B83 : -4398046511104 ≤ j83 ∧ j83 ≤ 4398046511104 := by rw [hj83]; exact own_bd_add B81 B82 (by decide)
  have D83 : OwnDS (-1) j83 d83 := by rw [hj83, ← hd83]; exact Dq83
  refine OwnGo.pre (fun t k => XS.dload X0.here hx rfl (hb hby d2_68) rfl (XS.dload X0.here hx rfl (hb hby d2_70) rfl (XS.dmulS X0.here hx rfl (hb hby d2_72) rfl (own_nn Dq81) hd81 (XS.dload X0.here hx rfl (hb hby d2_73) rfl (XS.dload X0.here hx rfl (hb hby d2_75) rfl (XS.dmulS X0.here hx rfl (hb hby d2_77) rfl (own_nn Dq82) hd82 (XS.daddS X0.here hx rfl (hb hby d2_78) rfl (own_nn Dq83) hd83 (XS.dstore X0.here hx rfl (hb hby d2_79) rfl (l' := #[sR o0, sI (0 : Int32), sR o0, sI (1 : Int32), sR o0, sI (0 : Int32), sR o0, sI (1 : Int32), sD uc, uS, sD us, uS, sD u0_0, uS, sD u0_1, uS, sD u0_0, uS, sD u0_1, uS, sD d74, uS, sD d76, uS, sD d78, uS, sD d80, uS, sD d83, uS, uU, uU]) rfl k)))))))) ?_
  show OwnGo _ _ _ _ (s₁.setTop (mkF m 81 #[sR o0, sI (0 : Int32), sR o0, sI (1 : Int32), sR o0, sI (0 : Int32), sR o0, sI (1 : Int32), sD uc, uS, sD us, uS, sD u0_0, uS, sD u0_1, uS, sD u0_0, uS, sD u0_1, uS, sD d74, uS, sD d76, uS, sD d78, uS, sD d80, uS, sD d83, uS, uU, uU] []))
  obtain ⟨j84, hj84⟩ : ∃ i : Int, i = ic * j80 := ⟨_, rfl⟩
  have B84 : -2199023255552 ≤ j84 ∧ j84 ≤ 2199023255552 := by rw [hj84]; exact own_bd_mul Buc B80 (by decide)
  have Dq84 : OwnDS (-1) j84 (FP.dmul uc d80) := by rw [hj84]; have q := own_ds_mul (n := 53) Duc D80 (own_bd_nat (C := 2199023255552) (own_bd_mul Buc B80 (by decide)) (by decide)); exact q
  obtain ⟨d84, hd84⟩ : ∃ v, FP.dmul uc d80 = v := ⟨_, rfl⟩
  have D84 : OwnDS (-1) j84 d84 := by rw [← hd84]; exact Dq84
  obtain ⟨j85, hj85⟩ : ∃ i : Int, i = is * j78 := ⟨_, rfl⟩
  have B85 : -2199023255552 ≤ j85 ∧ j85 ≤ 2199023255552 := by rw [hj85]; exact own_bd_mul Bus B78 (by decide)
  have Dq85 : OwnDS (-1) j85 (FP.dmul us d78) := by rw [hj85]; have q := own_ds_mul (n := 53) Dus D78 (own_bd_nat (C := 2199023255552) (own_bd_mul Bus B78 (by decide)) (by decide)); exact q
  obtain ⟨d85, hd85⟩ : ∃ v, FP.dmul us d78 = v := ⟨_, rfl⟩
  have D85 : OwnDS (-1) j85 d85 := by rw [← hd85]; exact Dq85
  have Dq86 : OwnDS (-1) (j84 - j85) (FP.dsub d84 d85) := own_ds_sub (n := 53) D84 D85 (own_bd_nat (C := 4398046511104) (own_bd_sub B84 B85 (by decide)) (by decide))
  obtain ⟨d86, hd86⟩ : ∃ v, FP.dsub d84 d85 = v := ⟨_, rfl⟩
  obtain ⟨j86, hj86⟩ : ∃ i : Int, i = j84 - j85 := ⟨_, rfl⟩
  have B86 : -4398046511104 ≤ j86 ∧ j86 ≤ 4398046511104 := by rw [hj86]; exact own_bd_sub B84 B85 (by decide)
  have D86 : OwnDS (-1) j86 d86 := by rw [hj86, ← hd86]; exact Dq86
  refine OwnGo.pre (fun t k => XS.dload X0.here hx rfl (hb hby d2_81) rfl (XS.dload X0.here hx rfl (hb hby d2_83) rfl (XS.dmulS X0.here hx rfl (hb hby d2_85) rfl (own_nn Dq84) hd84 (XS.dload X0.here hx rfl (hb hby d2_86) rfl (XS.dload X0.here hx rfl (hb hby d2_88) rfl (XS.dmulS X0.here hx rfl (hb hby d2_90) rfl (own_nn Dq85) hd85 (XS.dsubS X0.here hx rfl (hb hby d2_91) rfl (own_nn Dq86) hd86 (XS.dstore X0.here hx rfl (hb hby d2_92) rfl (l' := #[sR o0, sI (0 : Int32), sR o0, sI (1 : Int32), sR o0, sI (0 : Int32), sR o0, sI (1 : Int32), sD uc, uS, sD us, uS, sD u0_0, uS, sD u0_1, uS, sD u0_0, uS, sD u0_1, uS, sD d74, uS, sD d76, uS, sD d78, uS, sD d80, uS, sD d83, uS, sD d86, uS]) rfl k)))))))) ?_
  show OwnGo _ _ _ _ (s₁.setTop (mkF m 94 #[sR o0, sI (0 : Int32), sR o0, sI (1 : Int32), sR o0, sI (0 : Int32), sR o0, sI (1 : Int32), sD uc, uS, sD us, uS, sD u0_0, uS, sD u0_1, uS, sD u0_0, uS, sD u0_1, uS, sD d74, uS, sD d76, uS, sD d78, uS, sD d80, uS, sD d83, uS, sD d86, uS] []))
  have Dq87 : OwnDS (-1) (j74 + j83) (FP.dadd d74 d83) := own_ds_add (n := 53) D74 D83 (own_bd_nat (C := 4398048608256) (own_bd_add B74 B83 (by decide)) (by decide))
  obtain ⟨d87, hd87⟩ : ∃ v, FP.dadd d74 d83 = v := ⟨_, rfl⟩
  obtain ⟨j87, hj87⟩ : ∃ i : Int, i = j74 + j83 := ⟨_, rfl⟩
  have B87 : -4398048608256 ≤ j87 ∧ j87 ≤ 4398048608256 := by rw [hj87]; exact own_bd_add B74 B83 (by decide)
  have D87 : OwnDS (-1) j87 d87 := by rw [hj87, ← hd87]; exact Dq87
  refine OwnGo.pre (fun t k => XS.aloadN X0.here hx rfl (hb hby d2_94) rfl rfl (XS.iloadN X0.here hx rfl (hb hby d2_95) rfl (XS.dload X0.here hx rfl (hb hby d2_96) rfl (XS.dload X0.here hx rfl (hb hby d2_98) rfl (XS.daddS X0.here hx rfl (hb hby d2_100) rfl (own_nn Dq87) hd87 k))))) ?_
  show OwnGo _ _ _ _ (s₁.setTop (mkF m 101 #[sR o0, sI (0 : Int32), sR o0, sI (1 : Int32), sR o0, sI (0 : Int32), sR o0, sI (1 : Int32), sD uc, uS, sD us, uS, sD u0_0, uS, sD u0_1, uS, sD u0_0, uS, sD u0_1, uS, sD d74, uS, sD d76, uS, sD d78, uS, sD d80, uS, sD d83, uS, sD d86, uS] [(.double d87), (.int (0 : Int32)), (.ref o0)]))
  obtain ⟨T88, h88, X88, e88, W88, A88, st88⟩ := own_daS X0 hx hZ e0 Ao0 (by decide) (i := 0) (by decide) (by show 0 < 4; decide) (g := (mkF m 101 #[sR o0, sI (0 : Int32), sR o0, sI (1 : Int32), sR o0, sI (0 : Int32), sR o0, sI (1 : Int32), sD uc, uS, sD us, uS, sD u0_0, uS, sD u0_1, uS, sD u0_0, uS, sD u0_1, uS, sD d74, uS, sD d76, uS, sD d78, uS, sD d80, uS, sD d83, uS, sD d86, uS] [(.double d87), (.int (0 : Int32)), (.ref o0)])) rfl rfl (hb hby d2_101)
  have A88n : OwnDA Z h88 o0 [d87, u0_1, u0_2, u0_3] := A88
  have N88 := Fr.snoc X88 N0 go0
  have P88 := (Keep.refl h0 [o0]).wr W88 (Or.inl (List.mem_of_getElem? (i := 0) rfl))
  have Z88 : n0 ≤ h88.size := by rw [W88.size]; exact Z0
  refine OwnGo.pre (fun t k => st88 t k) ?_
  show OwnGo _ _ _ _ (T88.setTop (mkF m 102 #[sR o0, sI (0 : Int32), sR o0, sI (1 : Int32), sR o0, sI (0 : Int32), sR o0, sI (1 : Int32), sD uc, uS, sD us, uS, sD u0_0, uS, sD u0_1, uS, sD u0_0, uS, sD u0_1, uS, sD d74, uS, sD d76, uS, sD d78, uS, sD d80, uS, sD d83, uS, sD d86, uS] []))
  have Dq89 : OwnDS (-1) (j76 + j86) (FP.dadd d76 d86) := own_ds_add (n := 53) D76 D86 (own_bd_nat (C := 4398048608256) (own_bd_add B76 B86 (by decide)) (by decide))
  obtain ⟨d89, hd89⟩ : ∃ v, FP.dadd d76 d86 = v := ⟨_, rfl⟩
  obtain ⟨j89, hj89⟩ : ∃ i : Int, i = j76 + j86 := ⟨_, rfl⟩
  have B89 : -4398048608256 ≤ j89 ∧ j89 ≤ 4398048608256 := by rw [hj89]; exact own_bd_add B76 B86 (by decide)
  have D89 : OwnDS (-1) j89 d89 := by rw [hj89, ← hd89]; exact Dq89
  refine OwnGo.pre (fun t k => XS.aloadN X88.here hx rfl (hb hby d2_102) rfl rfl (XS.iloadN X88.here hx rfl (hb hby d2_103) rfl (XS.dload X88.here hx rfl (hb hby d2_104) rfl (XS.dload X88.here hx rfl (hb hby d2_106) rfl (XS.daddS X88.here hx rfl (hb hby d2_108) rfl (own_nn Dq89) hd89 k))))) ?_
  show OwnGo _ _ _ _ (T88.setTop (mkF m 109 #[sR o0, sI (0 : Int32), sR o0, sI (1 : Int32), sR o0, sI (0 : Int32), sR o0, sI (1 : Int32), sD uc, uS, sD us, uS, sD u0_0, uS, sD u0_1, uS, sD u0_0, uS, sD u0_1, uS, sD d74, uS, sD d76, uS, sD d78, uS, sD d80, uS, sD d83, uS, sD d86, uS] [(.double d89), (.int (1 : Int32)), (.ref o0)]))
  obtain ⟨T90, h90, X90, e90, W90, A90, st90⟩ := own_daS X88 hx hZ e88 A88n (by decide) (i := 1) (by decide) (by show 1 < 4; decide) (g := (mkF m 109 #[sR o0, sI (0 : Int32), sR o0, sI (1 : Int32), sR o0, sI (0 : Int32), sR o0, sI (1 : Int32), sD uc, uS, sD us, uS, sD u0_0, uS, sD u0_1, uS, sD u0_0, uS, sD u0_1, uS, sD d74, uS, sD d76, uS, sD d78, uS, sD d80, uS, sD d83, uS, sD d86, uS] [(.double d89), (.int (1 : Int32)), (.ref o0)])) rfl rfl (hb hby d2_109)
  have A90n : OwnDA Z h90 o0 [d87, d89, u0_2, u0_3] := A90
  have N90 := Fr.snoc X90 N88 go0
  have P90 := P88.wr W90 (Or.inl (List.mem_of_getElem? (i := 0) rfl))
  have Z90 : n0 ≤ h90.size := by rw [W90.size]; exact Z88
  refine OwnGo.pre (fun t k => st90 t k) ?_
  show OwnGo _ _ _ _ (T90.setTop (mkF m 110 #[sR o0, sI (0 : Int32), sR o0, sI (1 : Int32), sR o0, sI (0 : Int32), sR o0, sI (1 : Int32), sD uc, uS, sD us, uS, sD u0_0, uS, sD u0_1, uS, sD u0_0, uS, sD u0_1, uS, sD d74, uS, sD d76, uS, sD d78, uS, sD d80, uS, sD d83, uS, sD d86, uS] []))
  have Dq91 : OwnDS (-1) (j74 - j83) (FP.dsub d74 d83) := own_ds_sub (n := 53) D74 D83 (own_bd_nat (C := 4398048608256) (own_bd_sub B74 B83 (by decide)) (by decide))
  obtain ⟨d91, hd91⟩ : ∃ v, FP.dsub d74 d83 = v := ⟨_, rfl⟩
  obtain ⟨j91, hj91⟩ : ∃ i : Int, i = j74 - j83 := ⟨_, rfl⟩
  have B91 : -4398048608256 ≤ j91 ∧ j91 ≤ 4398048608256 := by rw [hj91]; exact own_bd_sub B74 B83 (by decide)
  have D91 : OwnDS (-1) j91 d91 := by rw [hj91, ← hd91]; exact Dq91
  refine OwnGo.pre (fun t k => XS.aload X90.here hx rfl (hb hby d2_110) rfl rfl (XS.iload X90.here hx rfl (hb hby d2_112) rfl (XS.dload X90.here hx rfl (hb hby d2_114) rfl (XS.dload X90.here hx rfl (hb hby d2_116) rfl (XS.dsubS X90.here hx rfl (hb hby d2_118) rfl (own_nn Dq91) hd91 k))))) ?_
  show OwnGo _ _ _ _ (T90.setTop (mkF m 119 #[sR o0, sI (0 : Int32), sR o0, sI (1 : Int32), sR o0, sI (0 : Int32), sR o0, sI (1 : Int32), sD uc, uS, sD us, uS, sD u0_0, uS, sD u0_1, uS, sD u0_0, uS, sD u0_1, uS, sD d74, uS, sD d76, uS, sD d78, uS, sD d80, uS, sD d83, uS, sD d86, uS] [(.double d91), (.int (0 : Int32)), (.ref o0)]))
  obtain ⟨T92, h92, X92, e92, W92, A92, st92⟩ := own_daS X90 hx hZ e90 A90n (by decide) (i := 0) (by decide) (by show 0 < 4; decide) (g := (mkF m 119 #[sR o0, sI (0 : Int32), sR o0, sI (1 : Int32), sR o0, sI (0 : Int32), sR o0, sI (1 : Int32), sD uc, uS, sD us, uS, sD u0_0, uS, sD u0_1, uS, sD u0_0, uS, sD u0_1, uS, sD d74, uS, sD d76, uS, sD d78, uS, sD d80, uS, sD d83, uS, sD d86, uS] [(.double d91), (.int (0 : Int32)), (.ref o0)])) rfl rfl (hb hby d2_119)
  have A92n : OwnDA Z h92 o0 [d91, d89, u0_2, u0_3] := A92
  have N92 := Fr.snoc X92 N90 go0
  have P92 := P90.wr W92 (Or.inl (List.mem_of_getElem? (i := 0) rfl))
  have Z92 : n0 ≤ h92.size := by rw [W92.size]; exact Z90
  refine OwnGo.pre (fun t k => st92 t k) ?_
  show OwnGo _ _ _ _ (T92.setTop (mkF m 120 #[sR o0, sI (0 : Int32), sR o0, sI (1 : Int32), sR o0, sI (0 : Int32), sR o0, sI (1 : Int32), sD uc, uS, sD us, uS, sD u0_0, uS, sD u0_1, uS, sD u0_0, uS, sD u0_1, uS, sD d74, uS, sD d76, uS, sD d78, uS, sD d80, uS, sD d83, uS, sD d86, uS] []))
  have Dq93 : OwnDS (-1) (j86 - j76) (FP.dsub d86 d76) := own_ds_sub (n := 53) D86 D76 (own_bd_nat (C := 4398048608256) (own_bd_sub B86 B76 (by decide)) (by decide))
  obtain ⟨d93, hd93⟩ : ∃ v, FP.dsub d86 d76 = v := ⟨_, rfl⟩
  obtain ⟨j93, hj93⟩ : ∃ i : Int, i = j86 - j76 := ⟨_, rfl⟩
  have B93 : -4398048608256 ≤ j93 ∧ j93 ≤ 4398048608256 := by rw [hj93]; exact own_bd_sub B86 B76 (by decide)
  have D93 : OwnDS (-1) j93 d93 := by rw [hj93, ← hd93]; exact Dq93
  refine OwnGo.pre (fun t k => XS.aload X92.here hx rfl (hb hby d2_120) rfl rfl (XS.iload X92.here hx rfl (hb hby d2_122) rfl (XS.dload X92.here hx rfl (hb hby d2_124) rfl (XS.dload X92.here hx rfl (hb hby d2_126) rfl (XS.dsubS X92.here hx rfl (hb hby d2_128) rfl (own_nn Dq93) hd93 k))))) ?_
  show OwnGo _ _ _ _ (T92.setTop (mkF m 129 #[sR o0, sI (0 : Int32), sR o0, sI (1 : Int32), sR o0, sI (0 : Int32), sR o0, sI (1 : Int32), sD uc, uS, sD us, uS, sD u0_0, uS, sD u0_1, uS, sD u0_0, uS, sD u0_1, uS, sD d74, uS, sD d76, uS, sD d78, uS, sD d80, uS, sD d83, uS, sD d86, uS] [(.double d93), (.int (1 : Int32)), (.ref o0)]))
  obtain ⟨T94, h94, X94, e94, W94, A94, st94⟩ := own_daS X92 hx hZ e92 A92n (by decide) (i := 1) (by decide) (by show 1 < 4; decide) (g := (mkF m 129 #[sR o0, sI (0 : Int32), sR o0, sI (1 : Int32), sR o0, sI (0 : Int32), sR o0, sI (1 : Int32), sD uc, uS, sD us, uS, sD u0_0, uS, sD u0_1, uS, sD u0_0, uS, sD u0_1, uS, sD d74, uS, sD d76, uS, sD d78, uS, sD d80, uS, sD d83, uS, sD d86, uS] [(.double d93), (.int (1 : Int32)), (.ref o0)])) rfl rfl (hb hby d2_129)
  have A94n : OwnDA Z h94 o0 [d91, d93, u0_2, u0_3] := A94
  have N94 := Fr.snoc X94 N92 go0
  have P94 := P92.wr W94 (Or.inl (List.mem_of_getElem? (i := 0) rfl))
  have Z94 : n0 ≤ h94.size := by rw [W94.size]; exact Z92
  refine OwnGo.pre (fun t k => st94 t k) ?_
  show OwnGo _ _ _ _ (T94.setTop (mkF m 130 #[sR o0, sI (0 : Int32), sR o0, sI (1 : Int32), sR o0, sI (0 : Int32), sR o0, sI (1 : Int32), sD uc, uS, sD us, uS, sD u0_0, uS, sD u0_1, uS, sD u0_0, uS, sD u0_1, uS, sD d74, uS, sD d76, uS, sD d78, uS, sD d80, uS, sD d83, uS, sD d86, uS] []))
  rw [← e94] at A94n Z94 P94
  exact own_ret0 X94 hx hk hrt (hb hby d2_130) ⟨_, _, rfl, ((by simp only [hj91, hj74, hj73, hj83, hj81, hj78, hj77, hj82, hj80, hj79] : j91 = (((i0_0 + i0_0) * (1 : Int)) - ((ic * ((i0_1 + i0_1) * (1 : Int))) + (is * ((i0_0 - i0_0) * (1 : Int)))))) ▸ D91), ((by simp only [hj91, hj74, hj73, hj83, hj81, hj78, hj77, hj82, hj80, hj79] : j91 = (((i0_0 + i0_0) * (1 : Int)) - ((ic * ((i0_1 + i0_1) * (1 : Int))) + (is * ((i0_0 - i0_0) * (1 : Int)))))) ▸ B91), ((by simp only [hj93, hj86, hj84, hj80, hj79, hj85, hj78, hj77, hj76, hj75] : j93 = (((ic * ((i0_0 - i0_0) * (1 : Int))) - (is * ((i0_1 + i0_1) * (1 : Int)))) - ((i0_1 - i0_1) * (1 : Int)))) ▸ D93), ((by simp only [hj93, hj86, hj84, hj80, hj79, hj85, hj78, hj77, hj76, hj75] : j93 = (((ic * ((i0_0 - i0_0) * (1 : Int))) - (is * ((i0_1 + i0_1) * (1 : Int)))) - ((i0_1 - i0_1) * (1 : Int)))) ▸ B93), A94n, P94, N94, Z94⟩ (by decide) (by decide)
theorem pn_rmL : plainName "com/example/isochron/isochron/dsp/FourierSeparatePinLaw" = true := by first | (simp [plainName, overriddenIn]; done) | decide +kernel
theorem own_eq0 (z0 z1 z2 z3 z4 z5 : Int) : ((1 : Int) * (((z0 + z1) * (1 : Int)) + ((z2 * ((z3 + z4) * (1 : Int))) + (z5 * ((z1 - z0) * (1 : Int)))))) = ((z0 + z1) + (z2 * (z3 + z4) - (-z5) * (-(z0 - z1)))) := by grind
theorem own_eq1 (z0 z1 z2 z3 z4 z5 : Int) : ((1 : Int) * (((z0 - z1) * (1 : Int)) + ((z2 * ((z3 - z4) * (1 : Int))) - (z5 * ((z0 + z1) * (1 : Int)))))) = ((z0 - z1) + (z2 * (-(z4 - z3)) + (-z5) * (z0 + z1))) := by grind
theorem own_eq2 (z0 z1 z2 z3 z4 z5 : Int) : ((1 : Int) * (((z0 + z1) * (1 : Int)) - ((z2 * ((z3 + z4) * (1 : Int))) + (z5 * ((z1 - z0) * (1 : Int)))))) = ((z0 + z1) - (z2 * (z3 + z4) - (-z5) * (-(z0 - z1)))) := by grind
theorem own_eq3 (z0 z1 z2 z3 z4 z5 : Int) : ((1 : Int) * (((z0 * ((z1 - z2) * (1 : Int))) - (z3 * ((z4 + z5) * (1 : Int)))) - ((z4 - z5) * (1 : Int)))) = (-((z4 - z5) - (z0 * (-(z2 - z1)) + (-z3) * (z4 + z5)))) := by grind
theorem own_eq4 (z0 z1 z2 z3 : Int) : ((1 : Int) * (((z0 + z0) * (1 : Int)) - ((z1 * ((z2 + z2) * (1 : Int))) + (z3 * ((z0 - z0) * (1 : Int)))))) = ((z0 + z0) - (z1 * (z2 + z2) - (-z3) * (-(z0 - z0)))) := by grind
theorem own_eq5 (z0 z1 z2 z3 : Int) : ((1 : Int) * (((z0 * ((z1 - z1) * (1 : Int))) - (z2 * ((z3 + z3) * (1 : Int)))) - ((z3 - z3) * (1 : Int)))) = (-((z3 - z3) - (z0 * (-(z1 - z1)) + (-z2) * (z3 + z3)))) := by grind
theorem ef_rmL (m : MethodId) (p0 p1 p2 : Int64) (p3 : Int32) : entryFrame m #[(.long p0), (.long p1), (.long p2), (.int p3)] maxLocals = (mkF m 0 #[sJ p0, uS, sJ p1, uS, sJ p2, uS, sI p3, uU, uU, uU, uU, uU, uU, uU, uU, uU, uU, uU, uU, uU, uU, uU, uU, uU, uU, uU, uU, uU, uU, uU, uU, uU, uU, uU, uU, uU, uU, uU, uU, uU, uU, uU, uU, uU, uU, uU, uU, uU, uU, uU, uU, uU, uU, uU, uU, uU, uU, uU, uU, uU, uU, uU, uU] []) := by first | (simp [entryFrame, mkF, argsToLocals, Value.category, maxLocals]; done) | rfl
def Q_rmL (Z : State) (p0 p1 p2 : Int64) (p3 : Int32) (h0 : Heap) (n0 : Nat) (v : Option Value) (h : Heap) (L : List Loc) : Prop := v = some (.int 1) ∧ Fr n0 L
set_option maxRecDepth 65536 in
set_option maxHeartbeats 40000000 in
theorem rmL (l : Launch) (Z : State) (a0 : Array Value) (hw : ∀ d ∈ tables_1, d.before a0 Z = true) (ws : List Jvm.Cond) (p0 p1 p2 : Int64) (p3 : Int32) (h0 : Heap) (n0 : Nat) (Z0 : n0 ≤ h0.size)  :
    MetFree l x (head1 (Jvm.Cond.code x code maxLocals ret :: ws) room_1) (fun a U => a = #[(.long p0), (.long p1), (.long p2), (.int p3)] ∧ Z.Warmed39 U.vm ∧ U.heap = h0) (fun _ _ _ _ _ => True) (fun _ U oO U' => ∃ v L, oO = .returned v ∧ Q_rmL Z p0 p1 p2 p3 h0 n0 v U'.heap L ∧ FrameEnd U oO U' L room_1.cells room_1.slots) := by
  refine MetFree.of_bodySF (plainFor_of_name pn_rmL) hisR ?_
  intro p e s m args below meth c s₁ Bd hml0 hP hK
  obtain ⟨rfl, hZ, hh⟩ := hP
  have hx := Bd.exec
  have hby := Bd.bytes
  have hml : c.maxLocals = 63 := hml0
  have hown : s.vm.findClass "com/example/isochron/isochron/dsp/FourierSeparatePinLaw" = some m.cls := findClass_of_methodNamed Bd.named
  have hnm := (name_of_methodNamed Bd.named Bd.method).1
  have hk := Bd.notSynchronized
  have hrt := Bd.returns
  have X0 : Stand p l e room_1 s m #[(.long p0), (.long p1), (.long p2), (.int p3)] below meth c s₁ [] 0 0 := Stand.of_body Bd
  have e0 : s₁.heap = h0 := by rw [← hh, Bd.state]; rfl
  have N0 := Fr.nil n0
  show OwnGo p.tables e below (OwnEnd s (Q_rmL Z p0 p1 p2 p3 h0 n0) room_1.cells room_1.slots) _
  refine OwnGo.pre (fun t k => castTop (ef_rmL m p0 p1 p2 p3) k) ?_
  show OwnGo _ _ _ _ (s₁.setTop (mkF m 0 #[sJ p0, uS, sJ p1, uS, sJ p2, uS, sI p3, uU, uU, uU, uU, uU, uU, uU, uU, uU, uU, uU, uU, uU, uU, uU, uU, uU, uU, uU, uU, uU, uU, uU, uU, uU, uU, uU, uU, uU, uU, uU, uU, uU, uU, uU, uU, uU, uU, uU, uU, uU, uU, uU, uU, uU, uU, uU, uU, uU, uU, uU, uU, uU, uU, uU, uU] []))
  obtain ⟨mo, hmo⟩ : ∃ v, p3 &&& (3 : Int32) = v := ⟨_, rfl⟩
  have cmo : mo = 0 ∨ mo = 1 ∨ mo = 2 ∨ mo = 3 := hmo ▸ own_and3 p3
  refine OwnGo.pre (fun t k => XS.iload X0.here hx rfl (hb hby at_0) rfl (XS.iconst X0.here hx rfl (hb hby at_2) (own_iand X0.here hx rfl (hb hby at_3) rfl hmo (XS.istore X0.here hx rfl (hb hby at_4) rfl (l' := #[sJ p0, uS, sJ p1, uS, sJ p2, uS, sI p3, sI mo, uU, uU, uU, uU, uU, uU, uU, uU, uU, uU, uU, uU, uU, uU, uU, uU, uU, uU, uU, uU, uU, uU, uU, uU, uU, uU, uU, uU, uU, uU, uU, uU, uU, uU, uU, uU, uU, uU, uU, uU, uU, uU, uU, uU, uU, uU, uU, uU, uU, uU, uU, uU, uU, uU, uU]) rfl (XT.lloadN X0.here hx rfl (hb hby at_6) rfl (own_l2i X0.here hx rfl (hb hby at_7) rfl rfl k)))))) ?_
  show OwnGo _ _ _ _ (s₁.setTop (mkF m 8 #[sJ p0, uS, sJ p1, uS, sJ p2, uS, sI p3, sI mo, uU, uU, uU, uU, uU, uU, uU, uU, uU, uU, uU, uU, uU, uU, uU, uU, uU, uU, uU, uU, uU, uU, uU, uU, uU, uU, uU, uU, uU, uU, uU, uU, uU, uU, uU, uU, uU, uU, uU, uU, uU, uU, uU, uU, uU, uU, uU, uU, uU, uU, uU, uU, uU, uU, uU] [(.int p0.toInt32)]))
  obtain ⟨_, _, ⟨T95, L95, k95, n95⟩, -, X95, ⟨Lc95, hQ95, l95, y95, z95⟩, st95⟩ := Jvm.LawKit.callS X0 hx (y := (⟨"com/example/isochron/isochron/dsp/FourierSeparatePinLaw", "small", "(I)I"⟩ : MethodName)) hown (mvT hZ (hw _ (List.mem_of_getElem? (i := 0) rfl))) (mvT hZ (hw _ (List.mem_of_getElem? (i := 1) rfl))) (mvT hZ (hw _ (List.mem_of_getElem? (i := 2) rfl))) (mvT hZ (hw _ (List.mem_of_getElem? (i := 3) rfl))) (by decide) (backOf (W := 0) (rmS l Z a0 hw [] p0.toInt32 h0 n0 Z0 ) hZ (hw _ (List.mem_of_getElem? (i := 3) rfl)) (hw _ (List.mem_of_getElem? (i := 2) rfl)) (by decide) (by decide)) (g := (mkF m 8 #[sJ p0, uS, sJ p1, uS, sJ p2, uS, sI p3, sI mo, uU, uU, uU, uU, uU, uU, uU, uU, uU, uU, uU, uU, uU, uU, uU, uU, uU, uU, uU, uU, uU, uU, uU, uU, uU, uU, uU, uU, uU, uU, uU, uU, uU, uU, uU, uU, uU, uU, uU, uU, uU, uU, uU, uU, uU, uU, uU, uU, uU, uU, uU, uU, uU, uU, uU] [(.int p0.toInt32)])) rfl (by rw [hml]; rfl) (argsL := [(.int p0.toInt32)]) (rest := []) (lenOf pd_rmS rfl) rfl (by show 2 * 0 + _ ≤ _; exact Nat.le_of_eq rfl) (hb hby at_8) (fun _ _ => ⟨rfl, e0, (by decide : 0 + 0 ≤ _), (by decide : 0 + 0 ≤ _)⟩)
  dsimp only [Pt.U, Pt.locs, Pt.cells, Pt.slots] at X95 l95 y95 z95 st95 hQ95
  subst l95 y95 z95
  obtain ⟨y0, rfl, by0, N95, e95⟩ := hQ95
  refine OwnGo.pre (fun t k => st95 t k) ?_
  show OwnGo _ _ _ _ (T95.setTop (mkF m 11 #[sJ p0, uS, sJ p1, uS, sJ p2, uS, sI p3, sI mo, uU, uU, uU, uU, uU, uU, uU, uU, uU, uU, uU, uU, uU, uU, uU, uU, uU, uU, uU, uU, uU, uU, uU, uU, uU, uU, uU, uU, uU, uU, uU, uU, uU, uU, uU, uU, uU, uU, uU, uU, uU, uU, uU, uU, uU, uU, uU, uU, uU, uU, uU, uU, uU, uU, uU] [(.int y0)]))
  have M95 := Fr.app N0 N95
  obtain ⟨jy0, Fy0⟩ : ∃ i : Int, y0.toInt = i := ⟨_, rfl⟩
  rw [Fy0] at by0
  refine OwnGo.pre (fun t k => XS.istore X95.here hx rfl (hb hby at_11) rfl (l' := #[sJ p0, uS, sJ p1, uS, sJ p2, uS, sI p3, sI mo, sI y0, uU, uU, uU, uU, uU, uU, uU, uU, uU, uU, uU, uU, uU, uU, uU, uU, uU, uU, uU, uU, uU, uU, uU, uU, uU, uU, uU, uU, uU, uU, uU, uU, uU, uU, uU, uU, uU, uU, uU, uU, uU, uU, uU, uU, uU, uU, uU, uU, uU, uU, uU, uU, uU, uU]) rfl (XT.lloadN X95.here hx rfl (hb hby at_13) rfl (XS.bipush X95.here hx rfl (hb hby at_14) (own_lushr X95.here hx rfl (hb hby at_16) rfl rfl (own_l2i X95.here hx rfl (hb hby at_17) rfl rfl k))))) ?_
  show OwnGo _ _ _ _ (T95.setTop (mkF m 18 #[sJ p0, uS, sJ p1, uS, sJ p2, uS, sI p3, sI mo, sI y0, uU, uU, uU, uU, uU, uU, uU, uU, uU, uU, uU, uU, uU, uU, uU, uU, uU, uU, uU, uU, uU, uU, uU, uU, uU, uU, uU, uU, uU, uU, uU, uU, uU, uU, uU, uU, uU, uU, uU, uU, uU, uU, uU, uU, uU, uU, uU, uU, uU, uU, uU, uU, uU, uU] [(.int ((XT.ushrL p0 (32 : Int32)).toInt32))]))
  obtain ⟨_, _, ⟨T96, L96, k96, n96⟩, -, X96, ⟨Lc96, hQ96, l96, y96, z96⟩, st96⟩ := Jvm.LawKit.callS X95 hx (y := (⟨"com/example/isochron/isochron/dsp/FourierSeparatePinLaw", "small", "(I)I"⟩ : MethodName)) hown (mvT hZ (hw _ (List.mem_of_getElem? (i := 0) rfl))) (mvT hZ (hw _ (List.mem_of_getElem? (i := 1) rfl))) (mvT hZ (hw _ (List.mem_of_getElem? (i := 2) rfl))) (mvT hZ (hw _ (List.mem_of_getElem? (i := 3) rfl))) (by decide) (backOf (W := 0) (rmS l Z a0 hw [] ((XT.ushrL p0 (32 : Int32)).toInt32) h0 n0 Z0 ) hZ (hw _ (List.mem_of_getElem? (i := 3) rfl)) (hw _ (List.mem_of_getElem? (i := 2) rfl)) (by decide) (by decide)) (g := (mkF m 18 #[sJ p0, uS, sJ p1, uS, sJ p2, uS, sI p3, sI mo, sI y0, uU, uU, uU, uU, uU, uU, uU, uU, uU, uU, uU, uU, uU, uU, uU, uU, uU, uU, uU, uU, uU, uU, uU, uU, uU, uU, uU, uU, uU, uU, uU, uU, uU, uU, uU, uU, uU, uU, uU, uU, uU, uU, uU, uU, uU, uU, uU, uU, uU, uU, uU, uU, uU, uU] [(.int ((XT.ushrL p0 (32 : Int32)).toInt32))])) rfl (by rw [hml]; rfl) (argsL := [(.int ((XT.ushrL p0 (32 : Int32)).toInt32))]) (rest := []) (lenOf pd_rmS rfl) rfl (by show 2 * 0 + _ ≤ _; exact Nat.le_of_eq rfl) (hb hby at_18) (fun _ _ => ⟨rfl, e95, (by decide : 0 + 0 ≤ _), (by decide : 0 + 0 ≤ _)⟩)
  dsimp only [Pt.U, Pt.locs, Pt.cells, Pt.slots] at X96 l96 y96 z96 st96 hQ96
  subst l96 y96 z96
  obtain ⟨y1, rfl, by1, N96, e96⟩ := hQ96
  refine OwnGo.pre (fun t k => st96 t k) ?_
  show OwnGo _ _ _ _ (T96.setTop (mkF m 21 #[sJ p0, uS, sJ p1, uS, sJ p2, uS, sI p3, sI mo, sI y0, uU, uU, uU, uU, uU, uU, uU, uU, uU, uU, uU, uU, uU, uU, uU, uU, uU, uU, uU, uU, uU, uU, uU, uU, uU, uU, uU, uU, uU, uU, uU, uU, uU, uU, uU, uU, uU, uU, uU, uU, uU, uU, uU, uU, uU, uU, uU, uU, uU, uU, uU, uU, uU, uU] [(.int y1)]))
  have M96 := Fr.app M95 N96
  obtain ⟨jy1, Fy1⟩ : ∃ i : Int, y1.toInt = i := ⟨_, rfl⟩
  rw [Fy1] at by1
  refine OwnGo.pre (fun t k => XS.istore X96.here hx rfl (hb hby at_21) rfl (l' := #[sJ p0, uS, sJ p1, uS, sJ p2, uS, sI p3, sI mo, sI y0, sI y1, uU, uU, uU, uU, uU, uU, uU, uU, uU, uU, uU, uU, uU, uU, uU, uU, uU, uU, uU, uU, uU, uU, uU, uU, uU, uU, uU, uU, uU, uU, uU, uU, uU, uU, uU, uU, uU, uU, uU, uU, uU, uU, uU, uU, uU, uU, uU, uU, uU, uU, uU, uU, uU]) rfl (XT.lloadN X96.here hx rfl (hb hby at_23) rfl (own_l2i X96.here hx rfl (hb hby at_24) rfl rfl k))) ?_
  show OwnGo _ _ _ _ (T96.setTop (mkF m 25 #[sJ p0, uS, sJ p1, uS, sJ p2, uS, sI p3, sI mo, sI y0, sI y1, uU, uU, uU, uU, uU, uU, uU, uU, uU, uU, uU, uU, uU, uU, uU, uU, uU, uU, uU, uU, uU, uU, uU, uU, uU, uU, uU, uU, uU, uU, uU, uU, uU, uU, uU, uU, uU, uU, uU, uU, uU, uU, uU, uU, uU, uU, uU, uU, uU, uU, uU, uU, uU] [(.int p1.toInt32)]))
  obtain ⟨_, _, ⟨T97, L97, k97, n97⟩, -, X97, ⟨Lc97, hQ97, l97, y97, z97⟩, st97⟩ := Jvm.LawKit.callS X96 hx (y := (⟨"com/example/isochron/isochron/dsp/FourierSeparatePinLaw", "small", "(I)I"⟩ : MethodName)) hown (mvT hZ (hw _ (List.mem_of_getElem? (i := 0) rfl))) (mvT hZ (hw _ (List.mem_of_getElem? (i := 1) rfl))) (mvT hZ (hw _ (List.mem_of_getElem? (i := 2) rfl))) (mvT hZ (hw _ (List.mem_of_getElem? (i := 3) rfl))) (by decide) (backOf (W := 0) (rmS l Z a0 hw [] p1.toInt32 h0 n0 Z0 ) hZ (hw _ (List.mem_of_getElem? (i := 3) rfl)) (hw _ (List.mem_of_getElem? (i := 2) rfl)) (by decide) (by decide)) (g := (mkF m 25 #[sJ p0, uS, sJ p1, uS, sJ p2, uS, sI p3, sI mo, sI y0, sI y1, uU, uU, uU, uU, uU, uU, uU, uU, uU, uU, uU, uU, uU, uU, uU, uU, uU, uU, uU, uU, uU, uU, uU, uU, uU, uU, uU, uU, uU, uU, uU, uU, uU, uU, uU, uU, uU, uU, uU, uU, uU, uU, uU, uU, uU, uU, uU, uU, uU, uU, uU, uU, uU] [(.int p1.toInt32)])) rfl (by rw [hml]; rfl) (argsL := [(.int p1.toInt32)]) (rest := []) (lenOf pd_rmS rfl) rfl (by show 2 * 0 + _ ≤ _; exact Nat.le_of_eq rfl) (hb hby at_25) (fun _ _ => ⟨rfl, e96, (by decide : 0 + 0 ≤ _), (by decide : 0 + 0 ≤ _)⟩)
  dsimp only [Pt.U, Pt.locs, Pt.cells, Pt.slots] at X97 l97 y97 z97 st97 hQ97
  subst l97 y97 z97
  obtain ⟨y2, rfl, by2, N97, e97⟩ := hQ97
  refine OwnGo.pre (fun t k => st97 t k) ?_
  show OwnGo _ _ _ _ (T97.setTop (mkF m 28 #[sJ p0, uS, sJ p1, uS, sJ p2, uS, sI p3, sI mo, sI y0, sI y1, uU, uU, uU, uU, uU, uU, uU, uU, uU, uU, uU, uU, uU, uU, uU, uU, uU, uU, uU, uU, uU, uU, uU, uU, uU, uU, uU, uU, uU, uU, uU, uU, uU, uU, uU, uU, uU, uU, uU, uU, uU, uU, uU, uU, uU, uU, uU, uU, uU, uU, uU, uU, uU] [(.int y2)]))
  have M97 := Fr.app M96 N97
  obtain ⟨jy2, Fy2⟩ : ∃ i : Int, y2.toInt = i := ⟨_, rfl⟩
  rw [Fy2] at by2
  refine OwnGo.pre (fun t k => XS.istore X97.here hx rfl (hb hby at_28) rfl (l' := #[sJ p0, uS, sJ p1, uS, sJ p2, uS, sI p3, sI mo, sI y0, sI y1, sI y2, uU, uU, uU, uU, uU, uU, uU, uU, uU, uU, uU, uU, uU, uU, uU, uU, uU, uU, uU, uU, uU, uU, uU, uU, uU, uU, uU, uU, uU, uU, uU, uU, uU, uU, uU, uU, uU, uU, uU, uU, uU, uU, uU, uU, uU, uU, uU, uU, uU, uU, uU, uU]) rfl (XT.lloadN X97.here hx rfl (hb hby at_30) rfl (XS.bipush X97.here hx rfl (hb hby at_31) (own_lushr X97.here hx rfl (hb hby at_33) rfl rfl (own_l2i X97.here hx rfl (hb hby at_34) rfl rfl k))))) ?_
  show OwnGo _ _ _ _ (T97.setTop (mkF m 35 #[sJ p0, uS, sJ p1, uS, sJ p2, uS, sI p3, sI mo, sI y0, sI y1, sI y2, uU, uU, uU, uU, uU, uU, uU, uU, uU, uU, uU, uU, uU, uU, uU, uU, uU, uU, uU, uU, uU, uU, uU, uU, uU, uU, uU, uU, uU, uU, uU, uU, uU, uU, uU, uU, uU, uU, uU, uU, uU, uU, uU, uU, uU, uU, uU, uU, uU, uU, uU, uU] [(.int ((XT.ushrL p1 (32 : Int32)).toInt32))]))
  obtain ⟨_, _, ⟨T98, L98, k98, n98⟩, -, X98, ⟨Lc98, hQ98, l98, y98, z98⟩, st98⟩ := Jvm.LawKit.callS X97 hx (y := (⟨"com/example/isochron/isochron/dsp/FourierSeparatePinLaw", "small", "(I)I"⟩ : MethodName)) hown (mvT hZ (hw _ (List.mem_of_getElem? (i := 0) rfl))) (mvT hZ (hw _ (List.mem_of_getElem? (i := 1) rfl))) (mvT hZ (hw _ (List.mem_of_getElem? (i := 2) rfl))) (mvT hZ (hw _ (List.mem_of_getElem? (i := 3) rfl))) (by decide) (backOf (W := 0) (rmS l Z a0 hw [] ((XT.ushrL p1 (32 : Int32)).toInt32) h0 n0 Z0 ) hZ (hw _ (List.mem_of_getElem? (i := 3) rfl)) (hw _ (List.mem_of_getElem? (i := 2) rfl)) (by decide) (by decide)) (g := (mkF m 35 #[sJ p0, uS, sJ p1, uS, sJ p2, uS, sI p3, sI mo, sI y0, sI y1, sI y2, uU, uU, uU, uU, uU, uU, uU, uU, uU, uU, uU, uU, uU, uU, uU, uU, uU, uU, uU, uU, uU, uU, uU, uU, uU, uU, uU, uU, uU, uU, uU, uU, uU, uU, uU, uU, uU, uU, uU, uU, uU, uU, uU, uU, uU, uU, uU, uU, uU, uU, uU, uU] [(.int ((XT.ushrL p1 (32 : Int32)).toInt32))])) rfl (by rw [hml]; rfl) (argsL := [(.int ((XT.ushrL p1 (32 : Int32)).toInt32))]) (rest := []) (lenOf pd_rmS rfl) rfl (by show 2 * 0 + _ ≤ _; exact Nat.le_of_eq rfl) (hb hby at_35) (fun _ _ => ⟨rfl, e97, (by decide : 0 + 0 ≤ _), (by decide : 0 + 0 ≤ _)⟩)
  dsimp only [Pt.U, Pt.locs, Pt.cells, Pt.slots] at X98 l98 y98 z98 st98 hQ98
  subst l98 y98 z98
  obtain ⟨y3, rfl, by3, N98, e98⟩ := hQ98
  refine OwnGo.pre (fun t k => st98 t k) ?_
  show OwnGo _ _ _ _ (T98.setTop (mkF m 38 #[sJ p0, uS, sJ p1, uS, sJ p2, uS, sI p3, sI mo, sI y0, sI y1, sI y2, uU, uU, uU, uU, uU, uU, uU, uU, uU, uU, uU, uU, uU, uU, uU, uU, uU, uU, uU, uU, uU, uU, uU, uU, uU, uU, uU, uU, uU, uU, uU, uU, uU, uU, uU, uU, uU, uU, uU, uU, uU, uU, uU, uU, uU, uU, uU, uU, uU, uU, uU, uU] [(.int y3)]))
  have M98 := Fr.app M97 N98
  obtain ⟨jy3, Fy3⟩ : ∃ i : Int, y3.toInt = i := ⟨_, rfl⟩
  rw [Fy3] at by3
  refine OwnGo.pre (fun t k => XS.istore X98.here hx rfl (hb hby at_38) rfl (l' := #[sJ p0, uS, sJ p1, uS, sJ p2, uS, sI p3, sI mo, sI y0, sI y1, sI y2, sI y3, uU, uU, uU, uU, uU, uU, uU, uU, uU, uU, uU, uU, uU, uU, uU, uU, uU, uU, uU, uU, uU, uU, uU, uU, uU, uU, uU, uU, uU, uU, uU, uU, uU, uU, uU, uU, uU, uU, uU, uU, uU, uU, uU, uU, uU, uU, uU, uU, uU, uU, uU]) rfl (XT.lload X98.here hx rfl (hb hby at_40) rfl (own_l2i X98.here hx rfl (hb hby at_42) rfl rfl k))) ?_
  show OwnGo _ _ _ _ (T98.setTop (mkF m 43 #[sJ p0, uS, sJ p1, uS, sJ p2, uS, sI p3, sI mo, sI y0, sI y1, sI y2, sI y3, uU, uU, uU, uU, uU, uU, uU, uU, uU, uU, uU, uU, uU, uU, uU, uU, uU, uU, uU, uU, uU, uU, uU, uU, uU, uU, uU, uU, uU, uU, uU, uU, uU, uU, uU, uU, uU, uU, uU, uU, uU, uU, uU, uU, uU, uU, uU, uU, uU, uU, uU] [(.int p2.toInt32)]))
  obtain ⟨_, _, ⟨T99, L99, k99, n99⟩, -, X99, ⟨Lc99, hQ99, l99, y99, z99⟩, st99⟩ := Jvm.LawKit.callS X98 hx (y := (⟨"com/example/isochron/isochron/dsp/FourierSeparatePinLaw", "small", "(I)I"⟩ : MethodName)) hown (mvT hZ (hw _ (List.mem_of_getElem? (i := 0) rfl))) (mvT hZ (hw _ (List.mem_of_getElem? (i := 1) rfl))) (mvT hZ (hw _ (List.mem_of_getElem? (i := 2) rfl))) (mvT hZ (hw _ (List.mem_of_getElem? (i := 3) rfl))) (by decide) (backOf (W := 0) (rmS l Z a0 hw [] p2.toInt32 h0 n0 Z0 ) hZ (hw _ (List.mem_of_getElem? (i := 3) rfl)) (hw _ (List.mem_of_getElem? (i := 2) rfl)) (by decide) (by decide)) (g := (mkF m 43 #[sJ p0, uS, sJ p1, uS, sJ p2, uS, sI p3, sI mo, sI y0, sI y1, sI y2, sI y3, uU, uU, uU, uU, uU, uU, uU, uU, uU, uU, uU, uU, uU, uU, uU, uU, uU, uU, uU, uU, uU, uU, uU, uU, uU, uU, uU, uU, uU, uU, uU, uU, uU, uU, uU, uU, uU, uU, uU, uU, uU, uU, uU, uU, uU, uU, uU, uU, uU, uU, uU] [(.int p2.toInt32)])) rfl (by rw [hml]; rfl) (argsL := [(.int p2.toInt32)]) (rest := []) (lenOf pd_rmS rfl) rfl (by show 2 * 0 + _ ≤ _; exact Nat.le_of_eq rfl) (hb hby at_43) (fun _ _ => ⟨rfl, e98, (by decide : 0 + 0 ≤ _), (by decide : 0 + 0 ≤ _)⟩)
  dsimp only [Pt.U, Pt.locs, Pt.cells, Pt.slots] at X99 l99 y99 z99 st99 hQ99
  subst l99 y99 z99
  obtain ⟨y4, rfl, by4, N99, e99⟩ := hQ99
  refine OwnGo.pre (fun t k => st99 t k) ?_
  show OwnGo _ _ _ _ (T99.setTop (mkF m 46 #[sJ p0, uS, sJ p1, uS, sJ p2, uS, sI p3, sI mo, sI y0, sI y1, sI y2, sI y3, uU, uU, uU, uU, uU, uU, uU, uU, uU, uU, uU, uU, uU, uU, uU, uU, uU, uU, uU, uU, uU, uU, uU, uU, uU, uU, uU, uU, uU, uU, uU, uU, uU, uU, uU, uU, uU, uU, uU, uU, uU, uU, uU, uU, uU, uU, uU, uU, uU, uU, uU] [(.int y4)]))
  have M99 := Fr.app M98 N99
  obtain ⟨jy4, Fy4⟩ : ∃ i : Int, y4.toInt = i := ⟨_, rfl⟩
  rw [Fy4] at by4
  refine OwnGo.pre (fun t k => XS.istore X99.here hx rfl (hb hby at_46) rfl (l' := #[sJ p0, uS, sJ p1, uS, sJ p2, uS, sI p3, sI mo, sI y0, sI y1, sI y2, sI y3, sI y4, uU, uU, uU, uU, uU, uU, uU, uU, uU, uU, uU, uU, uU, uU, uU, uU, uU, uU, uU, uU, uU, uU, uU, uU, uU, uU, uU, uU, uU, uU, uU, uU, uU, uU, uU, uU, uU, uU, uU, uU, uU, uU, uU, uU, uU, uU, uU, uU, uU, uU]) rfl (XT.lload X99.here hx rfl (hb hby at_48) rfl (XS.bipush X99.here hx rfl (hb hby at_50) (own_lushr X99.here hx rfl (hb hby at_52) rfl rfl (own_l2i X99.here hx rfl (hb hby at_53) rfl rfl k))))) ?_
  show OwnGo _ _ _ _ (T99.setTop (mkF m 54 #[sJ p0, uS, sJ p1, uS, sJ p2, uS, sI p3, sI mo, sI y0, sI y1, sI y2, sI y3, sI y4, uU, uU, uU, uU, uU, uU, uU, uU, uU, uU, uU, uU, uU, uU, uU, uU, uU, uU, uU, uU, uU, uU, uU, uU, uU, uU, uU, uU, uU, uU, uU, uU, uU, uU, uU, uU, uU, uU, uU, uU, uU, uU, uU, uU, uU, uU, uU, uU, uU, uU] [(.int ((XT.ushrL p2 (32 : Int32)).toInt32))]))
  obtain ⟨_, _, ⟨T100, L100, k100, n100⟩, -, X100, ⟨Lc100, hQ100, l100, y100, z100⟩, st100⟩ := Jvm.LawKit.callS X99 hx (y := (⟨"com/example/isochron/isochron/dsp/FourierSeparatePinLaw", "small", "(I)I"⟩ : MethodName)) hown (mvT hZ (hw _ (List.mem_of_getElem? (i := 0) rfl))) (mvT hZ (hw _ (List.mem_of_getElem? (i := 1) rfl))) (mvT hZ (hw _ (List.mem_of_getElem? (i := 2) rfl))) (mvT hZ (hw _ (List.mem_of_getElem? (i := 3) rfl))) (by decide) (backOf (W := 0) (rmS l Z a0 hw [] ((XT.ushrL p2 (32 : Int32)).toInt32) h0 n0 Z0 ) hZ (hw _ (List.mem_of_getElem? (i := 3) rfl)) (hw _ (List.mem_of_getElem? (i := 2) rfl)) (by decide) (by decide)) (g := (mkF m 54 #[sJ p0, uS, sJ p1, uS, sJ p2, uS, sI p3, sI mo, sI y0, sI y1, sI y2, sI y3, sI y4, uU, uU, uU, uU, uU, uU, uU, uU, uU, uU, uU, uU, uU, uU, uU, uU, uU, uU, uU, uU, uU, uU, uU, uU, uU, uU, uU, uU, uU, uU, uU, uU, uU, uU, uU, uU, uU, uU, uU, uU, uU, uU, uU, uU, uU, uU, uU, uU, uU, uU] [(.int ((XT.ushrL p2 (32 : Int32)).toInt32))])) rfl (by rw [hml]; rfl) (argsL := [(.int ((XT.ushrL p2 (32 : Int32)).toInt32))]) (rest := []) (lenOf pd_rmS rfl) rfl (by show 2 * 0 + _ ≤ _; exact Nat.le_of_eq rfl) (hb hby at_54) (fun _ _ => ⟨rfl, e99, (by decide : 0 + 0 ≤ _), (by decide : 0 + 0 ≤ _)⟩)
  dsimp only [Pt.U, Pt.locs, Pt.cells, Pt.slots] at X100 l100 y100 z100 st100 hQ100
  subst l100 y100 z100
  obtain ⟨y5, rfl, by5, N100, e100⟩ := hQ100
  refine OwnGo.pre (fun t k => st100 t k) ?_
  show OwnGo _ _ _ _ (T100.setTop (mkF m 57 #[sJ p0, uS, sJ p1, uS, sJ p2, uS, sI p3, sI mo, sI y0, sI y1, sI y2, sI y3, sI y4, uU, uU, uU, uU, uU, uU, uU, uU, uU, uU, uU, uU, uU, uU, uU, uU, uU, uU, uU, uU, uU, uU, uU, uU, uU, uU, uU, uU, uU, uU, uU, uU, uU, uU, uU, uU, uU, uU, uU, uU, uU, uU, uU, uU, uU, uU, uU, uU, uU, uU] [(.int y5)]))
  have M100 := Fr.app M99 N100
  obtain ⟨jy5, Fy5⟩ : ∃ i : Int, y5.toInt = i := ⟨_, rfl⟩
  rw [Fy5] at by5
  refine OwnGo.pre (fun t k => XS.istore X100.here hx rfl (hb hby at_57) rfl (l' := #[sJ p0, uS, sJ p1, uS, sJ p2, uS, sI p3, sI mo, sI y0, sI y1, sI y2, sI y3, sI y4, sI y5, uU, uU, uU, uU, uU, uU, uU, uU, uU, uU, uU, uU, uU, uU, uU, uU, uU, uU, uU, uU, uU, uU, uU, uU, uU, uU, uU, uU, uU, uU, uU, uU, uU, uU, uU, uU, uU, uU, uU, uU, uU, uU, uU, uU, uU, uU, uU, uU, uU]) rfl (XS.iload X100.here hx rfl (hb hby at_59) rfl (XS.iconst X100.here hx rfl (hb hby at_61) k))) ?_
  show OwnGo _ _ _ _ (T100.setTop (mkF m 62 #[sJ p0, uS, sJ p1, uS, sJ p2, uS, sI p3, sI mo, sI y0, sI y1, sI y2, sI y3, sI y4, sI y5, uU, uU, uU, uU, uU, uU, uU, uU, uU, uU, uU, uU, uU, uU, uU, uU, uU, uU, uU, uU, uU, uU, uU, uU, uU, uU, uU, uU, uU, uU, uU, uU, uU, uU, uU, uU, uU, uU, uU, uU, uU, uU, uU, uU, uU, uU, uU, uU, uU] [(.int (3 : Int32)), (.int mo)]))
  rcases cmo with rfl | rfl | rfl | rfl
  · skip
    show OwnGo _ _ _ _ (T100.setTop (mkF m 62 #[sJ p0, uS, sJ p1, uS, sJ p2, uS, sI p3, sI (0 : Int32), sI y0, sI y1, sI y2, sI y3, sI y4, sI y5, uU, uU, uU, uU, uU, uU, uU, uU, uU, uU, uU, uU, uU, uU, uU, uU, uU, uU, uU, uU, uU, uU, uU, uU, uU, uU, uU, uU, uU, uU, uU, uU, uU, uU, uU, uU, uU, uU, uU, uU, uU, uU, uU, uU, uU, uU, uU, uU, uU] [(.int (3 : Int32)), (.int (0 : Int32))]))
    refine OwnGo.pre (fun t k => XS.icmpYes X100.here hx rfl (pc0 := 62) (pc' := 73) rfl (hb hby at_62) rfl (by decide) (by decide) (by decide) (XS.iconst X100.here hx rfl (hb hby at_73) k)) ?_
    show OwnGo _ _ _ _ (T100.setTop (mkF m 74 #[sJ p0, uS, sJ p1, uS, sJ p2, uS, sI p3, sI (0 : Int32), sI y0, sI y1, sI y2, sI y3, sI y4, sI y5, uU, uU, uU, uU, uU, uU, uU, uU, uU, uU, uU, uU, uU, uU, uU, uU, uU, uU, uU, uU, uU, uU, uU, uU, uU, uU, uU, uU, uU, uU, uU, uU, uU, uU, uU, uU, uU, uU, uU, uU, uU, uU, uU, uU, uU, uU, uU, uU, uU] [(.int (4 : Int32))]))
    obtain ⟨T101, h101, X101, e101, E101, A101, st101⟩ := own_newD X100 hx hZ (hw _ (List.mem_of_getElem? (i := 4) rfl)) e100 (g := (mkF m 74 #[sJ p0, uS, sJ p1, uS, sJ p2, uS, sI p3, sI (0 : Int32), sI y0, sI y1, sI y2, sI y3, sI y4, sI y5, uU, uU, uU, uU, uU, uU, uU, uU, uU, uU, uU, uU, uU, uU, uU, uU, uU, uU, uU, uU, uU, uU, uU, uU, uU, uU, uU, uU, uU, uU, uU, uU, uU, uU, uU, uU, uU, uU, uU, uU, uU, uU, uU, uU, uU, uU, uU, uU, uU] [(.int (4 : Int32))])) rfl (hb hby at_74) rfl (by decide) (n := 4) (by decide) (by decide) (by decide) (by decide)
    obtain ⟨a101, g101⟩ : ∃ z, z = h0.size := ⟨_, rfl⟩
    rw [← g101] at A101 st101
    have G101 : n0 ≤ a101 := Nat.le_trans Z0 (Nat.le_of_eq g101.symm)
    have Z101 : n0 ≤ h101.size := Nat.le_trans Z0 E101.1
    have A101n : OwnDA Z h101 a101 [0, 0, 0, 0] := A101
    refine OwnGo.pre (fun t k => st101 t k) ?_
    show OwnGo _ _ _ _ (T101.setTop (mkF m 76 #[sJ p0, uS, sJ p1, uS, sJ p2, uS, sI p3, sI (0 : Int32), sI y0, sI y1, sI y2, sI y3, sI y4, sI y5, uU, uU, uU, uU, uU, uU, uU, uU, uU, uU, uU, uU, uU, uU, uU, uU, uU, uU, uU, uU, uU, uU, uU, uU, uU, uU, uU, uU, uU, uU, uU, uU, uU, uU, uU, uU, uU, uU, uU, uU, uU, uU, uU, uU, uU, uU, uU, uU, uU] [(.ref a101)]))
    refine OwnGo.pre (fun t k => XS.astore X101.here hx rfl (hb hby at_76) rfl rfl (l' := #[sJ p0, uS, sJ p1, uS, sJ p2, uS, sI p3, sI (0 : Int32), sI y0, sI y1, sI y2, sI y3, sI y4, sI y5, sR a101, uU, uU, uU, uU, uU, uU, uU, uU, uU, uU, uU, uU, uU, uU, uU, uU, uU, uU, uU, uU, uU, uU, uU, uU, uU, uU, uU, uU, uU, uU, uU, uU, uU, uU, uU, uU, uU, uU, uU, uU, uU, uU, uU, uU, uU, uU, uU, uU]) rfl (XS.iconst X101.here hx rfl (hb hby at_78) k)) ?_
    show OwnGo _ _ _ _ (T101.setTop (mkF m 79 #[sJ p0, uS, sJ p1, uS, sJ p2, uS, sI p3, sI (0 : Int32), sI y0, sI y1, sI y2, sI y3, sI y4, sI y5, sR a101, uU, uU, uU, uU, uU, uU, uU, uU, uU, uU, uU, uU, uU, uU, uU, uU, uU, uU, uU, uU, uU, uU, uU, uU, uU, uU, uU, uU, uU, uU, uU, uU, uU, uU, uU, uU, uU, uU, uU, uU, uU, uU, uU, uU, uU, uU, uU, uU] [(.int (1 : Int32))]))
    obtain ⟨T102, h102, X102, e102, E102, A102, st102⟩ := own_newD X101 hx hZ (hw _ (List.mem_of_getElem? (i := 4) rfl)) e101 (g := (mkF m 79 #[sJ p0, uS, sJ p1, uS, sJ p2, uS, sI p3, sI (0 : Int32), sI y0, sI y1, sI y2, sI y3, sI y4, sI y5, sR a101, uU, uU, uU, uU, uU, uU, uU, uU, uU, uU, uU, uU, uU, uU, uU, uU, uU, uU, uU, uU, uU, uU, uU, uU, uU, uU, uU, uU, uU, uU, uU, uU, uU, uU, uU, uU, uU, uU, uU, uU, uU, uU, uU, uU, uU, uU, uU, uU] [(.int (1 : Int32))])) rfl (hb hby at_79) rfl (by decide) (n := 1) (by decide) (by decide) (by decide) (by decide)
    obtain ⟨a102, g102⟩ : ∃ z, z = h101.size := ⟨_, rfl⟩
    rw [← g102] at A102 st102
    have G102 : n0 ≤ a102 := Nat.le_trans Z101 (Nat.le_of_eq g102.symm)
    have Z102 : n0 ≤ h102.size := Nat.le_trans Z101 E102.1
    have A102n : OwnDA Z h102 a102 [0] := A102
    have nea101_102 : a101 ≠ a102 := (Nat.ne_of_lt (Nat.lt_of_lt_of_le A101n.lt (Nat.le_of_eq g102.symm)))
    have A102_a101 := A101n.ex E102
    refine OwnGo.pre (fun t k => st102 t k) ?_
    show OwnGo _ _ _ _ (T102.setTop (mkF m 81 #[sJ p0, uS, sJ p1, uS, sJ p2, uS, sI p3, sI (0 : Int32), sI y0, sI y1, sI y2, sI y3, sI y4, sI y5, sR a101, uU, uU, uU, uU, uU, uU, uU, uU, uU, uU, uU, uU, uU, uU, uU, uU, uU, uU, uU, uU, uU, uU, uU, uU, uU, uU, uU, uU, uU, uU, uU, uU, uU, uU, uU, uU, uU, uU, uU, uU, uU, uU, uU, uU, uU, uU, uU, uU] [(.ref a102)]))
    refine OwnGo.pre (fun t k => XS.astore X102.here hx rfl (hb hby at_81) rfl rfl (l' := #[sJ p0, uS, sJ p1, uS, sJ p2, uS, sI p3, sI (0 : Int32), sI y0, sI y1, sI y2, sI y3, sI y4, sI y5, sR a101, sR a102, uU, uU, uU, uU, uU, uU, uU, uU, uU, uU, uU, uU, uU, uU, uU, uU, uU, uU, uU, uU, uU, uU, uU, uU, uU, uU, uU, uU, uU, uU, uU, uU, uU, uU, uU, uU, uU, uU, uU, uU, uU, uU, uU, uU, uU, uU, uU]) rfl (XS.iconst X102.here hx rfl (hb hby at_83) k)) ?_
    show OwnGo _ _ _ _ (T102.setTop (mkF m 84 #[sJ p0, uS, sJ p1, uS, sJ p2, uS, sI p3, sI (0 : Int32), sI y0, sI y1, sI y2, sI y3, sI y4, sI y5, sR a101, sR a102, uU, uU, uU, uU, uU, uU, uU, uU, uU, uU, uU, uU, uU, uU, uU, uU, uU, uU, uU, uU, uU, uU, uU, uU, uU, uU, uU, uU, uU, uU, uU, uU, uU, uU, uU, uU, uU, uU, uU, uU, uU, uU, uU, uU, uU, uU, uU] [(.int (1 : Int32))]))
    obtain ⟨T103, h103, X103, e103, E103, A103, st103⟩ := own_newD X102 hx hZ (hw _ (List.mem_of_getElem? (i := 4) rfl)) e102 (g := (mkF m 84 #[sJ p0, uS, sJ p1, uS, sJ p2, uS, sI p3, sI (0 : Int32), sI y0, sI y1, sI y2, sI y3, sI y4, sI y5, sR a101, sR a102, uU, uU, uU, uU, uU, uU, uU, uU, uU, uU, uU, uU, uU, uU, uU, uU, uU, uU, uU, uU, uU, uU, uU, uU, uU, uU, uU, uU, uU, uU, uU, uU, uU, uU, uU, uU, uU, uU, uU, uU, uU, uU, uU, uU, uU, uU, uU] [(.int (1 : Int32))])) rfl (hb hby at_84) rfl (by decide) (n := 1) (by decide) (by decide) (by decide) (by decide)
    obtain ⟨a103, g103⟩ : ∃ z, z = h102.size := ⟨_, rfl⟩
    rw [← g103] at A103 st103
    have G103 : n0 ≤ a103 := Nat.le_trans Z102 (Nat.le_of_eq g103.symm)
    have Z103 : n0 ≤ h103.size := Nat.le_trans Z102 E103.1
    have A103n : OwnDA Z h103 a103 [0] := A103
    have nea101_103 : a101 ≠ a103 := (Nat.ne_of_lt (Nat.lt_of_lt_of_le A102_a101.lt (Nat.le_of_eq g103.symm)))
    have A103_a101 := A102_a101.ex E103
    have nea102_103 : a102 ≠ a103 := (Nat.ne_of_lt (Nat.lt_of_lt_of_le A102n.lt (Nat.le_of_eq g103.symm)))
    have A103_a102 := A102n.ex E103
    refine OwnGo.pre (fun t k => st103 t k) ?_
    show OwnGo _ _ _ _ (T103.setTop (mkF m 86 #[sJ p0, uS, sJ p1, uS, sJ p2, uS, sI p3, sI (0 : Int32), sI y0, sI y1, sI y2, sI y3, sI y4, sI y5, sR a101, sR a102, uU, uU, uU, uU, uU, uU, uU, uU, uU, uU, uU, uU, uU, uU, uU, uU, uU, uU, uU, uU, uU, uU, uU, uU, uU, uU, uU, uU, uU, uU, uU, uU, uU, uU, uU, uU, uU, uU, uU, uU, uU, uU, uU, uU, uU, uU, uU] [(.ref a103)]))
    refine OwnGo.pre (fun t k => XS.astore X103.here hx rfl (hb hby at_86) rfl rfl (l' := #[sJ p0, uS, sJ p1, uS, sJ p2, uS, sI p3, sI (0 : Int32), sI y0, sI y1, sI y2, sI y3, sI y4, sI y5, sR a101, sR a102, sR a103, uU, uU, uU, uU, uU, uU, uU, uU, uU, uU, uU, uU, uU, uU, uU, uU, uU, uU, uU, uU, uU, uU, uU, uU, uU, uU, uU, uU, uU, uU, uU, uU, uU, uU, uU, uU, uU, uU, uU, uU, uU, uU, uU, uU, uU, uU]) rfl (XS.iconst X103.here hx rfl (hb hby at_88) k)) ?_
    show OwnGo _ _ _ _ (T103.setTop (mkF m 89 #[sJ p0, uS, sJ p1, uS, sJ p2, uS, sI p3, sI (0 : Int32), sI y0, sI y1, sI y2, sI y3, sI y4, sI y5, sR a101, sR a102, sR a103, uU, uU, uU, uU, uU, uU, uU, uU, uU, uU, uU, uU, uU, uU, uU, uU, uU, uU, uU, uU, uU, uU, uU, uU, uU, uU, uU, uU, uU, uU, uU, uU, uU, uU, uU, uU, uU, uU, uU, uU, uU, uU, uU, uU, uU, uU] [(.int (1 : Int32))]))
    obtain ⟨T104, h104, X104, e104, E104, A104, st104⟩ := own_newD X103 hx hZ (hw _ (List.mem_of_getElem? (i := 4) rfl)) e103 (g := (mkF m 89 #[sJ p0, uS, sJ p1, uS, sJ p2, uS, sI p3, sI (0 : Int32), sI y0, sI y1, sI y2, sI y3, sI y4, sI y5, sR a101, sR a102, sR a103, uU, uU, uU, uU, uU, uU, uU, uU, uU, uU, uU, uU, uU, uU, uU, uU, uU, uU, uU, uU, uU, uU, uU, uU, uU, uU, uU, uU, uU, uU, uU, uU, uU, uU, uU, uU, uU, uU, uU, uU, uU, uU, uU, uU, uU, uU] [(.int (1 : Int32))])) rfl (hb hby at_89) rfl (by decide) (n := 1) (by decide) (by decide) (by decide) (by decide)
    obtain ⟨a104, g104⟩ : ∃ z, z = h103.size := ⟨_, rfl⟩
    rw [← g104] at A104 st104
    have G104 : n0 ≤ a104 := Nat.le_trans Z103 (Nat.le_of_eq g104.symm)
    have Z104 : n0 ≤ h104.size := Nat.le_trans Z103 E104.1
    have A104n : OwnDA Z h104 a104 [0] := A104
    have nea101_104 : a101 ≠ a104 := (Nat.ne_of_lt (Nat.lt_of_lt_of_le A103_a101.lt (Nat.le_of_eq g104.symm)))
    have A104_a101 := A103_a101.ex E104
    have nea102_104 : a102 ≠ a104 := (Nat.ne_of_lt (Nat.lt_of_lt_of_le A103_a102.lt (Nat.le_of_eq g104.symm)))
    have A104_a102 := A103_a102.ex E104
    have nea103_104 : a103 ≠ a104 := (Nat.ne_of_lt (Nat.lt_of_lt_of_le A103n.lt (Nat.le_of_eq g104.symm)))
    have A104_a103 := A103n.ex E104
    refine OwnGo.pre (fun t k => st104 t k) ?_
    show OwnGo _ _ _ _ (T104.setTop (mkF m 91 #[sJ p0, uS, sJ p1, uS, sJ p2, uS, sI p3, sI (0 : Int32), sI y0, sI y1, sI y2, sI y3, sI y4, sI y5, sR a101, sR a102, sR a103, uU, uU, uU, uU, uU, uU, uU, uU, uU, uU, uU, uU, uU, uU, uU, uU, uU, uU, uU, uU, uU, uU, uU, uU, uU, uU, uU, uU, uU, uU, uU, uU, uU, uU, uU, uU, uU, uU, uU, uU, uU, uU, uU, uU, uU, uU] [(.ref a104)]))
    refine OwnGo.pre (fun t k => XS.astore X104.here hx rfl (hb hby at_91) rfl rfl (l' := #[sJ p0, uS, sJ p1, uS, sJ p2, uS, sI p3, sI (0 : Int32), sI y0, sI y1, sI y2, sI y3, sI y4, sI y5, sR a101, sR a102, sR a103, sR a104, uU, uU, uU, uU, uU, uU, uU, uU, uU, uU, uU, uU, uU, uU, uU, uU, uU, uU, uU, uU, uU, uU, uU, uU, uU, uU, uU, uU, uU, uU, uU, uU, uU, uU, uU, uU, uU, uU, uU, uU, uU, uU, uU, uU, uU]) rfl (XS.iconst X104.here hx rfl (hb hby at_93) k)) ?_
    show OwnGo _ _ _ _ (T104.setTop (mkF m 94 #[sJ p0, uS, sJ p1, uS, sJ p2, uS, sI p3, sI (0 : Int32), sI y0, sI y1, sI y2, sI y3, sI y4, sI y5, sR a101, sR a102, sR a103, sR a104, uU, uU, uU, uU, uU, uU, uU, uU, uU, uU, uU, uU, uU, uU, uU, uU, uU, uU, uU, uU, uU, uU, uU, uU, uU, uU, uU, uU, uU, uU, uU, uU, uU, uU, uU, uU, uU, uU, uU, uU, uU, uU, uU, uU, uU] [(.int (1 : Int32))]))
    obtain ⟨T105, h105, X105, e105, E105, A105, st105⟩ := own_newD X104 hx hZ (hw _ (List.mem_of_getElem? (i := 4) rfl)) e104 (g := (mkF m 94 #[sJ p0, uS, sJ p1, uS, sJ p2, uS, sI p3, sI (0 : Int32), sI y0, sI y1, sI y2, sI y3, sI y4, sI y5, sR a101, sR a102, sR a103, sR a104, uU, uU, uU, uU, uU, uU, uU, uU, uU, uU, uU, uU, uU, uU, uU, uU, uU, uU, uU, uU, uU, uU, uU, uU, uU, uU, uU, uU, uU, uU, uU, uU, uU, uU, uU, uU, uU, uU, uU, uU, uU, uU, uU, uU, uU] [(.int (1 : Int32))])) rfl (hb hby at_94) rfl (by decide) (n := 1) (by decide) (by decide) (by decide) (by decide)
    obtain ⟨a105, g105⟩ : ∃ z, z = h104.size := ⟨_, rfl⟩
    rw [← g105] at A105 st105
    have G105 : n0 ≤ a105 := Nat.le_trans Z104 (Nat.le_of_eq g105.symm)
    have Z105 : n0 ≤ h105.size := Nat.le_trans Z104 E105.1
    have A105n : OwnDA Z h105 a105 [0] := A105
    have nea101_105 : a101 ≠ a105 := (Nat.ne_of_lt (Nat.lt_of_lt_of_le A104_a101.lt (Nat.le_of_eq g105.symm)))
    have A105_a101 := A104_a101.ex E105
    have nea102_105 : a102 ≠ a105 := (Nat.ne_of_lt (Nat.lt_of_lt_of_le A104_a102.lt (Nat.le_of_eq g105.symm)))
    have A105_a102 := A104_a102.ex E105
    have nea103_105 : a103 ≠ a105 := (Nat.ne_of_lt (Nat.lt_of_lt_of_le A104_a103.lt (Nat.le_of_eq g105.symm)))
    have A105_a103 := A104_a103.ex E105
    have nea104_105 : a104 ≠ a105 := (Nat.ne_of_lt (Nat.lt_of_lt_of_le A104n.lt (Nat.le_of_eq g105.symm)))
    have A105_a104 := A104n.ex E105
    refine OwnGo.pre (fun t k => st105 t k) ?_
    show OwnGo _ _ _ _ (T105.setTop (mkF m 96 #[sJ p0, uS, sJ p1, uS, sJ p2, uS, sI p3, sI (0 : Int32), sI y0, sI y1, sI y2, sI y3, sI y4, sI y5, sR a101, sR a102, sR a103, sR a104, uU, uU, uU, uU, uU, uU, uU, uU, uU, uU, uU, uU, uU, uU, uU, uU, uU, uU, uU, uU, uU, uU, uU, uU, uU, uU, uU, uU, uU, uU, uU, uU, uU, uU, uU, uU, uU, uU, uU, uU, uU, uU, uU, uU, uU] [(.ref a105)]))
    refine OwnGo.pre (fun t k => XS.astore X105.here hx rfl (hb hby at_96) rfl rfl (l' := #[sJ p0, uS, sJ p1, uS, sJ p2, uS, sI p3, sI (0 : Int32), sI y0, sI y1, sI y2, sI y3, sI y4, sI y5, sR a101, sR a102, sR a103, sR a104, sR a105, uU, uU, uU, uU, uU, uU, uU, uU, uU, uU, uU, uU, uU, uU, uU, uU, uU, uU, uU, uU, uU, uU, uU, uU, uU, uU, uU, uU, uU, uU, uU, uU, uU, uU, uU, uU, uU, uU, uU, uU, uU, uU, uU, uU]) rfl (XS.aload X105.here hx rfl (hb hby at_98) rfl rfl (XS.astore X105.here hx rfl (hb hby at_100) rfl rfl (l' := #[sJ p0, uS, sJ p1, uS, sJ p2, uS, sI p3, sI (0 : Int32), sI y0, sI y1, sI y2, sI y3, sI y4, sI y5, sR a101, sR a102, sR a103, sR a104, sR a105, sR a101, uU, uU, uU, uU, uU, uU, uU, uU, uU, uU, uU, uU, uU, uU, uU, uU, uU, uU, uU, uU, uU, uU, uU, uU, uU, uU, uU, uU, uU, uU, uU, uU, uU, uU, uU, uU, uU, uU, uU, uU, uU, uU, uU]) rfl (XS.aload X105.here hx rfl (hb hby at_102) rfl rfl (XS.astore X105.here hx rfl (hb hby at_104) rfl rfl (l' := #[sJ p0, uS, sJ p1, uS, sJ p2, uS, sI p3, sI (0 : Int32), sI y0, sI y1, sI y2, sI y3, sI y4, sI y5, sR a101, sR a102, sR a103, sR a104, sR a105, sR a101, sR a101, uU, uU, uU, uU, uU, uU, uU, uU, uU, uU, uU, uU, uU, uU, uU, uU, uU, uU, uU, uU, uU, uU, uU, uU, uU, uU, uU, uU, uU, uU, uU, uU, uU, uU, uU, uU, uU, uU, uU, uU, uU, uU]) rfl (XS.aload X105.here hx rfl (hb hby at_106) rfl rfl (XS.astore X105.here hx rfl (hb hby at_108) rfl rfl (l' := #[sJ p0, uS, sJ p1, uS, sJ p2, uS, sI p3, sI (0 : Int32), sI y0, sI y1, sI y2, sI y3, sI y4, sI y5, sR a101, sR a102, sR a103, sR a104, sR a105, sR a101, sR a101, sR a101, uU, uU, uU, uU, uU, uU, uU, uU, uU, uU, uU, uU, uU, uU, uU, uU, uU, uU, uU, uU, uU, uU, uU, uU, uU, uU, uU, uU, uU, uU, uU, uU, uU, uU, uU, uU, uU, uU, uU, uU, uU]) rfl (XS.aload X105.here hx rfl (hb hby at_110) rfl rfl k)))))))) ?_
    show OwnGo _ _ _ _ (T105.setTop (mkF m 112 #[sJ p0, uS, sJ p1, uS, sJ p2, uS, sI p3, sI (0 : Int32), sI y0, sI y1, sI y2, sI y3, sI y4, sI y5, sR a101, sR a102, sR a103, sR a104, sR a105, sR a101, sR a101, sR a101, uU, uU, uU, uU, uU, uU, uU, uU, uU, uU, uU, uU, uU, uU, uU, uU, uU, uU, uU, uU, uU, uU, uU, uU, uU, uU, uU, uU, uU, uU, uU, uU, uU, uU, uU, uU, uU, uU, uU, uU, uU] [(.ref a101)]))
    refine OwnGo.pre (fun t k => XS.astore X105.here hx rfl (hb hby at_112) rfl rfl (l' := #[sJ p0, uS, sJ p1, uS, sJ p2, uS, sI p3, sI (0 : Int32), sI y0, sI y1, sI y2, sI y3, sI y4, sI y5, sR a101, sR a102, sR a103, sR a104, sR a105, sR a101, sR a101, sR a101, sR a101, uU, uU, uU, uU, uU, uU, uU, uU, uU, uU, uU, uU, uU, uU, uU, uU, uU, uU, uU, uU, uU, uU, uU, uU, uU, uU, uU, uU, uU, uU, uU, uU, uU, uU, uU, uU, uU, uU, uU, uU]) rfl (XS.iconst X105.here hx rfl (hb hby at_114) (XS.istore X105.here hx rfl (hb hby at_115) rfl (l' := #[sJ p0, uS, sJ p1, uS, sJ p2, uS, sI p3, sI (0 : Int32), sI y0, sI y1, sI y2, sI y3, sI y4, sI y5, sR a101, sR a102, sR a103, sR a104, sR a105, sR a101, sR a101, sR a101, sR a101, sI (0 : Int32), uU, uU, uU, uU, uU, uU, uU, uU, uU, uU, uU, uU, uU, uU, uU, uU, uU, uU, uU, uU, uU, uU, uU, uU, uU, uU, uU, uU, uU, uU, uU, uU, uU, uU, uU, uU, uU, uU, uU]) rfl (XS.iconst X105.here hx rfl (hb hby at_117) (XS.istore X105.here hx rfl (hb hby at_118) rfl (l' := #[sJ p0, uS, sJ p1, uS, sJ p2, uS, sI p3, sI (0 : Int32), sI y0, sI y1, sI y2, sI y3, sI y4, sI y5, sR a101, sR a102, sR a103, sR a104, sR a105, sR a101, sR a101, sR a101, sR a101, sI (0 : Int32), sI (1 : Int32), uU, uU, uU, uU, uU, uU, uU, uU, uU, uU, uU, uU, uU, uU, uU, uU, uU, uU, uU, uU, uU, uU, uU, uU, uU, uU, uU, uU, uU, uU, uU, uU, uU, uU, uU, uU, uU, uU]) rfl (XS.iconst X105.here hx rfl (hb hby at_120) (XS.istore X105.here hx rfl (hb hby at_121) rfl (l' := #[sJ p0, uS, sJ p1, uS, sJ p2, uS, sI p3, sI (0 : Int32), sI y0, sI y1, sI y2, sI y3, sI y4, sI y5, sR a101, sR a102, sR a103, sR a104, sR a105, sR a101, sR a101, sR a101, sR a101, sI (0 : Int32), sI (1 : Int32), sI (0 : Int32), uU, uU, uU, uU, uU, uU, uU, uU, uU, uU, uU, uU, uU, uU, uU, uU, uU, uU, uU, uU, uU, uU, uU, uU, uU, uU, uU, uU, uU, uU, uU, uU, uU, uU, uU, uU, uU]) rfl (XS.iconst X105.here hx rfl (hb hby at_123) k)))))))) ?_
    show OwnGo _ _ _ _ (T105.setTop (mkF m 124 #[sJ p0, uS, sJ p1, uS, sJ p2, uS, sI p3, sI (0 : Int32), sI y0, sI y1, sI y2, sI y3, sI y4, sI y5, sR a101, sR a102, sR a103, sR a104, sR a105, sR a101, sR a101, sR a101, sR a101, sI (0 : Int32), sI (1 : Int32), sI (0 : Int32), uU, uU, uU, uU, uU, uU, uU, uU, uU, uU, uU, uU, uU, uU, uU, uU, uU, uU, uU, uU, uU, uU, uU, uU, uU, uU, uU, uU, uU, uU, uU, uU, uU, uU, uU, uU, uU] [(.int (1 : Int32))]))
    refine OwnGo.pre (fun t k => XS.istore X105.here hx rfl (hb hby at_124) rfl (l' := #[sJ p0, uS, sJ p1, uS, sJ p2, uS, sI p3, sI (0 : Int32), sI y0, sI y1, sI y2, sI y3, sI y4, sI y5, sR a101, sR a102, sR a103, sR a104, sR a105, sR a101, sR a101, sR a101, sR a101, sI (0 : Int32), sI (1 : Int32), sI (0 : Int32), sI (1 : Int32), uU, uU, uU, uU, uU, uU, uU, uU, uU, uU, uU, uU, uU, uU, uU, uU, uU, uU, uU, uU, uU, uU, uU, uU, uU, uU, uU, uU, uU, uU, uU, uU, uU, uU, uU, uU]) rfl (XS.iload X105.here hx rfl (hb hby at_126) rfl (XS.ifNo X105.here hx rfl (hb hby at_128) rfl (by decide) (XS.aload X105.here hx rfl (hb hby at_131) rfl rfl (XS.astore X105.here hx rfl (hb hby at_133) rfl rfl (l' := #[sJ p0, uS, sJ p1, uS, sJ p2, uS, sI p3, sI (0 : Int32), sI y0, sI y1, sI y2, sI y3, sI y4, sI y5, sR a101, sR a102, sR a103, sR a104, sR a105, sR a102, sR a101, sR a101, sR a101, sI (0 : Int32), sI (1 : Int32), sI (0 : Int32), sI (1 : Int32), uU, uU, uU, uU, uU, uU, uU, uU, uU, uU, uU, uU, uU, uU, uU, uU, uU, uU, uU, uU, uU, uU, uU, uU, uU, uU, uU, uU, uU, uU, uU, uU, uU, uU, uU, uU]) rfl (XS.aload X105.here hx rfl (hb hby at_135) rfl rfl (XS.astore X105.here hx rfl (hb hby at_137) rfl rfl (l' := #[sJ p0, uS, sJ p1, uS, sJ p2, uS, sI p3, sI (0 : Int32), sI y0, sI y1, sI y2, sI y3, sI y4, sI y5, sR a101, sR a102, sR a103, sR a104, sR a105, sR a102, sR a103, sR a101, sR a101, sI (0 : Int32), sI (1 : Int32), sI (0 : Int32), sI (1 : Int32), uU, uU, uU, uU, uU, uU, uU, uU, uU, uU, uU, uU, uU, uU, uU, uU, uU, uU, uU, uU, uU, uU, uU, uU, uU, uU, uU, uU, uU, uU, uU, uU, uU, uU, uU, uU]) rfl (XS.aload X105.here hx rfl (hb hby at_139) rfl rfl k)))))))) ?_
    show OwnGo _ _ _ _ (T105.setTop (mkF m 141 #[sJ p0, uS, sJ p1, uS, sJ p2, uS, sI p3, sI (0 : Int32), sI y0, sI y1, sI y2, sI y3, sI y4, sI y5, sR a101, sR a102, sR a103, sR a104, sR a105, sR a102, sR a103, sR a101, sR a101, sI (0 : Int32), sI (1 : Int32), sI (0 : Int32), sI (1 : Int32), uU, uU, uU, uU, uU, uU, uU, uU, uU, uU, uU, uU, uU, uU, uU, uU, uU, uU, uU, uU, uU, uU, uU, uU, uU, uU, uU, uU, uU, uU, uU, uU, uU, uU, uU, uU] [(.ref a104)]))
    refine OwnGo.pre (fun t k => XS.astore X105.here hx rfl (hb hby at_141) rfl rfl (l' := #[sJ p0, uS, sJ p1, uS, sJ p2, uS, sI p3, sI (0 : Int32), sI y0, sI y1, sI y2, sI y3, sI y4, sI y5, sR a101, sR a102, sR a103, sR a104, sR a105, sR a102, sR a103, sR a104, sR a101, sI (0 : Int32), sI (1 : Int32), sI (0 : Int32), sI (1 : Int32), uU, uU, uU, uU, uU, uU, uU, uU, uU, uU, uU, uU, uU, uU, uU, uU, uU, uU, uU, uU, uU, uU, uU, uU, uU, uU, uU, uU, uU, uU, uU, uU, uU, uU, uU, uU]) rfl (XS.aload X105.here hx rfl (hb hby at_143) rfl rfl (XS.astore X105.here hx rfl (hb hby at_145) rfl rfl (l' := #[sJ p0, uS, sJ p1, uS, sJ p2, uS, sI p3, sI (0 : Int32), sI y0, sI y1, sI y2, sI y3, sI y4, sI y5, sR a101, sR a102, sR a103, sR a104, sR a105, sR a102, sR a103, sR a104, sR a105, sI (0 : Int32), sI (1 : Int32), sI (0 : Int32), sI (1 : Int32), uU, uU, uU, uU, uU, uU, uU, uU, uU, uU, uU, uU, uU, uU, uU, uU, uU, uU, uU, uU, uU, uU, uU, uU, uU, uU, uU, uU, uU, uU, uU, uU, uU, uU, uU, uU]) rfl (XS.iconst X105.here hx rfl (hb hby at_147) (XS.istore X105.here hx rfl (hb hby at_148) rfl (l' := #[sJ p0, uS, sJ p1, uS, sJ p2, uS, sI p3, sI (0 : Int32), sI y0, sI y1, sI y2, sI y3, sI y4, sI y5, sR a101, sR a102, sR a103, sR a104, sR a105, sR a102, sR a103, sR a104, sR a105, sI (0 : Int32), sI (0 : Int32), sI (0 : Int32), sI (1 : Int32), uU, uU, uU, uU, uU, uU, uU, uU, uU, uU, uU, uU, uU, uU, uU, uU, uU, uU, uU, uU, uU, uU, uU, uU, uU, uU, uU, uU, uU, uU, uU, uU, uU, uU, uU, uU]) rfl (XS.iconst X105.here hx rfl (hb hby at_150) (XS.istore X105.here hx rfl (hb hby at_151) rfl (l' := #[sJ p0, uS, sJ p1, uS, sJ p2, uS, sI p3, sI (0 : Int32), sI y0, sI y1, sI y2, sI y3, sI y4, sI y5, sR a101, sR a102, sR a103, sR a104, sR a105, sR a102, sR a103, sR a104, sR a105, sI (0 : Int32), sI (0 : Int32), sI (0 : Int32), sI (0 : Int32), uU, uU, uU, uU, uU, uU, uU, uU, uU, uU, uU, uU, uU, uU, uU, uU, uU, uU, uU, uU, uU, uU, uU, uU, uU, uU, uU, uU, uU, uU, uU, uU, uU, uU, uU, uU]) rfl (XS.goto X105.here hx rfl (pc0 := 153) (pc' := 195) rfl (hb hby at_153) (by decide) (by decide) k)))))))) ?_
    show OwnGo _ _ _ _ (T105.setTop (mkF m 195 #[sJ p0, uS, sJ p1, uS, sJ p2, uS, sI p3, sI (0 : Int32), sI y0, sI y1, sI y2, sI y3, sI y4, sI y5, sR a101, sR a102, sR a103, sR a104, sR a105, sR a102, sR a103, sR a104, sR a105, sI (0 : Int32), sI (0 : Int32), sI (0 : Int32), sI (0 : Int32), uU, uU, uU, uU, uU, uU, uU, uU, uU, uU, uU, uU, uU, uU, uU, uU, uU, uU, uU, uU, uU, uU, uU, uU, uU, uU, uU, uU, uU, uU, uU, uU, uU, uU, uU, uU] []))
    obtain ⟨d106, hd106⟩ : ∃ v, FP.i2d y2 = v := ⟨_, rfl⟩
    have D106 : OwnDS 0 jy2 d106 := by rw [← hd106, ← Fy2]; exact own_i2d _
    refine OwnGo.pre (fun t k => XS.aload X105.here hx rfl (hb hby at_195) rfl rfl (XS.iload X105.here hx rfl (hb hby at_197) rfl (XS.iload X105.here hx rfl (hb hby at_199) rfl (XS.i2dS X105.here hx rfl (hb hby at_201) rfl hd106 k)))) ?_
    show OwnGo _ _ _ _ (T105.setTop (mkF m 202 #[sJ p0, uS, sJ p1, uS, sJ p2, uS, sI p3, sI (0 : Int32), sI y0, sI y1, sI y2, sI y3, sI y4, sI y5, sR a101, sR a102, sR a103, sR a104, sR a105, sR a102, sR a103, sR a104, sR a105, sI (0 : Int32), sI (0 : Int32), sI (0 : Int32), sI (0 : Int32), uU, uU, uU, uU, uU, uU, uU, uU, uU, uU, uU, uU, uU, uU, uU, uU, uU, uU, uU, uU, uU, uU, uU, uU, uU, uU, uU, uU, uU, uU, uU, uU, uU, uU, uU, uU] [(.double d106), (.int (0 : Int32)), (.ref a104)]))
    obtain ⟨T107, h107, X107, e107, W107, A107, st107⟩ := own_daS X105 hx hZ e105 A105_a104 (by decide) (i := 0) (by decide) (by show 0 < 1; decide) (g := (mkF m 202 #[sJ p0, uS, sJ p1, uS, sJ p2, uS, sI p3, sI (0 : Int32), sI y0, sI y1, sI y2, sI y3, sI y4, sI y5, sR a101, sR a102, sR a103, sR a104, sR a105, sR a102, sR a103, sR a104, sR a105, sI (0 : Int32), sI (0 : Int32), sI (0 : Int32), sI (0 : Int32), uU, uU, uU, uU, uU, uU, uU, uU, uU, uU, uU, uU, uU, uU, uU, uU, uU, uU, uU, uU, uU, uU, uU, uU, uU, uU, uU, uU, uU, uU, uU, uU, uU, uU, uU, uU] [(.double d106), (.int (0 : Int32)), (.ref a104)])) rfl rfl (hb hby at_202)
    have A107n : OwnDA Z h107 a104 [d106] := A107
    have A107_a101 := A105_a101.ot W107 nea101_104
    have A107_a102 := A105_a102.ot W107 nea102_104
    have A107_a103 := A105_a103.ot W107 nea103_104
    have A107_a105 := A105n.ot W107 nea104_105.symm
    have N107 := Fr.snoc X107 M100 G104
    have Z107 : n0 ≤ h107.size := by rw [W107.size]; exact Z105
    refine OwnGo.pre (fun t k => st107 t k) ?_
    show OwnGo _ _ _ _ (T107.setTop (mkF m 203 #[sJ p0, uS, sJ p1, uS, sJ p2, uS, sI p3, sI (0 : Int32), sI y0, sI y1, sI y2, sI y3, sI y4, sI y5, sR a101, sR a102, sR a103, sR a104, sR a105, sR a102, sR a103, sR a104, sR a105, sI (0 : Int32), sI (0 : Int32), sI (0 : Int32), sI (0 : Int32), uU, uU, uU, uU, uU, uU, uU, uU, uU, uU, uU, uU, uU, uU, uU, uU, uU, uU, uU, uU, uU, uU, uU, uU, uU, uU, uU, uU, uU, uU, uU, uU, uU, uU, uU, uU] []))
    obtain ⟨d108, hd108⟩ : ∃ v, FP.i2d y3 = v := ⟨_, rfl⟩
    have D108 : OwnDS 0 jy3 d108 := by rw [← hd108, ← Fy3]; exact own_i2d _
    refine OwnGo.pre (fun t k => XS.aload X107.here hx rfl (hb hby at_203) rfl rfl (XS.iload X107.here hx rfl (hb hby at_205) rfl (XS.iload X107.here hx rfl (hb hby at_207) rfl (XS.i2dS X107.here hx rfl (hb hby at_209) rfl hd108 k)))) ?_
    show OwnGo _ _ _ _ (T107.setTop (mkF m 210 #[sJ p0, uS, sJ p1, uS, sJ p2, uS, sI p3, sI (0 : Int32), sI y0, sI y1, sI y2, sI y3, sI y4, sI y5, sR a101, sR a102, sR a103, sR a104, sR a105, sR a102, sR a103, sR a104, sR a105, sI (0 : Int32), sI (0 : Int32), sI (0 : Int32), sI (0 : Int32), uU, uU, uU, uU, uU, uU, uU, uU, uU, uU, uU, uU, uU, uU, uU, uU, uU, uU, uU, uU, uU, uU, uU, uU, uU, uU, uU, uU, uU, uU, uU, uU, uU, uU, uU, uU] [(.double d108), (.int (0 : Int32)), (.ref a105)]))
    obtain ⟨T109, h109, X109, e109, W109, A109, st109⟩ := own_daS X107 hx hZ e107 A107_a105 (by decide) (i := 0) (by decide) (by show 0 < 1; decide) (g := (mkF m 210 #[sJ p0, uS, sJ p1, uS, sJ p2, uS, sI p3, sI (0 : Int32), sI y0, sI y1, sI y2, sI y3, sI y4, sI y5, sR a101, sR a102, sR a103, sR a104, sR a105, sR a102, sR a103, sR a104, sR a105, sI (0 : Int32), sI (0 : Int32), sI (0 : Int32), sI (0 : Int32), uU, uU, uU, uU, uU, uU, uU, uU, uU, uU, uU, uU, uU, uU, uU, uU, uU, uU, uU, uU, uU, uU, uU, uU, uU, uU, uU, uU, uU, uU, uU, uU, uU, uU, uU, uU] [(.double d108), (.int (0 : Int32)), (.ref a105)])) rfl rfl (hb hby at_210)
    have A109n : OwnDA Z h109 a105 [d108] := A109
    have A109_a101 := A107_a101.ot W109 nea101_105
    have A109_a102 := A107_a102.ot W109 nea102_105
    have A109_a103 := A107_a103.ot W109 nea103_105
    have A109_a104 := A107n.ot W109 nea104_105
    have N109 := Fr.snoc X109 N107 G105
    have Z109 : n0 ≤ h109.size := by rw [W109.size]; exact Z107
    refine OwnGo.pre (fun t k => st109 t k) ?_
    show OwnGo _ _ _ _ (T109.setTop (mkF m 211 #[sJ p0, uS, sJ p1, uS, sJ p2, uS, sI p3, sI (0 : Int32), sI y0, sI y1, sI y2, sI y3, sI y4, sI y5, sR a101, sR a102, sR a103, sR a104, sR a105, sR a102, sR a103, sR a104, sR a105, sI (0 : Int32), sI (0 : Int32), sI (0 : Int32), sI (0 : Int32), uU, uU, uU, uU, uU, uU, uU, uU, uU, uU, uU, uU, uU, uU, uU, uU, uU, uU, uU, uU, uU, uU, uU, uU, uU, uU, uU, uU, uU, uU, uU, uU, uU, uU, uU, uU] []))
    obtain ⟨d110, hd110⟩ : ∃ v, FP.i2d y0 = v := ⟨_, rfl⟩
    have D110 : OwnDS 0 jy0 d110 := by rw [← hd110, ← Fy0]; exact own_i2d _
    refine OwnGo.pre (fun t k => XS.aload X109.here hx rfl (hb hby at_211) rfl rfl (XS.iload X109.here hx rfl (hb hby at_213) rfl (XS.iload X109.here hx rfl (hb hby at_215) rfl (XS.i2dS X109.here hx rfl (hb hby at_217) rfl hd110 k)))) ?_
    show OwnGo _ _ _ _ (T109.setTop (mkF m 218 #[sJ p0, uS, sJ p1, uS, sJ p2, uS, sI p3, sI (0 : Int32), sI y0, sI y1, sI y2, sI y3, sI y4, sI y5, sR a101, sR a102, sR a103, sR a104, sR a105, sR a102, sR a103, sR a104, sR a105, sI (0 : Int32), sI (0 : Int32), sI (0 : Int32), sI (0 : Int32), uU, uU, uU, uU, uU, uU, uU, uU, uU, uU, uU, uU, uU, uU, uU, uU, uU, uU, uU, uU, uU, uU, uU, uU, uU, uU, uU, uU, uU, uU, uU, uU, uU, uU, uU, uU] [(.double d110), (.int (0 : Int32)), (.ref a102)]))
    obtain ⟨T111, h111, X111, e111, W111, A111, st111⟩ := own_daS X109 hx hZ e109 A109_a102 (by decide) (i := 0) (by decide) (by show 0 < 1; decide) (g := (mkF m 218 #[sJ p0, uS, sJ p1, uS, sJ p2, uS, sI p3, sI (0 : Int32), sI y0, sI y1, sI y2, sI y3, sI y4, sI y5, sR a101, sR a102, sR a103, sR a104, sR a105, sR a102, sR a103, sR a104, sR a105, sI (0 : Int32), sI (0 : Int32), sI (0 : Int32), sI (0 : Int32), uU, uU, uU, uU, uU, uU, uU, uU, uU, uU, uU, uU, uU, uU, uU, uU, uU, uU, uU, uU, uU, uU, uU, uU, uU, uU, uU, uU, uU, uU, uU, uU, uU, uU, uU, uU] [(.double d110), (.int (0 : Int32)), (.ref a102)])) rfl rfl (hb hby at_218)
    have A111n : OwnDA Z h111 a102 [d110] := A111
    have A111_a101 := A109_a101.ot W111 nea101_102
    have A111_a103 := A109_a103.ot W111 nea102_103.symm
    have A111_a104 := A109_a104.ot W111 nea102_104.symm
    have A111_a105 := A109n.ot W111 nea102_105.symm
    have N111 := Fr.snoc X111 N109 G102
    have Z111 : n0 ≤ h111.size := by rw [W111.size]; exact Z109
    refine OwnGo.pre (fun t k => st111 t k) ?_
    show OwnGo _ _ _ _ (T111.setTop (mkF m 219 #[sJ p0, uS, sJ p1, uS, sJ p2, uS, sI p3, sI (0 : Int32), sI y0, sI y1, sI y2, sI y3, sI y4, sI y5, sR a101, sR a102, sR a103, sR a104, sR a105, sR a102, sR a103, sR a104, sR a105, sI (0 : Int32), sI (0 : Int32), sI (0 : Int32), sI (0 : Int32), uU, uU, uU, uU, uU, uU, uU, uU, uU, uU, uU, uU, uU, uU, uU, uU, uU, uU, uU, uU, uU, uU, uU, uU, uU, uU, uU, uU, uU, uU, uU, uU, uU, uU, uU, uU] []))
    obtain ⟨d112, hd112⟩ : ∃ v, FP.i2d y1 = v := ⟨_, rfl⟩
    have D112 : OwnDS 0 jy1 d112 := by rw [← hd112, ← Fy1]; exact own_i2d _
    refine OwnGo.pre (fun t k => XS.aload X111.here hx rfl (hb hby at_219) rfl rfl (XS.iload X111.here hx rfl (hb hby at_221) rfl (XS.iload X111.here hx rfl (hb hby at_223) rfl (XS.i2dS X111.here hx rfl (hb hby at_225) rfl hd112 k)))) ?_
    show OwnGo _ _ _ _ (T111.setTop (mkF m 226 #[sJ p0, uS, sJ p1, uS, sJ p2, uS, sI p3, sI (0 : Int32), sI y0, sI y1, sI y2, sI y3, sI y4, sI y5, sR a101, sR a102, sR a103, sR a104, sR a105, sR a102, sR a103, sR a104, sR a105, sI (0 : Int32), sI (0 : Int32), sI (0 : Int32), sI (0 : Int32), uU, uU, uU, uU, uU, uU, uU, uU, uU, uU, uU, uU, uU, uU, uU, uU, uU, uU, uU, uU, uU, uU, uU, uU, uU, uU, uU, uU, uU, uU, uU, uU, uU, uU, uU, uU] [(.double d112), (.int (0 : Int32)), (.ref a103)]))
    obtain ⟨T113, h113, X113, e113, W113, A113, st113⟩ := own_daS X111 hx hZ e111 A111_a103 (by decide) (i := 0) (by decide) (by show 0 < 1; decide) (g := (mkF m 226 #[sJ p0, uS, sJ p1, uS, sJ p2, uS, sI p3, sI (0 : Int32), sI y0, sI y1, sI y2, sI y3, sI y4, sI y5, sR a101, sR a102, sR a103, sR a104, sR a105, sR a102, sR a103, sR a104, sR a105, sI (0 : Int32), sI (0 : Int32), sI (0 : Int32), sI (0 : Int32), uU, uU, uU, uU, uU, uU, uU, uU, uU, uU, uU, uU, uU, uU, uU, uU, uU, uU, uU, uU, uU, uU, uU, uU, uU, uU, uU, uU, uU, uU, uU, uU, uU, uU, uU, uU] [(.double d112), (.int (0 : Int32)), (.ref a103)])) rfl rfl (hb hby at_226)
    have A113n : OwnDA Z h113 a103 [d112] := A113
    have A113_a101 := A111_a101.ot W113 nea101_103
    have A113_a102 := A111n.ot W113 nea102_103
    have A113_a104 := A111_a104.ot W113 nea103_104.symm
    have A113_a105 := A111_a105.ot W113 nea103_105.symm
    have N113 := Fr.snoc X113 N111 G103
    have Z113 : n0 ≤ h113.size := by rw [W113.size]; exact Z111
    refine OwnGo.pre (fun t k => st113 t k) ?_
    show OwnGo _ _ _ _ (T113.setTop (mkF m 227 #[sJ p0, uS, sJ p1, uS, sJ p2, uS, sI p3, sI (0 : Int32), sI y0, sI y1, sI y2, sI y3, sI y4, sI y5, sR a101, sR a102, sR a103, sR a104, sR a105, sR a102, sR a103, sR a104, sR a105, sI (0 : Int32), sI (0 : Int32), sI (0 : Int32), sI (0 : Int32), uU, uU, uU, uU, uU, uU, uU, uU, uU, uU, uU, uU, uU, uU, uU, uU, uU, uU, uU, uU, uU, uU, uU, uU, uU, uU, uU, uU, uU, uU, uU, uU, uU, uU, uU, uU] []))
    refine OwnGo.pre (fun t k => XS.aload X113.here hx rfl (hb hby at_227) rfl rfl (XS.iload X113.here hx rfl (hb hby at_229) rfl (XS.aload X113.here hx rfl (hb hby at_231) rfl rfl (XS.iload X113.here hx rfl (hb hby at_233) rfl (XS.aload X113.here hx rfl (hb hby at_235) rfl rfl (XS.iload X113.here hx rfl (hb hby at_237) rfl (XS.aload X113.here hx rfl (hb hby at_239) rfl rfl (XS.iload X113.here hx rfl (hb hby at_241) rfl k)))))))) ?_
    show OwnGo _ _ _ _ (T113.setTop (mkF m 243 #[sJ p0, uS, sJ p1, uS, sJ p2, uS, sI p3, sI (0 : Int32), sI y0, sI y1, sI y2, sI y3, sI y4, sI y5, sR a101, sR a102, sR a103, sR a104, sR a105, sR a102, sR a103, sR a104, sR a105, sI (0 : Int32), sI (0 : Int32), sI (0 : Int32), sI (0 : Int32), uU, uU, uU, uU, uU, uU, uU, uU, uU, uU, uU, uU, uU, uU, uU, uU, uU, uU, uU, uU, uU, uU, uU, uU, uU, uU, uU, uU, uU, uU, uU, uU, uU, uU, uU, uU] [(.int (0 : Int32)), (.ref a105), (.int (0 : Int32)), (.ref a104), (.int (0 : Int32)), (.ref a103), (.int (0 : Int32)), (.ref a102)]))
    obtain ⟨d114, hd114⟩ : ∃ v, FP.i2d y4 = v := ⟨_, rfl⟩
    have D114 : OwnDS 0 jy4 d114 := by rw [← hd114, ← Fy4]; exact own_i2d _
    obtain ⟨d115, hd115⟩ : ∃ v, FP.i2d y5 = v := ⟨_, rfl⟩
    have D115 : OwnDS 0 jy5 d115 := by rw [← hd115, ← Fy5]; exact own_i2d _
    refine OwnGo.pre (fun t k => XS.iload X113.here hx rfl (hb hby at_243) rfl (XS.i2dS X113.here hx rfl (hb hby at_245) rfl hd114 (XS.iload X113.here hx rfl (hb hby at_246) rfl (XS.i2dS X113.here hx rfl (hb hby at_248) rfl hd115 k)))) ?_
    show OwnGo _ _ _ _ (T113.setTop (mkF m 249 #[sJ p0, uS, sJ p1, uS, sJ p2, uS, sI p3, sI (0 : Int32), sI y0, sI y1, sI y2, sI y3, sI y4, sI y5, sR a101, sR a102, sR a103, sR a104, sR a105, sR a102, sR a103, sR a104, sR a105, sI (0 : Int32), sI (0 : Int32), sI (0 : Int32), sI (0 : Int32), uU, uU, uU, uU, uU, uU, uU, uU, uU, uU, uU, uU, uU, uU, uU, uU, uU, uU, uU, uU, uU, uU, uU, uU, uU, uU, uU, uU, uU, uU, uU, uU, uU, uU, uU, uU] [(.double d115), (.double d114), (.int (0 : Int32)), (.ref a105), (.int (0 : Int32)), (.ref a104), (.int (0 : Int32)), (.ref a103), (.int (0 : Int32)), (.ref a102)]))
    obtain ⟨_, _, ⟨T116, L116, k116, n116⟩, -, X116, ⟨Lc116, hQ116, l116, y116, z116⟩, st116⟩ := Jvm.LawKit.callS X113 hx (y := (⟨"com/example/isochron/isochron/dsp/Fourier", "separate", "([DI[DI[DI[DIDD)V"⟩ : MethodName)) hown (mvT hZ (hw _ (List.mem_of_getElem? (i := 5) rfl))) (mvT hZ (hw _ (List.mem_of_getElem? (i := 6) rfl))) (mvT hZ (hw _ (List.mem_of_getElem? (i := 7) rfl))) (mvT hZ (hw _ (List.mem_of_getElem? (i := 8) rfl))) (by decide) (backOf (W := 0) (rmK0 l Z a0 hw [] a102 a103 a104 a105 d110 d112 d106 d108 d114 d115 jy0 jy1 jy2 jy3 jy4 jy5 h113 n0 Z113 A113_a102 A113n A113_a104 A113_a105 nea102_103 nea102_104 nea102_105 nea103_104 nea103_105 nea104_105 G102 G103 G104 G105 D110 by0 D112 by1 D106 by2 D108 by3 D114 by4 D115 by5) hZ (hw _ (List.mem_of_getElem? (i := 8) rfl)) (hw _ (List.mem_of_getElem? (i := 7) rfl)) (by decide) (by decide)) (g := (mkF m 249 #[sJ p0, uS, sJ p1, uS, sJ p2, uS, sI p3, sI (0 : Int32), sI y0, sI y1, sI y2, sI y3, sI y4, sI y5, sR a101, sR a102, sR a103, sR a104, sR a105, sR a102, sR a103, sR a104, sR a105, sI (0 : Int32), sI (0 : Int32), sI (0 : Int32), sI (0 : Int32), uU, uU, uU, uU, uU, uU, uU, uU, uU, uU, uU, uU, uU, uU, uU, uU, uU, uU, uU, uU, uU, uU, uU, uU, uU, uU, uU, uU, uU, uU, uU, uU, uU, uU, uU, uU] [(.double d115), (.double d114), (.int (0 : Int32)), (.ref a105), (.int (0 : Int32)), (.ref a104), (.int (0 : Int32)), (.ref a103), (.int (0 : Int32)), (.ref a102)])) rfl (by rw [hml]; rfl) (argsL := [(.ref a102), (.int (0 : Int32)), (.ref a103), (.int (0 : Int32)), (.ref a104), (.int (0 : Int32)), (.ref a105), (.int (0 : Int32)), (.double d114), (.double d115)]) (rest := []) (lenOf pd_rmK0 rfl) rfl (by show 2 * 0 + _ ≤ _; exact Nat.le_of_eq rfl) (hb hby at_249) (fun _ _ => ⟨rfl, e113, (by decide : 5 + 0 ≤ _), (by decide : 8 + 0 ≤ _)⟩)
    dsimp only [Pt.U, Pt.locs, Pt.cells, Pt.slots] at X116 l116 y116 z116 st116 hQ116
    subst l116 y116 z116
    obtain ⟨ro0_0z, ro1_0z, ro2_0z, ro3_0z, rfl, Hro0_0z, Bjro0_0z, Hro1_0z, Bjro1_0z, Hro2_0z, Bjro2_0z, Hro3_0z, Bjro3_0z, AFo0z, AFo1z, AFo2z, AFo3z, KF116, N116, Z116⟩ := hQ116
    refine OwnGo.pre (fun t k => st116 t k) ?_
    show OwnGo _ _ _ _ (T116.setTop (mkF m 252 #[sJ p0, uS, sJ p1, uS, sJ p2, uS, sI p3, sI (0 : Int32), sI y0, sI y1, sI y2, sI y3, sI y4, sI y5, sR a101, sR a102, sR a103, sR a104, sR a105, sR a102, sR a103, sR a104, sR a105, sI (0 : Int32), sI (0 : Int32), sI (0 : Int32), sI (0 : Int32), uU, uU, uU, uU, uU, uU, uU, uU, uU, uU, uU, uU, uU, uU, uU, uU, uU, uU, uU, uU, uU, uU, uU, uU, uU, uU, uU, uU, uU, uU, uU, uU, uU, uU, uU, uU] []))
    have M116 := Fr.app N113 N116
    have A116_a101 := A113_a101.kp KF116 (ninS nea101_102 (ninS nea101_103 (ninS nea101_104 (ninS nea101_105 nin0))))
    obtain ⟨jro0_0z, hjro0_0z⟩ : ∃ i : Int, i = (((jy0 + jy2) * (1 : Int)) + ((jy4 * ((jy1 + jy3) * (1 : Int))) + (jy5 * ((jy2 - jy0) * (1 : Int))))) := ⟨_, rfl⟩
    rw [← hjro0_0z] at Hro0_0z Bjro0_0z
    obtain ⟨jro1_0z, hjro1_0z⟩ : ∃ i : Int, i = (((jy1 - jy3) * (1 : Int)) + ((jy4 * ((jy2 - jy0) * (1 : Int))) - (jy5 * ((jy1 + jy3) * (1 : Int))))) := ⟨_, rfl⟩
    rw [← hjro1_0z] at Hro1_0z Bjro1_0z
    obtain ⟨jro2_0z, hjro2_0z⟩ : ∃ i : Int, i = (((jy0 + jy2) * (1 : Int)) - ((jy4 * ((jy1 + jy3) * (1 : Int))) + (jy5 * ((jy2 - jy0) * (1 : Int))))) := ⟨_, rfl⟩
    rw [← hjro2_0z] at Hro2_0z Bjro2_0z
    obtain ⟨jro3_0z, hjro3_0z⟩ : ∃ i : Int, i = (((jy4 * ((jy2 - jy0) * (1 : Int))) - (jy5 * ((jy1 + jy3) * (1 : Int)))) - ((jy1 - jy3) * (1 : Int))) := ⟨_, rfl⟩
    rw [← hjro3_0z] at Hro3_0z Bjro3_0z
    refine OwnGo.pre (fun t k => XS.aload X116.here hx rfl (hb hby at_252) rfl rfl (XS.iload X116.here hx rfl (hb hby at_254) rfl (own_daL X116 hx hZ rfl AFo0z (j := (0 : Int32)) (by decide) (i := 0) (by decide) (x := ro0_0z) rfl (g := (mkF m 256 #[sJ p0, uS, sJ p1, uS, sJ p2, uS, sI p3, sI (0 : Int32), sI y0, sI y1, sI y2, sI y3, sI y4, sI y5, sR a101, sR a102, sR a103, sR a104, sR a105, sR a102, sR a103, sR a104, sR a105, sI (0 : Int32), sI (0 : Int32), sI (0 : Int32), sI (0 : Int32), uU, uU, uU, uU, uU, uU, uU, uU, uU, uU, uU, uU, uU, uU, uU, uU, uU, uU, uU, uU, uU, uU, uU, uU, uU, uU, uU, uU, uU, uU, uU, uU, uU, uU, uU, uU] [(.int (0 : Int32)), (.ref a102)])) rfl (rest := []) rfl (hb hby at_256) (XS.dstore X116.here hx rfl (hb hby at_257) rfl (l' := #[sJ p0, uS, sJ p1, uS, sJ p2, uS, sI p3, sI (0 : Int32), sI y0, sI y1, sI y2, sI y3, sI y4, sI y5, sR a101, sR a102, sR a103, sR a104, sR a105, sR a102, sR a103, sR a104, sR a105, sI (0 : Int32), sI (0 : Int32), sI (0 : Int32), sI (0 : Int32), sD ro0_0z, uS, uU, uU, uU, uU, uU, uU, uU, uU, uU, uU, uU, uU, uU, uU, uU, uU, uU, uU, uU, uU, uU, uU, uU, uU, uU, uU, uU, uU, uU, uU, uU, uU, uU, uU]) rfl (XS.aload X116.here hx rfl (hb hby at_259) rfl rfl (XS.iload X116.here hx rfl (hb hby at_261) rfl (own_daL X116 hx hZ rfl AFo1z (j := (0 : Int32)) (by decide) (i := 0) (by decide) (x := ro1_0z) rfl (g := (mkF m 263 #[sJ p0, uS, sJ p1, uS, sJ p2, uS, sI p3, sI (0 : Int32), sI y0, sI y1, sI y2, sI y3, sI y4, sI y5, sR a101, sR a102, sR a103, sR a104, sR a105, sR a102, sR a103, sR a104, sR a105, sI (0 : Int32), sI (0 : Int32), sI (0 : Int32), sI (0 : Int32), sD ro0_0z, uS, uU, uU, uU, uU, uU, uU, uU, uU, uU, uU, uU, uU, uU, uU, uU, uU, uU, uU, uU, uU, uU, uU, uU, uU, uU, uU, uU, uU, uU, uU, uU, uU, uU, uU] [(.int (0 : Int32)), (.ref a103)])) rfl (rest := []) rfl (hb hby at_263) (XS.dstore X116.here hx rfl (hb hby at_264) rfl (l' := #[sJ p0, uS, sJ p1, uS, sJ p2, uS, sI p3, sI (0 : Int32), sI y0, sI y1, sI y2, sI y3, sI y4, sI y5, sR a101, sR a102, sR a103, sR a104, sR a105, sR a102, sR a103, sR a104, sR a105, sI (0 : Int32), sI (0 : Int32), sI (0 : Int32), sI (0 : Int32), sD ro0_0z, uS, sD ro1_0z, uS, uU, uU, uU, uU, uU, uU, uU, uU, uU, uU, uU, uU, uU, uU, uU, uU, uU, uU, uU, uU, uU, uU, uU, uU, uU, uU, uU, uU, uU, uU, uU, uU]) rfl k)))))))) ?_
    show OwnGo _ _ _ _ (T116.setTop (mkF m 266 #[sJ p0, uS, sJ p1, uS, sJ p2, uS, sI p3, sI (0 : Int32), sI y0, sI y1, sI y2, sI y3, sI y4, sI y5, sR a101, sR a102, sR a103, sR a104, sR a105, sR a102, sR a103, sR a104, sR a105, sI (0 : Int32), sI (0 : Int32), sI (0 : Int32), sI (0 : Int32), sD ro0_0z, uS, sD ro1_0z, uS, uU, uU, uU, uU, uU, uU, uU, uU, uU, uU, uU, uU, uU, uU, uU, uU, uU, uU, uU, uU, uU, uU, uU, uU, uU, uU, uU, uU, uU, uU, uU, uU] []))
    refine OwnGo.pre (fun t k => XS.aload X116.here hx rfl (hb hby at_266) rfl rfl (XS.iload X116.here hx rfl (hb hby at_268) rfl (own_daL X116 hx hZ rfl AFo2z (j := (0 : Int32)) (by decide) (i := 0) (by decide) (x := ro2_0z) rfl (g := (mkF m 270 #[sJ p0, uS, sJ p1, uS, sJ p2, uS, sI p3, sI (0 : Int32), sI y0, sI y1, sI y2, sI y3, sI y4, sI y5, sR a101, sR a102, sR a103, sR a104, sR a105, sR a102, sR a103, sR a104, sR a105, sI (0 : Int32), sI (0 : Int32), sI (0 : Int32), sI (0 : Int32), sD ro0_0z, uS, sD ro1_0z, uS, uU, uU, uU, uU, uU, uU, uU, uU, uU, uU, uU, uU, uU, uU, uU, uU, uU, uU, uU, uU, uU, uU, uU, uU, uU, uU, uU, uU, uU, uU, uU, uU] [(.int (0 : Int32)), (.ref a104)])) rfl (rest := []) rfl (hb hby at_270) (XS.dstore X116.here hx rfl (hb hby at_271) rfl (l' := #[sJ p0, uS, sJ p1, uS, sJ p2, uS, sI p3, sI (0 : Int32), sI y0, sI y1, sI y2, sI y3, sI y4, sI y5, sR a101, sR a102, sR a103, sR a104, sR a105, sR a102, sR a103, sR a104, sR a105, sI (0 : Int32), sI (0 : Int32), sI (0 : Int32), sI (0 : Int32), sD ro0_0z, uS, sD ro1_0z, uS, sD ro2_0z, uS, uU, uU, uU, uU, uU, uU, uU, uU, uU, uU, uU, uU, uU, uU, uU, uU, uU, uU, uU, uU, uU, uU, uU, uU, uU, uU, uU, uU, uU, uU]) rfl (XS.aload X116.here hx rfl (hb hby at_273) rfl rfl (XS.iload X116.here hx rfl (hb hby at_275) rfl (own_daL X116 hx hZ rfl AFo3z (j := (0 : Int32)) (by decide) (i := 0) (by decide) (x := ro3_0z) rfl (g := (mkF m 277 #[sJ p0, uS, sJ p1, uS, sJ p2, uS, sI p3, sI (0 : Int32), sI y0, sI y1, sI y2, sI y3, sI y4, sI y5, sR a101, sR a102, sR a103, sR a104, sR a105, sR a102, sR a103, sR a104, sR a105, sI (0 : Int32), sI (0 : Int32), sI (0 : Int32), sI (0 : Int32), sD ro0_0z, uS, sD ro1_0z, uS, sD ro2_0z, uS, uU, uU, uU, uU, uU, uU, uU, uU, uU, uU, uU, uU, uU, uU, uU, uU, uU, uU, uU, uU, uU, uU, uU, uU, uU, uU, uU, uU, uU, uU] [(.int (0 : Int32)), (.ref a105)])) rfl (rest := []) rfl (hb hby at_277) (XS.dstore X116.here hx rfl (hb hby at_278) rfl (l' := #[sJ p0, uS, sJ p1, uS, sJ p2, uS, sI p3, sI (0 : Int32), sI y0, sI y1, sI y2, sI y3, sI y4, sI y5, sR a101, sR a102, sR a103, sR a104, sR a105, sR a102, sR a103, sR a104, sR a105, sI (0 : Int32), sI (0 : Int32), sI (0 : Int32), sI (0 : Int32), sD ro0_0z, uS, sD ro1_0z, uS, sD ro2_0z, uS, sD ro3_0z, uS, uU, uU, uU, uU, uU, uU, uU, uU, uU, uU, uU, uU, uU, uU, uU, uU, uU, uU, uU, uU, uU, uU, uU, uU, uU, uU, uU, uU]) rfl k)))))))) ?_
    show OwnGo _ _ _ _ (T116.setTop (mkF m 280 #[sJ p0, uS, sJ p1, uS, sJ p2, uS, sI p3, sI (0 : Int32), sI y0, sI y1, sI y2, sI y3, sI y4, sI y5, sR a101, sR a102, sR a103, sR a104, sR a105, sR a102, sR a103, sR a104, sR a105, sI (0 : Int32), sI (0 : Int32), sI (0 : Int32), sI (0 : Int32), sD ro0_0z, uS, sD ro1_0z, uS, sD ro2_0z, uS, sD ro3_0z, uS, uU, uU, uU, uU, uU, uU, uU, uU, uU, uU, uU, uU, uU, uU, uU, uU, uU, uU, uU, uU, uU, uU, uU, uU, uU, uU, uU, uU] []))
    obtain ⟨v117, hv117⟩ : ∃ v, y0.toInt64 = v := ⟨_, rfl⟩
    have F117 : v117.toInt = jy0 := by rw [← hv117, Jvm.Kit.i64_of_i32, Fy0]
    obtain ⟨v118, hv118⟩ : ∃ v, y2.toInt64 = v := ⟨_, rfl⟩
    have F118 : v118.toInt = jy2 := by rw [← hv118, Jvm.Kit.i64_of_i32, Fy2]
    obtain ⟨v119, hv119⟩ : ∃ v, v117 + v118 = v := ⟨_, rfl⟩
    obtain ⟨j119, hj119⟩ : ∃ i : Int, i = jy0 + jy2 := ⟨_, rfl⟩
    have B119 : -2097152 ≤ j119 ∧ j119 ≤ 2097152 := by rw [hj119]; exact own_bd_add by0 by2 (by decide)
    have F119 : v119.toInt = j119 := own_lf_add hv119 F117 F118 by0 by2 (by decide) hj119
    obtain ⟨v120, hv120⟩ : ∃ v, y1.toInt64 = v := ⟨_, rfl⟩
    refine OwnGo.pre (fun t k => XS.iload X116.here hx rfl (hb hby at_280) rfl (own_i2l X116.here hx rfl (hb hby at_282) rfl hv117 (XS.iload X116.here hx rfl (hb hby at_283) rfl (own_i2l X116.here hx rfl (hb hby at_285) rfl hv118 (own_ladd X116.here hx rfl (hb hby at_286) rfl hv119 (XT.lstore X116.here hx rfl (hb hby at_287) rfl (l' := #[sJ p0, uS, sJ p1, uS, sJ p2, uS, sI p3, sI (0 : Int32), sI y0, sI y1, sI y2, sI y3, sI y4, sI y5, sR a101, sR a102, sR a103, sR a104, sR a105, sR a102, sR a103, sR a104, sR a105, sI (0 : Int32), sI (0 : Int32), sI (0 : Int32), sI (0 : Int32), sD ro0_0z, uS, sD ro1_0z, uS, sD ro2_0z, uS, sD ro3_0z, uS, sJ v119, uS, uU, uU, uU, uU, uU, uU, uU, uU, uU, uU, uU, uU, uU, uU, uU, uU, uU, uU, uU, uU, uU, uU, uU, uU, uU, uU]) rfl (XS.iload X116.here hx rfl (hb hby at_289) rfl (own_i2l X116.here hx rfl (hb hby at_291) rfl hv120 k)))))))) ?_
    show OwnGo _ _ _ _ (T116.setTop (mkF m 292 #[sJ p0, uS, sJ p1, uS, sJ p2, uS, sI p3, sI (0 : Int32), sI y0, sI y1, sI y2, sI y3, sI y4, sI y5, sR a101, sR a102, sR a103, sR a104, sR a105, sR a102, sR a103, sR a104, sR a105, sI (0 : Int32), sI (0 : Int32), sI (0 : Int32), sI (0 : Int32), sD ro0_0z, uS, sD ro1_0z, uS, sD ro2_0z, uS, sD ro3_0z, uS, sJ v119, uS, uU, uU, uU, uU, uU, uU, uU, uU, uU, uU, uU, uU, uU, uU, uU, uU, uU, uU, uU, uU, uU, uU, uU, uU, uU, uU] [(.long v120)]))
    have F120 : v120.toInt = jy1 := by rw [← hv120, Jvm.Kit.i64_of_i32, Fy1]
    obtain ⟨v121, hv121⟩ : ∃ v, y3.toInt64 = v := ⟨_, rfl⟩
    have F121 : v121.toInt = jy3 := by rw [← hv121, Jvm.Kit.i64_of_i32, Fy3]
    obtain ⟨v122, hv122⟩ : ∃ v, v120 - v121 = v := ⟨_, rfl⟩
    obtain ⟨j122, hj122⟩ : ∃ i : Int, i = jy1 - jy3 := ⟨_, rfl⟩
    have B122 : -2097152 ≤ j122 ∧ j122 ≤ 2097152 := by rw [hj122]; exact own_bd_sub by1 by3 (by decide)
    have F122 : v122.toInt = j122 := own_lf_sub hv122 F120 F121 by1 by3 (by decide) hj122
    obtain ⟨v123, hv123⟩ : ∃ v, y0.toInt64 = v := ⟨_, rfl⟩
    have F123 : v123.toInt = jy0 := by rw [← hv123, Jvm.Kit.i64_of_i32, Fy0]
    obtain ⟨v124, hv124⟩ : ∃ v, y2.toInt64 = v := ⟨_, rfl⟩
    refine OwnGo.pre (fun t k => XS.iload X116.here hx rfl (hb hby at_292) rfl (own_i2l X116.here hx rfl (hb hby at_294) rfl hv121 (own_lsub X116.here hx rfl (hb hby at_295) rfl hv122 (XT.lstore X116.here hx rfl (hb hby at_296) rfl (l' := #[sJ p0, uS, sJ p1, uS, sJ p2, uS, sI p3, sI (0 : Int32), sI y0, sI y1, sI y2, sI y3, sI y4, sI y5, sR a101, sR a102, sR a103, sR a104, sR a105, sR a102, sR a103, sR a104, sR a105, sI (0 : Int32), sI (0 : Int32), sI (0 : Int32), sI (0 : Int32), sD ro0_0z, uS, sD ro1_0z, uS, sD ro2_0z, uS, sD ro3_0z, uS, sJ v119, uS, sJ v122, uS, uU, uU, uU, uU, uU, uU, uU, uU, uU, uU, uU, uU, uU, uU, uU, uU, uU, uU, uU, uU, uU, uU, uU, uU]) rfl (XS.iload X116.here hx rfl (hb hby at_298) rfl (own_i2l X116.here hx rfl (hb hby at_300) rfl hv123 (XS.iload X116.here hx rfl (hb hby at_301) rfl (own_i2l X116.here hx rfl (hb hby at_303) rfl hv124 k)))))))) ?_
    show OwnGo _ _ _ _ (T116.setTop (mkF m 304 #[sJ p0, uS, sJ p1, uS, sJ p2, uS, sI p3, sI (0 : Int32), sI y0, sI y1, sI y2, sI y3, sI y4, sI y5, sR a101, sR a102, sR a103, sR a104, sR a105, sR a102, sR a103, sR a104, sR a105, sI (0 : Int32), sI (0 : Int32), sI (0 : Int32), sI (0 : Int32), sD ro0_0z, uS, sD ro1_0z, uS, sD ro2_0z, uS, sD ro3_0z, uS, sJ v119, uS, sJ v122, uS, uU, uU, uU, uU, uU, uU, uU, uU, uU, uU, uU, uU, uU, uU, uU, uU, uU, uU, uU, uU, uU, uU, uU, uU] [(.long v124), (.long v123)]))
    have F124 : v124.toInt = jy2 := by rw [← hv124, Jvm.Kit.i64_of_i32, Fy2]
    obtain ⟨v125, hv125⟩ : ∃ v, v123 - v124 = v := ⟨_, rfl⟩
    obtain ⟨j125, hj125⟩ : ∃ i : Int, i = jy0 - jy2 := ⟨_, rfl⟩
    have B125 : -2097152 ≤ j125 ∧ j125 ≤ 2097152 := by rw [hj125]; exact own_bd_sub by0 by2 (by decide)
    have F125 : v125.toInt = j125 := own_lf_sub hv125 F123 F124 by0 by2 (by decide) hj125
    obtain ⟨v126, hv126⟩ : ∃ v, y1.toInt64 = v := ⟨_, rfl⟩
    have F126 : v126.toInt = jy1 := by rw [← hv126, Jvm.Kit.i64_of_i32, Fy1]
    obtain ⟨v127, hv127⟩ : ∃ v, y3.toInt64 = v := ⟨_, rfl⟩
    have F127 : v127.toInt = jy3 := by rw [← hv127, Jvm.Kit.i64_of_i32, Fy3]
    obtain ⟨v128, hv128⟩ : ∃ v, v126 + v127 = v := ⟨_, rfl⟩
    obtain ⟨j128, hj128⟩ : ∃ i : Int, i = jy1 + jy3 := ⟨_, rfl⟩
    have B128 : -2097152 ≤ j128 ∧ j128 ≤ 2097152 := by rw [hj128]; exact own_bd_add by1 by3 (by decide)
    have F128 : v128.toInt = j128 := own_lf_add hv128 F126 F127 by1 by3 (by decide) hj128
    refine OwnGo.pre (fun t k => own_lsub X116.here hx rfl (hb hby at_304) rfl hv125 (XT.lstore X116.here hx rfl (hb hby at_305) rfl (l' := #[sJ p0, uS, sJ p1, uS, sJ p2, uS, sI p3, sI (0 : Int32), sI y0, sI y1, sI y2, sI y3, sI y4, sI y5, sR a101, sR a102, sR a103, sR a104, sR a105, sR a102, sR a103, sR a104, sR a105, sI (0 : Int32), sI (0 : Int32), sI (0 : Int32), sI (0 : Int32), sD ro0_0z, uS, sD ro1_0z, uS, sD ro2_0z, uS, sD ro3_0z, uS, sJ v119, uS, sJ v122, uS, sJ v125, uS, uU, uU, uU, uU, uU, uU, uU, uU, uU, uU, uU, uU, uU, uU, uU, uU, uU, uU, uU, uU, uU, uU]) rfl (XS.iload X116.here hx rfl (hb hby at_307) rfl (own_i2l X116.here hx rfl (hb hby at_309) rfl hv126 (XS.iload X116.here hx rfl (hb hby at_310) rfl (own_i2l X116.here hx rfl (hb hby at_312) rfl hv127 (own_ladd X116.here hx rfl (hb hby at_313) rfl hv128 (XT.lstore X116.here hx rfl (hb hby at_314) rfl (l' := #[sJ p0, uS, sJ p1, uS, sJ p2, uS, sI p3, sI (0 : Int32), sI y0, sI y1, sI y2, sI y3, sI y4, sI y5, sR a101, sR a102, sR a103, sR a104, sR a105, sR a102, sR a103, sR a104, sR a105, sI (0 : Int32), sI (0 : Int32), sI (0 : Int32), sI (0 : Int32), sD ro0_0z, uS, sD ro1_0z, uS, sD ro2_0z, uS, sD ro3_0z, uS, sJ v119, uS, sJ v122, uS, sJ v125, uS, sJ v128, uS, uU, uU, uU, uU, uU, uU, uU, uU, uU, uU, uU, uU, uU, uU, uU, uU, uU, uU, uU, uU]) rfl k)))))))) ?_
    show OwnGo _ _ _ _ (T116.setTop (mkF m 316 #[sJ p0, uS, sJ p1, uS, sJ p2, uS, sI p3, sI (0 : Int32), sI y0, sI y1, sI y2, sI y3, sI y4, sI y5, sR a101, sR a102, sR a103, sR a104, sR a105, sR a102, sR a103, sR a104, sR a105, sI (0 : Int32), sI (0 : Int32), sI (0 : Int32), sI (0 : Int32), sD ro0_0z, uS, sD ro1_0z, uS, sD ro2_0z, uS, sD ro3_0z, uS, sJ v119, uS, sJ v122, uS, sJ v125, uS, sJ v128, uS, uU, uU, uU, uU, uU, uU, uU, uU, uU, uU, uU, uU, uU, uU, uU, uU, uU, uU, uU, uU] []))
    obtain ⟨v129, hv129⟩ : ∃ v, -v125 = v := ⟨_, rfl⟩
    obtain ⟨j129, hj129⟩ : ∃ i : Int, i = -j125 := ⟨_, rfl⟩
    have B129 : -2097152 ≤ j129 ∧ j129 ≤ 2097152 := by rw [hj129]; exact own_bd_neg B125
    have F129 : v129.toInt = j129 := own_lf_neg hv129 F125 B125 (by decide) hj129
    obtain ⟨v130, hv130⟩ : ∃ v, y4.toInt64 = v := ⟨_, rfl⟩
    have F130 : v130.toInt = jy4 := by rw [← hv130, Jvm.Kit.i64_of_i32, Fy4]
    refine OwnGo.pre (fun t k => XT.lload X116.here hx rfl (hb hby at_316) rfl (XT.lstore X116.here hx rfl (hb hby at_318) rfl (l' := #[sJ p0, uS, sJ p1, uS, sJ p2, uS, sI p3, sI (0 : Int32), sI y0, sI y1, sI y2, sI y3, sI y4, sI y5, sR a101, sR a102, sR a103, sR a104, sR a105, sR a102, sR a103, sR a104, sR a105, sI (0 : Int32), sI (0 : Int32), sI (0 : Int32), sI (0 : Int32), sD ro0_0z, uS, sD ro1_0z, uS, sD ro2_0z, uS, sD ro3_0z, uS, sJ v119, uS, sJ v122, uS, sJ v125, uS, sJ v128, uS, sJ v128, uS, uU, uU, uU, uU, uU, uU, uU, uU, uU, uU, uU, uU, uU, uU, uU, uU, uU, uU]) rfl (XT.lload X116.here hx rfl (hb hby at_320) rfl (own_lneg X116.here hx rfl (hb hby at_322) rfl hv129 (XT.lstore X116.here hx rfl (hb hby at_323) rfl (l' := #[sJ p0, uS, sJ p1, uS, sJ p2, uS, sI p3, sI (0 : Int32), sI y0, sI y1, sI y2, sI y3, sI y4, sI y5, sR a101, sR a102, sR a103, sR a104, sR a105, sR a102, sR a103, sR a104, sR a105, sI (0 : Int32), sI (0 : Int32), sI (0 : Int32), sI (0 : Int32), sD ro0_0z, uS, sD ro1_0z, uS, sD ro2_0z, uS, sD ro3_0z, uS, sJ v119, uS, sJ v122, uS, sJ v125, uS, sJ v128, uS, sJ v128, uS, sJ v129, uS, uU, uU, uU, uU, uU, uU, uU, uU, uU, uU, uU, uU, uU, uU, uU, uU]) rfl (XS.iload X116.here hx rfl (hb hby at_325) rfl (own_i2l X116.here hx rfl (hb hby at_327) rfl hv130 (XT.lstore X116.here hx rfl (hb hby at_328) rfl (l' := #[sJ p0, uS, sJ p1, uS, sJ p2, uS, sI p3, sI (0 : Int32), sI y0, sI y1, sI y2, sI y3, sI y4, sI y5, sR a101, sR a102, sR a103, sR a104, sR a105, sR a102, sR a103, sR a104, sR a105, sI (0 : Int32), sI (0 : Int32), sI (0 : Int32), sI (0 : Int32), sD ro0_0z, uS, sD ro1_0z, uS, sD ro2_0z, uS, sD ro3_0z, uS, sJ v119, uS, sJ v122, uS, sJ v125, uS, sJ v128, uS, sJ v128, uS, sJ v129, uS, sJ v130, uS, uU, uU, uU, uU, uU, uU, uU, uU, uU, uU, uU, uU, uU, uU]) rfl k)))))))) ?_
    show OwnGo _ _ _ _ (T116.setTop (mkF m 330 #[sJ p0, uS, sJ p1, uS, sJ p2, uS, sI p3, sI (0 : Int32), sI y0, sI y1, sI y2, sI y3, sI y4, sI y5, sR a101, sR a102, sR a103, sR a104, sR a105, sR a102, sR a103, sR a104, sR a105, sI (0 : Int32), sI (0 : Int32), sI (0 : Int32), sI (0 : Int32), sD ro0_0z, uS, sD ro1_0z, uS, sD ro2_0z, uS, sD ro3_0z, uS, sJ v119, uS, sJ v122, uS, sJ v125, uS, sJ v128, uS, sJ v128, uS, sJ v129, uS, sJ v130, uS, uU, uU, uU, uU, uU, uU, uU, uU, uU, uU, uU, uU, uU, uU] []))
    obtain ⟨v131, hv131⟩ : ∃ v, y5.toInt64 = v := ⟨_, rfl⟩
    have F131 : v131.toInt = jy5 := by rw [← hv131, Jvm.Kit.i64_of_i32, Fy5]
    obtain ⟨v132, hv132⟩ : ∃ v, -v131 = v := ⟨_, rfl⟩
    obtain ⟨j132, hj132⟩ : ∃ i : Int, i = -jy5 := ⟨_, rfl⟩
    have B132 : -1048576 ≤ j132 ∧ j132 ≤ 1048576 := by rw [hj132]; exact own_bd_neg by5
    have F132 : v132.toInt = j132 := own_lf_neg hv132 F131 by5 (by decide) hj132
    refine OwnGo.pre (fun t k => XS.iload X116.here hx rfl (hb hby at_330) rfl (own_i2l X116.here hx rfl (hb hby at_332) rfl hv131 (own_lneg X116.here hx rfl (hb hby at_333) rfl hv132 (XT.lstore X116.here hx rfl (hb hby at_334) rfl (l' := #[sJ p0, uS, sJ p1, uS, sJ p2, uS, sI p3, sI (0 : Int32), sI y0, sI y1, sI y2, sI y3, sI y4, sI y5, sR a101, sR a102, sR a103, sR a104, sR a105, sR a102, sR a103, sR a104, sR a105, sI (0 : Int32), sI (0 : Int32), sI (0 : Int32), sI (0 : Int32), sD ro0_0z, uS, sD ro1_0z, uS, sD ro2_0z, uS, sD ro3_0z, uS, sJ v119, uS, sJ v122, uS, sJ v125, uS, sJ v128, uS, sJ v128, uS, sJ v129, uS, sJ v130, uS, sJ v132, uS, uU, uU, uU, uU, uU, uU, uU, uU, uU, uU, uU, uU]) rfl (XT.lload X116.here hx rfl (hb hby at_336) rfl (XT.lload X116.here hx rfl (hb hby at_338) rfl (XT.lload X116.here hx rfl (hb hby at_340) rfl (XT.lload X116.here hx rfl (hb hby at_342) rfl k)))))))) ?_
    show OwnGo _ _ _ _ (T116.setTop (mkF m 344 #[sJ p0, uS, sJ p1, uS, sJ p2, uS, sI p3, sI (0 : Int32), sI y0, sI y1, sI y2, sI y3, sI y4, sI y5, sR a101, sR a102, sR a103, sR a104, sR a105, sR a102, sR a103, sR a104, sR a105, sI (0 : Int32), sI (0 : Int32), sI (0 : Int32), sI (0 : Int32), sD ro0_0z, uS, sD ro1_0z, uS, sD ro2_0z, uS, sD ro3_0z, uS, sJ v119, uS, sJ v122, uS, sJ v125, uS, sJ v128, uS, sJ v128, uS, sJ v129, uS, sJ v130, uS, sJ v132, uS, uU, uU, uU, uU, uU, uU, uU, uU, uU, uU, uU, uU] [(.long v129), (.long v128), (.long v132), (.long v130)]))
    obtain ⟨_, _, ⟨T133, L133, k133, n133⟩, -, X133, ⟨Lc133, hQ133, l133, y133, z133⟩, st133⟩ := Jvm.LawKit.callS X116 hx (y := (⟨"com/example/isochron/isochron/dsp/FourierSeparatePinLaw", "mulRe", "(JJJJ)J"⟩ : MethodName)) hown (mvT hZ (hw _ (List.mem_of_getElem? (i := 10) rfl))) (mvT hZ (hw _ (List.mem_of_getElem? (i := 11) rfl))) (mvT hZ (hw _ (List.mem_of_getElem? (i := 2) rfl))) (mvT hZ (hw _ (List.mem_of_getElem? (i := 12) rfl))) (by decide) (backOf (W := 0) (rmRe l Z a0 hw [] v130 v132 v128 v129 jy4 j132 j128 j129 T116.heap n0 Z116 F130 (own_bd_le by4 (by decide)) F132 (own_bd_le B132 (by decide)) F128 (own_bd_le B128 (by decide)) F129 (own_bd_le B129 (by decide))) hZ (hw _ (List.mem_of_getElem? (i := 12) rfl)) (hw _ (List.mem_of_getElem? (i := 2) rfl)) (by decide) (by decide)) (g := (mkF m 344 #[sJ p0, uS, sJ p1, uS, sJ p2, uS, sI p3, sI (0 : Int32), sI y0, sI y1, sI y2, sI y3, sI y4, sI y5, sR a101, sR a102, sR a103, sR a104, sR a105, sR a102, sR a103, sR a104, sR a105, sI (0 : Int32), sI (0 : Int32), sI (0 : Int32), sI (0 : Int32), sD ro0_0z, uS, sD ro1_0z, uS, sD ro2_0z, uS, sD ro3_0z, uS, sJ v119, uS, sJ v122, uS, sJ v125, uS, sJ v128, uS, sJ v128, uS, sJ v129, uS, sJ v130, uS, sJ v132, uS, uU, uU, uU, uU, uU, uU, uU, uU, uU, uU, uU, uU] [(.long v129), (.long v128), (.long v132), (.long v130)])) rfl (by rw [hml]; rfl) (argsL := [(.long v130), (.long v132), (.long v128), (.long v129)]) (rest := []) (lenOf pd_rmRe rfl) rfl (by show 2 * 0 + _ ≤ _; exact Nat.le_of_eq rfl) (hb hby at_344) (fun _ _ => ⟨rfl, rfl, (by decide : 5 + 0 ≤ _), (by decide : 8 + 0 ≤ _)⟩)
    dsimp only [Pt.U, Pt.locs, Pt.cells, Pt.slots] at X133 l133 y133 z133 st133 hQ133
    subst l133 y133 z133
    obtain ⟨wr, rfl, Fwr, N133, e133⟩ := hQ133
    refine OwnGo.pre (fun t k => st133 t k) ?_
    show OwnGo _ _ _ _ (T133.setTop (mkF m 347 #[sJ p0, uS, sJ p1, uS, sJ p2, uS, sI p3, sI (0 : Int32), sI y0, sI y1, sI y2, sI y3, sI y4, sI y5, sR a101, sR a102, sR a103, sR a104, sR a105, sR a102, sR a103, sR a104, sR a105, sI (0 : Int32), sI (0 : Int32), sI (0 : Int32), sI (0 : Int32), sD ro0_0z, uS, sD ro1_0z, uS, sD ro2_0z, uS, sD ro3_0z, uS, sJ v119, uS, sJ v122, uS, sJ v125, uS, sJ v128, uS, sJ v128, uS, sJ v129, uS, sJ v130, uS, sJ v132, uS, uU, uU, uU, uU, uU, uU, uU, uU, uU, uU, uU, uU] [(.long wr)]))
    have M133 := Fr.app M116 N133
    obtain ⟨jwr, hjwr⟩ : ∃ i : Int, i = jy4 * j128 - j132 * j129 := ⟨_, rfl⟩
    rw [← hjwr] at Fwr
    have Bwr : -4398046511104 ≤ jwr ∧ jwr ≤ 4398046511104 := by rw [hjwr]; exact own_bd_sub (own_bd_mul by4 B128 rfl) (own_bd_mul B132 B129 rfl) (by decide)
    refine OwnGo.pre (fun t k => XT.lstore X133.here hx rfl (hb hby at_347) rfl (l' := #[sJ p0, uS, sJ p1, uS, sJ p2, uS, sI p3, sI (0 : Int32), sI y0, sI y1, sI y2, sI y3, sI y4, sI y5, sR a101, sR a102, sR a103, sR a104, sR a105, sR a102, sR a103, sR a104, sR a105, sI (0 : Int32), sI (0 : Int32), sI (0 : Int32), sI (0 : Int32), sD ro0_0z, uS, sD ro1_0z, uS, sD ro2_0z, uS, sD ro3_0z, uS, sJ v119, uS, sJ v122, uS, sJ v125, uS, sJ v128, uS, sJ v128, uS, sJ v129, uS, sJ v130, uS, sJ v132, uS, sJ wr, uS, uU, uU, uU, uU, uU, uU, uU, uU, uU, uU]) rfl (XT.lload X133.here hx rfl (hb hby at_349) rfl (XT.lload X133.here hx rfl (hb hby at_351) rfl (XT.lload X133.here hx rfl (hb hby at_353) rfl (XT.lload X133.here hx rfl (hb hby at_355) rfl k))))) ?_
    show OwnGo _ _ _ _ (T133.setTop (mkF m 357 #[sJ p0, uS, sJ p1, uS, sJ p2, uS, sI p3, sI (0 : Int32), sI y0, sI y1, sI y2, sI y3, sI y4, sI y5, sR a101, sR a102, sR a103, sR a104, sR a105, sR a102, sR a103, sR a104, sR a105, sI (0 : Int32), sI (0 : Int32), sI (0 : Int32), sI (0 : Int32), sD ro0_0z, uS, sD ro1_0z, uS, sD ro2_0z, uS, sD ro3_0z, uS, sJ v119, uS, sJ v122, uS, sJ v125, uS, sJ v128, uS, sJ v128, uS, sJ v129, uS, sJ v130, uS, sJ v132, uS, sJ wr, uS, uU, uU, uU, uU, uU, uU, uU, uU, uU, uU] [(.long v129), (.long v128), (.long v132), (.long v130)]))
    obtain ⟨_, _, ⟨T134, L134, k134, n134⟩, -, X134, ⟨Lc134, hQ134, l134, y134, z134⟩, st134⟩ := Jvm.LawKit.callS X133 hx (y := (⟨"com/example/isochron/isochron/dsp/FourierSeparatePinLaw", "mulIm", "(JJJJ)J"⟩ : MethodName)) hown (mvT hZ (hw _ (List.mem_of_getElem? (i := 13) rfl))) (mvT hZ (hw _ (List.mem_of_getElem? (i := 14) rfl))) (mvT hZ (hw _ (List.mem_of_getElem? (i := 2) rfl))) (mvT hZ (hw _ (List.mem_of_getElem? (i := 15) rfl))) (by decide) (backOf (W := 0) (rmIm l Z a0 hw [] v130 v132 v128 v129 jy4 j132 j128 j129 T116.heap n0 Z116 F130 (own_bd_le by4 (by decide)) F132 (own_bd_le B132 (by decide)) F128 (own_bd_le B128 (by decide)) F129 (own_bd_le B129 (by decide))) hZ (hw _ (List.mem_of_getElem? (i := 15) rfl)) (hw _ (List.mem_of_getElem? (i := 2) rfl)) (by decide) (by decide)) (g := (mkF m 357 #[sJ p0, uS, sJ p1, uS, sJ p2, uS, sI p3, sI (0 : Int32), sI y0, sI y1, sI y2, sI y3, sI y4, sI y5, sR a101, sR a102, sR a103, sR a104, sR a105, sR a102, sR a103, sR a104, sR a105, sI (0 : Int32), sI (0 : Int32), sI (0 : Int32), sI (0 : Int32), sD ro0_0z, uS, sD ro1_0z, uS, sD ro2_0z, uS, sD ro3_0z, uS, sJ v119, uS, sJ v122, uS, sJ v125, uS, sJ v128, uS, sJ v128, uS, sJ v129, uS, sJ v130, uS, sJ v132, uS, sJ wr, uS, uU, uU, uU, uU, uU, uU, uU, uU, uU, uU] [(.long v129), (.long v128), (.long v132), (.long v130)])) rfl (by rw [hml]; rfl) (argsL := [(.long v130), (.long v132), (.long v128), (.long v129)]) (rest := []) (lenOf pd_rmIm rfl) rfl (by show 2 * 0 + _ ≤ _; exact Nat.le_of_eq rfl) (hb hby at_357) (fun _ _ => ⟨rfl, e133, (by decide : 5 + 0 ≤ _), (by decide : 8 + 0 ≤ _)⟩)
    dsimp only [Pt.U, Pt.locs, Pt.cells, Pt.slots] at X134 l134 y134 z134 st134 hQ134
    subst l134 y134 z134
    obtain ⟨wi, rfl, Fwi, N134, e134⟩ := hQ134
    refine OwnGo.pre (fun t k => st134 t k) ?_
    show OwnGo _ _ _ _ (T134.setTop (mkF m 360 #[sJ p0, uS, sJ p1, uS, sJ p2, uS, sI p3, sI (0 : Int32), sI y0, sI y1, sI y2, sI y3, sI y4, sI y5, sR a101, sR a102, sR a103, sR a104, sR a105, sR a102, sR a103, sR a104, sR a105, sI (0 : Int32), sI (0 : Int32), sI (0 : Int32), sI (0 : Int32), sD ro0_0z, uS, sD ro1_0z, uS, sD ro2_0z, uS, sD ro3_0z, uS, sJ v119, uS, sJ v122, uS, sJ v125, uS, sJ v128, uS, sJ v128, uS, sJ v129, uS, sJ v130, uS, sJ v132, uS, sJ wr, uS, uU, uU, uU, uU, uU, uU, uU, uU, uU, uU] [(.long wi)]))
    have M134 := Fr.app M133 N134
    obtain ⟨jwi, hjwi⟩ : ∃ i : Int, i = jy4 * j129 + j132 * j128 := ⟨_, rfl⟩
    rw [← hjwi] at Fwi
    have Bwi : -4398046511104 ≤ jwi ∧ jwi ≤ 4398046511104 := by rw [hjwi]; exact own_bd_add (own_bd_mul by4 B129 rfl) (own_bd_mul B132 B128 rfl) (by decide)
    obtain ⟨v135, hv135⟩ : ∃ v, v119 + wr = v := ⟨_, rfl⟩
    obtain ⟨j135, hj135⟩ : ∃ i : Int, i = j119 + jwr := ⟨_, rfl⟩
    have B135 : -4398048608256 ≤ j135 ∧ j135 ≤ 4398048608256 := by rw [hj135]; exact own_bd_add B119 Bwr (by decide)
    have F135 : v135.toInt = j135 := own_lf_add hv135 F119 Fwr B119 Bwr (by decide) hj135
    obtain ⟨v136, hv136⟩ : ∃ v, v122 + wi = v := ⟨_, rfl⟩
    refine OwnGo.pre (fun t k => XT.lstore X134.here hx rfl (hb hby at_360) rfl (l' := #[sJ p0, uS, sJ p1, uS, sJ p2, uS, sI p3, sI (0 : Int32), sI y0, sI y1, sI y2, sI y3, sI y4, sI y5, sR a101, sR a102, sR a103, sR a104, sR a105, sR a102, sR a103, sR a104, sR a105, sI (0 : Int32), sI (0 : Int32), sI (0 : Int32), sI (0 : Int32), sD ro0_0z, uS, sD ro1_0z, uS, sD ro2_0z, uS, sD ro3_0z, uS, sJ v119, uS, sJ v122, uS, sJ v125, uS, sJ v128, uS, sJ v128, uS, sJ v129, uS, sJ v130, uS, sJ v132, uS, sJ wr, uS, sJ wi, uS, uU, uU, uU, uU, uU, uU, uU, uU]) rfl (XT.lload X134.here hx rfl (hb hby at_362) rfl (XT.lload X134.here hx rfl (hb hby at_364) rfl (own_ladd X134.here hx rfl (hb hby at_366) rfl hv135 (XT.lstore X134.here hx rfl (hb hby at_367) rfl (l' := #[sJ p0, uS, sJ p1, uS, sJ p2, uS, sI p3, sI (0 : Int32), sI y0, sI y1, sI y2, sI y3, sI y4, sI y5, sR a101, sR a102, sR a103, sR a104, sR a105, sR a102, sR a103, sR a104, sR a105, sI (0 : Int32), sI (0 : Int32), sI (0 : Int32), sI (0 : Int32), sD ro0_0z, uS, sD ro1_0z, uS, sD ro2_0z, uS, sD ro3_0z, uS, sJ v119, uS, sJ v122, uS, sJ v125, uS, sJ v128, uS, sJ v128, uS, sJ v129, uS, sJ v130, uS, sJ v132, uS, sJ wr, uS, sJ wi, uS, sJ v135, uS, uU, uU, uU, uU, uU, uU]) rfl (XT.lload X134.here hx rfl (hb hby at_369) rfl (XT.lload X134.here hx rfl (hb hby at_371) rfl (own_ladd X134.here hx rfl (hb hby at_373) rfl hv136 k)))))))) ?_
    show OwnGo _ _ _ _ (T134.setTop (mkF m 374 #[sJ p0, uS, sJ p1, uS, sJ p2, uS, sI p3, sI (0 : Int32), sI y0, sI y1, sI y2, sI y3, sI y4, sI y5, sR a101, sR a102, sR a103, sR a104, sR a105, sR a102, sR a103, sR a104, sR a105, sI (0 : Int32), sI (0 : Int32), sI (0 : Int32), sI (0 : Int32), sD ro0_0z, uS, sD ro1_0z, uS, sD ro2_0z, uS, sD ro3_0z, uS, sJ v119, uS, sJ v122, uS, sJ v125, uS, sJ v128, uS, sJ v128, uS, sJ v129, uS, sJ v130, uS, sJ v132, uS, sJ wr, uS, sJ wi, uS, sJ v135, uS, uU, uU, uU, uU, uU, uU] [(.long v136)]))
    obtain ⟨j136, hj136⟩ : ∃ i : Int, i = j122 + jwi := ⟨_, rfl⟩
    have B136 : -4398048608256 ≤ j136 ∧ j136 ≤ 4398048608256 := by rw [hj136]; exact own_bd_add B122 Bwi (by decide)
    have F136 : v136.toInt = j136 := own_lf_add hv136 F122 Fwi B122 Bwi (by decide) hj136
    obtain ⟨v137, hv137⟩ : ∃ v, v119 - wr = v := ⟨_, rfl⟩
    obtain ⟨j137, hj137⟩ : ∃ i : Int, i = j119 - jwr := ⟨_, rfl⟩
    have B137 : -4398048608256 ≤ j137 ∧ j137 ≤ 4398048608256 := by rw [hj137]; exact own_bd_sub B119 Bwr (by decide)
    have F137 : v137.toInt = j137 := own_lf_sub hv137 F119 Fwr B119 Bwr (by decide) hj137
    obtain ⟨v138, hv138⟩ : ∃ v, v122 - wi = v := ⟨_, rfl⟩
    refine OwnGo.pre (fun t k => XT.lstore X134.here hx rfl (hb hby at_374) rfl (l' := #[sJ p0, uS, sJ p1, uS, sJ p2, uS, sI p3, sI (0 : Int32), sI y0, sI y1, sI y2, sI y3, sI y4, sI y5, sR a101, sR a102, sR a103, sR a104, sR a105, sR a102, sR a103, sR a104, sR a105, sI (0 : Int32), sI (0 : Int32), sI (0 : Int32), sI (0 : Int32), sD ro0_0z, uS, sD ro1_0z, uS, sD ro2_0z, uS, sD ro3_0z, uS, sJ v119, uS, sJ v122, uS, sJ v125, uS, sJ v128, uS, sJ v128, uS, sJ v129, uS, sJ v130, uS, sJ v132, uS, sJ wr, uS, sJ wi, uS, sJ v135, uS, sJ v136, uS, uU, uU, uU, uU]) rfl (XT.lload X134.here hx rfl (hb hby at_376) rfl (XT.lload X134.here hx rfl (hb hby at_378) rfl (own_lsub X134.here hx rfl (hb hby at_380) rfl hv137 (XT.lstore X134.here hx rfl (hb hby at_381) rfl (l' := #[sJ p0, uS, sJ p1, uS, sJ p2, uS, sI p3, sI (0 : Int32), sI y0, sI y1, sI y2, sI y3, sI y4, sI y5, sR a101, sR a102, sR a103, sR a104, sR a105, sR a102, sR a103, sR a104, sR a105, sI (0 : Int32), sI (0 : Int32), sI (0 : Int32), sI (0 : Int32), sD ro0_0z, uS, sD ro1_0z, uS, sD ro2_0z, uS, sD ro3_0z, uS, sJ v119, uS, sJ v122, uS, sJ v125, uS, sJ v128, uS, sJ v128, uS, sJ v129, uS, sJ v130, uS, sJ v132, uS, sJ wr, uS, sJ wi, uS, sJ v135, uS, sJ v136, uS, sJ v137, uS, uU, uU]) rfl (XT.lload X134.here hx rfl (hb hby at_383) rfl (XT.lload X134.here hx rfl (hb hby at_385) rfl (own_lsub X134.here hx rfl (hb hby at_387) rfl hv138 k)))))))) ?_
    show OwnGo _ _ _ _ (T134.setTop (mkF m 388 #[sJ p0, uS, sJ p1, uS, sJ p2, uS, sI p3, sI (0 : Int32), sI y0, sI y1, sI y2, sI y3, sI y4, sI y5, sR a101, sR a102, sR a103, sR a104, sR a105, sR a102, sR a103, sR a104, sR a105, sI (0 : Int32), sI (0 : Int32), sI (0 : Int32), sI (0 : Int32), sD ro0_0z, uS, sD ro1_0z, uS, sD ro2_0z, uS, sD ro3_0z, uS, sJ v119, uS, sJ v122, uS, sJ v125, uS, sJ v128, uS, sJ v128, uS, sJ v129, uS, sJ v130, uS, sJ v132, uS, sJ wr, uS, sJ wi, uS, sJ v135, uS, sJ v136, uS, sJ v137, uS, uU, uU] [(.long v138)]))
    obtain ⟨j138, hj138⟩ : ∃ i : Int, i = j122 - jwi := ⟨_, rfl⟩
    have B138 : -4398048608256 ≤ j138 ∧ j138 ≤ 4398048608256 := by rw [hj138]; exact own_bd_sub B122 Bwi (by decide)
    have F138 : v138.toInt = j138 := own_lf_sub hv138 F122 Fwi B122 Bwi (by decide) hj138
    obtain ⟨v139, hv139⟩ : ∃ v, -v138 = v := ⟨_, rfl⟩
    obtain ⟨j139, hj139⟩ : ∃ i : Int, i = -j138 := ⟨_, rfl⟩
    have B139 : -4398048608256 ≤ j139 ∧ j139 ≤ 4398048608256 := by rw [hj139]; exact own_bd_neg B138
    have F139 : v139.toInt = j139 := own_lf_neg hv139 F138 B138 (by decide) hj139
    obtain ⟨j140, hj140⟩ : ∃ i : Int, i = (1 : Int) * jro0_0z := ⟨_, rfl⟩
    have B140 : -4398048608256 ≤ j140 ∧ j140 ≤ 4398048608256 := by rw [hj140]; exact own_bd_mul own_b1 Bjro0_0z (by decide)
    have Dq140 : OwnDS 0 j140 (FP.dmul (4611686018427387904 : UInt64) ro0_0z) := by rw [hj140]; have q := own_ds_mul (n := 53) own_two Hro0_0z (own_bd_nat (C := 4398048608256) (own_bd_mul own_b1 Bjro0_0z (by decide)) (by decide)); exact q
    obtain ⟨d140, hd140⟩ : ∃ v, FP.dmul (4611686018427387904 : UInt64) ro0_0z = v := ⟨_, rfl⟩
    refine OwnGo.pre (fun t k => own_lneg X134.here hx rfl (hb hby at_388) rfl hv139 (XT.lstore X134.here hx rfl (hb hby at_389) rfl (l' := #[sJ p0, uS, sJ p1, uS, sJ p2, uS, sI p3, sI (0 : Int32), sI y0, sI y1, sI y2, sI y3, sI y4, sI y5, sR a101, sR a102, sR a103, sR a104, sR a105, sR a102, sR a103, sR a104, sR a105, sI (0 : Int32), sI (0 : Int32), sI (0 : Int32), sI (0 : Int32), sD ro0_0z, uS, sD ro1_0z, uS, sD ro2_0z, uS, sD ro3_0z, uS, sJ v119, uS, sJ v122, uS, sJ v125, uS, sJ v128, uS, sJ v128, uS, sJ v129, uS, sJ v130, uS, sJ v132, uS, sJ wr, uS, sJ wi, uS, sJ v135, uS, sJ v136, uS, sJ v137, uS, sJ v139, uS]) rfl (XS.iload X134.here hx rfl (hb hby at_391) rfl (XS.iconst X134.here hx rfl (hb hby at_393) (XS.icmpYes X134.here hx rfl (pc0 := 394) (pc' := 463) rfl (hb hby at_394) rfl (by decide) (by decide) (by decide) (own_ldcD X134 hx hown (mvT hZ (hw _ (List.mem_of_getElem? (i := 16) rfl))) rfl (hb hby at_463) (XS.dload X134.here hx rfl (hb hby at_466) rfl (XS.dmulS X134.here hx rfl (hb hby at_468) rfl (own_nn Dq140) hd140 k)))))))) ?_
    show OwnGo _ _ _ _ (T134.setTop (mkF m 469 #[sJ p0, uS, sJ p1, uS, sJ p2, uS, sI p3, sI (0 : Int32), sI y0, sI y1, sI y2, sI y3, sI y4, sI y5, sR a101, sR a102, sR a103, sR a104, sR a105, sR a102, sR a103, sR a104, sR a105, sI (0 : Int32), sI (0 : Int32), sI (0 : Int32), sI (0 : Int32), sD ro0_0z, uS, sD ro1_0z, uS, sD ro2_0z, uS, sD ro3_0z, uS, sJ v119, uS, sJ v122, uS, sJ v125, uS, sJ v128, uS, sJ v128, uS, sJ v129, uS, sJ v130, uS, sJ v132, uS, sJ wr, uS, sJ wi, uS, sJ v135, uS, sJ v136, uS, sJ v137, uS, sJ v139, uS] [(.double d140)]))
    have D140 : OwnDS 0 j140 d140 := by rw [← hd140]; exact Dq140
    obtain ⟨d141, hd141⟩ : ∃ v, FP.l2d v135 = v := ⟨_, rfl⟩
    have D141 : OwnDS 0 j135 d141 := by rw [← hd141]; exact own_l2db F135 B135 (by decide)
    refine OwnGo.pre (fun t k => XT.lload X134.here hx rfl (hb hby at_469) rfl (XS.l2dS X134.here hx rfl (hb hby at_471) rfl hd141 (XS.dcmpS X134.here hx rfl (hb hby at_472) rfl rfl k))) ?_
    show OwnGo _ _ _ _ (T134.setTop (mkF m 473 #[sJ p0, uS, sJ p1, uS, sJ p2, uS, sI p3, sI (0 : Int32), sI y0, sI y1, sI y2, sI y3, sI y4, sI y5, sR a101, sR a102, sR a103, sR a104, sR a105, sR a102, sR a103, sR a104, sR a105, sI (0 : Int32), sI (0 : Int32), sI (0 : Int32), sI (0 : Int32), sD ro0_0z, uS, sD ro1_0z, uS, sD ro2_0z, uS, sD ro3_0z, uS, sJ v119, uS, sJ v122, uS, sJ v125, uS, sJ v128, uS, sJ v128, uS, sJ v129, uS, sJ v130, uS, sJ v132, uS, sJ wr, uS, sJ wi, uS, sJ v135, uS, sJ v136, uS, sJ v137, uS, sJ v139, uS] [(.int (cmpValue (FP.dcmp d140 d141) .l))]))
    have q473 : j140 = j135 := by simp only [hj140, hjro0_0z, hj135, hj119, hjwr, hj132, hj128, hj129, hj125]; exact own_eq0 jy0 jy2 jy4 jy1 jy3 jy5
    obtain ⟨j142, hj142⟩ : ∃ i : Int, i = (1 : Int) * jro1_0z := ⟨_, rfl⟩
    have B142 : -4398048608256 ≤ j142 ∧ j142 ≤ 4398048608256 := by rw [hj142]; exact own_bd_mul own_b1 Bjro1_0z (by decide)
    have Dq142 : OwnDS 0 j142 (FP.dmul (4611686018427387904 : UInt64) ro1_0z) := by rw [hj142]; have q := own_ds_mul (n := 53) own_two Hro1_0z (own_bd_nat (C := 4398048608256) (own_bd_mul own_b1 Bjro1_0z (by decide)) (by decide)); exact q
    obtain ⟨d142, hd142⟩ : ∃ v, FP.dmul (4611686018427387904 : UInt64) ro1_0z = v := ⟨_, rfl⟩
    have D142 : OwnDS 0 j142 d142 := by rw [← hd142]; exact Dq142
    obtain ⟨d143, hd143⟩ : ∃ v, FP.l2d v136 = v := ⟨_, rfl⟩
    have D143 : OwnDS 0 j136 d143 := by rw [← hd143]; exact own_l2db F136 B136 (by decide)
    refine OwnGo.pre (fun t k => XS.ifNo X134.here hx rfl (hb hby at_473) rfl ((own_brD .ne D140 D141 _).trans (decide_eq_false (fun q => q q473))) (own_ldcD X134 hx hown (mvT hZ (hw _ (List.mem_of_getElem? (i := 16) rfl))) rfl (hb hby at_476) (XS.dload X134.here hx rfl (hb hby at_479) rfl (XS.dmulS X134.here hx rfl (hb hby at_481) rfl (own_nn Dq142) hd142 (XT.lload X134.here hx rfl (hb hby at_482) rfl (XS.l2dS X134.here hx rfl (hb hby at_484) rfl hd143 (XS.dcmpS X134.here hx rfl (hb hby at_485) rfl rfl k))))))) ?_
    show OwnGo _ _ _ _ (T134.setTop (mkF m 486 #[sJ p0, uS, sJ p1, uS, sJ p2, uS, sI p3, sI (0 : Int32), sI y0, sI y1, sI y2, sI y3, sI y4, sI y5, sR a101, sR a102, sR a103, sR a104, sR a105, sR a102, sR a103, sR a104, sR a105, sI (0 : Int32), sI (0 : Int32), sI (0 : Int32), sI (0 : Int32), sD ro0_0z, uS, sD ro1_0z, uS, sD ro2_0z, uS, sD ro3_0z, uS, sJ v119, uS, sJ v122, uS, sJ v125, uS, sJ v128, uS, sJ v128, uS, sJ v129, uS, sJ v130, uS, sJ v132, uS, sJ wr, uS, sJ wi, uS, sJ v135, uS, sJ v136, uS, sJ v137, uS, sJ v139, uS] [(.int (cmpValue (FP.dcmp d142 d143) .l))]))
    have q486 : j142 = j136 := by simp only [hj142, hjro1_0z, hj136, hj122, hjwi, hj132, hj128, hj129, hj125]; exact own_eq1 jy1 jy3 jy4 jy2 jy0 jy5
    obtain ⟨j144, hj144⟩ : ∃ i : Int, i = (1 : Int) * jro2_0z := ⟨_, rfl⟩
    have B144 : -4398048608256 ≤ j144 ∧ j144 ≤ 4398048608256 := by rw [hj144]; exact own_bd_mul own_b1 Bjro2_0z (by decide)
    have Dq144 : OwnDS 0 j144 (FP.dmul (4611686018427387904 : UInt64) ro2_0z) := by rw [hj144]; have q := own_ds_mul (n := 53) own_two Hro2_0z (own_bd_nat (C := 4398048608256) (own_bd_mul own_b1 Bjro2_0z (by decide)) (by decide)); exact q
    obtain ⟨d144, hd144⟩ : ∃ v, FP.dmul (4611686018427387904 : UInt64) ro2_0z = v := ⟨_, rfl⟩
    have D144 : OwnDS 0 j144 d144 := by rw [← hd144]; exact Dq144
    obtain ⟨d145, hd145⟩ : ∃ v, FP.l2d v137 = v := ⟨_, rfl⟩
    have D145 : OwnDS 0 j137 d145 := by rw [← hd145]; exact own_l2db F137 B137 (by decide)
    refine OwnGo.pre (fun t k => XS.ifNo X134.here hx rfl (hb hby at_486) rfl ((own_brD .ne D142 D143 _).trans (decide_eq_false (fun q => q q486))) (own_ldcD X134 hx hown (mvT hZ (hw _ (List.mem_of_getElem? (i := 16) rfl))) rfl (hb hby at_489) (XS.dload X134.here hx rfl (hb hby at_492) rfl (XS.dmulS X134.here hx rfl (hb hby at_494) rfl (own_nn Dq144) hd144 (XT.lload X134.here hx rfl (hb hby at_495) rfl (XS.l2dS X134.here hx rfl (hb hby at_497) rfl hd145 (XS.dcmpS X134.here hx rfl (hb hby at_498) rfl rfl k))))))) ?_
    show OwnGo _ _ _ _ (T134.setTop (mkF m 499 #[sJ p0, uS, sJ p1, uS, sJ p2, uS, sI p3, sI (0 : Int32), sI y0, sI y1, sI y2, sI y3, sI y4, sI y5, sR a101, sR a102, sR a103, sR a104, sR a105, sR a102, sR a103, sR a104, sR a105, sI (0 : Int32), sI (0 : Int32), sI (0 : Int32), sI (0 : Int32), sD ro0_0z, uS, sD ro1_0z, uS, sD ro2_0z, uS, sD ro3_0z, uS, sJ v119, uS, sJ v122, uS, sJ v125, uS, sJ v128, uS, sJ v128, uS, sJ v129, uS, sJ v130, uS, sJ v132, uS, sJ wr, uS, sJ wi, uS, sJ v135, uS, sJ v136, uS, sJ v137, uS, sJ v139, uS] [(.int (cmpValue (FP.dcmp d144 d145) .l))]))
    have q499 : j144 = j137 := by simp only [hj144, hjro2_0z, hj137, hj119, hjwr, hj132, hj128, hj129, hj125]; exact own_eq2 jy0 jy2 jy4 jy1 jy3 jy5
    obtain ⟨j146, hj146⟩ : ∃ i : Int, i = (1 : Int) * jro3_0z := ⟨_, rfl⟩
    have B146 : -4398048608256 ≤ j146 ∧ j146 ≤ 4398048608256 := by rw [hj146]; exact own_bd_mul own_b1 Bjro3_0z (by decide)
    have Dq146 : OwnDS 0 j146 (FP.dmul (4611686018427387904 : UInt64) ro3_0z) := by rw [hj146]; have q := own_ds_mul (n := 53) own_two Hro3_0z (own_bd_nat (C := 4398048608256) (own_bd_mul own_b1 Bjro3_0z (by decide)) (by decide)); exact q
    obtain ⟨d146, hd146⟩ : ∃ v, FP.dmul (4611686018427387904 : UInt64) ro3_0z = v := ⟨_, rfl⟩
    have D146 : OwnDS 0 j146 d146 := by rw [← hd146]; exact Dq146
    obtain ⟨d147, hd147⟩ : ∃ v, FP.l2d v139 = v := ⟨_, rfl⟩
    have D147 : OwnDS 0 j139 d147 := by rw [← hd147]; exact own_l2db F139 B139 (by decide)
    refine OwnGo.pre (fun t k => XS.ifNo X134.here hx rfl (hb hby at_499) rfl ((own_brD .ne D144 D145 _).trans (decide_eq_false (fun q => q q499))) (own_ldcD X134 hx hown (mvT hZ (hw _ (List.mem_of_getElem? (i := 16) rfl))) rfl (hb hby at_502) (XS.dload X134.here hx rfl (hb hby at_505) rfl (XS.dmulS X134.here hx rfl (hb hby at_507) rfl (own_nn Dq146) hd146 (XT.lload X134.here hx rfl (hb hby at_508) rfl (XS.l2dS X134.here hx rfl (hb hby at_510) rfl hd147 (XS.dcmpS X134.here hx rfl (hb hby at_511) rfl rfl k))))))) ?_
    show OwnGo _ _ _ _ (T134.setTop (mkF m 512 #[sJ p0, uS, sJ p1, uS, sJ p2, uS, sI p3, sI (0 : Int32), sI y0, sI y1, sI y2, sI y3, sI y4, sI y5, sR a101, sR a102, sR a103, sR a104, sR a105, sR a102, sR a103, sR a104, sR a105, sI (0 : Int32), sI (0 : Int32), sI (0 : Int32), sI (0 : Int32), sD ro0_0z, uS, sD ro1_0z, uS, sD ro2_0z, uS, sD ro3_0z, uS, sJ v119, uS, sJ v122, uS, sJ v125, uS, sJ v128, uS, sJ v128, uS, sJ v129, uS, sJ v130, uS, sJ v132, uS, sJ wr, uS, sJ wi, uS, sJ v135, uS, sJ v136, uS, sJ v137, uS, sJ v139, uS] [(.int (cmpValue (FP.dcmp d146 d147) .l))]))
    have q512 : j146 = j139 := by simp only [hj146, hjro3_0z, hj139, hj138, hj122, hjwi, hj132, hj128, hj129, hj125]; exact own_eq3 jy4 jy2 jy0 jy5 jy1 jy3
    refine OwnGo.pre (fun t k => XS.ifNo X134.here hx rfl (hb hby at_512) rfl ((own_brD .ne D146 D147 _).trans (decide_eq_false (fun q => q q512))) (XS.iconst X134.here hx rfl (hb hby at_515) (XS.goto X134.here hx rfl (pc0 := 516) (pc' := 520) rfl (hb hby at_516) (by decide) (by decide) k))) ?_
    show OwnGo _ _ _ _ (T134.setTop (mkF m 520 #[sJ p0, uS, sJ p1, uS, sJ p2, uS, sI p3, sI (0 : Int32), sI y0, sI y1, sI y2, sI y3, sI y4, sI y5, sR a101, sR a102, sR a103, sR a104, sR a105, sR a102, sR a103, sR a104, sR a105, sI (0 : Int32), sI (0 : Int32), sI (0 : Int32), sI (0 : Int32), sD ro0_0z, uS, sD ro1_0z, uS, sD ro2_0z, uS, sD ro3_0z, uS, sJ v119, uS, sJ v122, uS, sJ v125, uS, sJ v128, uS, sJ v128, uS, sJ v129, uS, sJ v130, uS, sJ v132, uS, sJ wr, uS, sJ wi, uS, sJ v135, uS, sJ v136, uS, sJ v137, uS, sJ v139, uS] [(.int (1 : Int32))]))
    exact own_retZ X134 hx hk hrt (hb hby at_520) ⟨rfl, M134⟩ (by decide) (by decide)
  · skip
    show OwnGo _ _ _ _ (T100.setTop (mkF m 62 #[sJ p0, uS, sJ p1, uS, sJ p2, uS, sI p3, sI (1 : Int32), sI y0, sI y1, sI y2, sI y3, sI y4, sI y5, uU, uU, uU, uU, uU, uU, uU, uU, uU, uU, uU, uU, uU, uU, uU, uU, uU, uU, uU, uU, uU, uU, uU, uU, uU, uU, uU, uU, uU, uU, uU, uU, uU, uU, uU, uU, uU, uU, uU, uU, uU, uU, uU, uU, uU, uU, uU, uU, uU] [(.int (3 : Int32)), (.int (1 : Int32))]))
    refine OwnGo.pre (fun t k => XS.icmpYes X100.here hx rfl (pc0 := 62) (pc' := 73) rfl (hb hby at_62) rfl (by decide) (by decide) (by decide) (XS.iconst X100.here hx rfl (hb hby at_73) k)) ?_
    show OwnGo _ _ _ _ (T100.setTop (mkF m 74 #[sJ p0, uS, sJ p1, uS, sJ p2, uS, sI p3, sI (1 : Int32), sI y0, sI y1, sI y2, sI y3, sI y4, sI y5, uU, uU, uU, uU, uU, uU, uU, uU, uU, uU, uU, uU, uU, uU, uU, uU, uU, uU, uU, uU, uU, uU, uU, uU, uU, uU, uU, uU, uU, uU, uU, uU, uU, uU, uU, uU, uU, uU, uU, uU, uU, uU, uU, uU, uU, uU, uU, uU, uU] [(.int (4 : Int32))]))
    obtain ⟨T148, h148, X148, e148, E148, A148, st148⟩ := own_newD X100 hx hZ (hw _ (List.mem_of_getElem? (i := 4) rfl)) e100 (g := (mkF m 74 #[sJ p0, uS, sJ p1, uS, sJ p2, uS, sI p3, sI (1 : Int32), sI y0, sI y1, sI y2, sI y3, sI y4, sI y5, uU, uU, uU, uU, uU, uU, uU, uU, uU, uU, uU, uU, uU, uU, uU, uU, uU, uU, uU, uU, uU, uU, uU, uU, uU, uU, uU, uU, uU, uU, uU, uU, uU, uU, uU, uU, uU, uU, uU, uU, uU, uU, uU, uU, uU, uU, uU, uU, uU] [(.int (4 : Int32))])) rfl (hb hby at_74) rfl (by decide) (n := 4) (by decide) (by decide) (by decide) (by decide)
    obtain ⟨a148, g148⟩ : ∃ z, z = h0.size := ⟨_, rfl⟩
    rw [← g148] at A148 st148
    have G148 : n0 ≤ a148 := Nat.le_trans Z0 (Nat.le_of_eq g148.symm)
    have Z148 : n0 ≤ h148.size := Nat.le_trans Z0 E148.1
    have A148n : OwnDA Z h148 a148 [0, 0, 0, 0] := A148
    refine OwnGo.pre (fun t k => st148 t k) ?_
    show OwnGo _ _ _ _ (T148.setTop (mkF m 76 #[sJ p0, uS, sJ p1, uS, sJ p2, uS, sI p3, sI (1 : Int32), sI y0, sI y1, sI y2, sI y3, sI y4, sI y5, uU, uU, uU, uU, uU, uU, uU, uU, uU, uU, uU, uU, uU, uU, uU, uU, uU, uU, uU, uU, uU, uU, uU, uU, uU, uU, uU, uU, uU, uU, uU, uU, uU, uU, uU, uU, uU, uU, uU, uU, uU, uU, uU, uU, uU, uU, uU, uU, uU] [(.ref a148)]))
    refine OwnGo.pre (fun t k => XS.astore X148.here hx rfl (hb hby at_76) rfl rfl (l' := #[sJ p0, uS, sJ p1, uS, sJ p2, uS, sI p3, sI (1 : Int32), sI y0, sI y1, sI y2, sI y3, sI y4, sI y5, sR a148, uU, uU, uU, uU, uU, uU, uU, uU, uU, uU, uU, uU, uU, uU, uU, uU, uU, uU, uU, uU, uU, uU, uU, uU, uU, uU, uU, uU, uU, uU, uU, uU, uU, uU, uU, uU, uU, uU, uU, uU, uU, uU, uU, uU, uU, uU, uU, uU]) rfl (XS.iconst X148.here hx rfl (hb hby at_78) k)) ?_
    show OwnGo _ _ _ _ (T148.setTop (mkF m 79 #[sJ p0, uS, sJ p1, uS, sJ p2, uS, sI p3, sI (1 : Int32), sI y0, sI y1, sI y2, sI y3, sI y4, sI y5, sR a148, uU, uU, uU, uU, uU, uU, uU, uU, uU, uU, uU, uU, uU, uU, uU, uU, uU, uU, uU, uU, uU, uU, uU, uU, uU, uU, uU, uU, uU, uU, uU, uU, uU, uU, uU, uU, uU, uU, uU, uU, uU, uU, uU, uU, uU, uU, uU, uU] [(.int (1 : Int32))]))
    obtain ⟨T149, h149, X149, e149, E149, A149, st149⟩ := own_newD X148 hx hZ (hw _ (List.mem_of_getElem? (i := 4) rfl)) e148 (g := (mkF m 79 #[sJ p0, uS, sJ p1, uS, sJ p2, uS, sI p3, sI (1 : Int32), sI y0, sI y1, sI y2, sI y3, sI y4, sI y5, sR a148, uU, uU, uU, uU, uU, uU, uU, uU, uU, uU, uU, uU, uU, uU, uU, uU, uU, uU, uU, uU, uU, uU, uU, uU, uU, uU, uU, uU, uU, uU, uU, uU, uU, uU, uU, uU, uU, uU, uU, uU, uU, uU, uU, uU, uU, uU, uU, uU] [(.int (1 : Int32))])) rfl (hb hby at_79) rfl (by decide) (n := 1) (by decide) (by decide) (by decide) (by decide)
    obtain ⟨a149, g149⟩ : ∃ z, z = h148.size := ⟨_, rfl⟩
    rw [← g149] at A149 st149
    have G149 : n0 ≤ a149 := Nat.le_trans Z148 (Nat.le_of_eq g149.symm)
    have Z149 : n0 ≤ h149.size := Nat.le_trans Z148 E149.1
    have A149n : OwnDA Z h149 a149 [0] := A149
    have nea148_149 : a148 ≠ a149 := (Nat.ne_of_lt (Nat.lt_of_lt_of_le A148n.lt (Nat.le_of_eq g149.symm)))
    have A149_a148 := A148n.ex E149
    refine OwnGo.pre (fun t k => st149 t k) ?_
    show OwnGo _ _ _ _ (T149.setTop (mkF m 81 #[sJ p0, uS, sJ p1, uS, sJ p2, uS, sI p3, sI (1 : Int32), sI y0, sI y1, sI y2, sI y3, sI y4, sI y5, sR a148, uU, uU, uU, uU, uU, uU, uU, uU, uU, uU, uU, uU, uU, uU, uU, uU, uU, uU, uU, uU, uU, uU, uU, uU, uU, uU, uU, uU, uU, uU, uU, uU, uU, uU, uU, uU, uU, uU, uU, uU, uU, uU, uU, uU, uU, uU, uU, uU] [(.ref a149)]))
    refine OwnGo.pre (fun t k => XS.astore X149.here hx rfl (hb hby at_81) rfl rfl (l' := #[sJ p0, uS, sJ p1, uS, sJ p2, uS, sI p3, sI (1 : Int32), sI y0, sI y1, sI y2, sI y3, sI y4, sI y5, sR a148, sR a149, uU, uU, uU, uU, uU, uU, uU, uU, uU, uU, uU, uU, uU, uU, uU, uU, uU, uU, uU, uU, uU, uU, uU, uU, uU, uU, uU, uU, uU, uU, uU, uU, uU, uU, uU, uU, uU, uU, uU, uU, uU, uU, uU, uU, uU, uU, uU]) rfl (XS.iconst X149.here hx rfl (hb hby at_83) k)) ?_
    show OwnGo _ _ _ _ (T149.setTop (mkF m 84 #[sJ p0, uS, sJ p1, uS, sJ p2, uS, sI p3, sI (1 : Int32), sI y0, sI y1, sI y2, sI y3, sI y4, sI y5, sR a148, sR a149, uU, uU, uU, uU, uU, uU, uU, uU, uU, uU, uU, uU, uU, uU, uU, uU, uU, uU, uU, uU, uU, uU, uU, uU, uU, uU, uU, uU, uU, uU, uU, uU, uU, uU, uU, uU, uU, uU, uU, uU, uU, uU, uU, uU, uU, uU, uU] [(.int (1 : Int32))]))
    obtain ⟨T150, h150, X150, e150, E150, A150, st150⟩ := own_newD X149 hx hZ (hw _ (List.mem_of_getElem? (i := 4) rfl)) e149 (g := (mkF m 84 #[sJ p0, uS, sJ p1, uS, sJ p2, uS, sI p3, sI (1 : Int32), sI y0, sI y1, sI y2, sI y3, sI y4, sI y5, sR a148, sR a149, uU, uU, uU, uU, uU, uU, uU, uU, uU, uU, uU, uU, uU, uU, uU, uU, uU, uU, uU, uU, uU, uU, uU, uU, uU, uU, uU, uU, uU, uU, uU, uU, uU, uU, uU, uU, uU, uU, uU, uU, uU, uU, uU, uU, uU, uU, uU] [(.int (1 : Int32))])) rfl (hb hby at_84) rfl (by decide) (n := 1) (by decide) (by decide) (by decide) (by decide)
    obtain ⟨a150, g150⟩ : ∃ z, z = h149.size := ⟨_, rfl⟩
    rw [← g150] at A150 st150
    have G150 : n0 ≤ a150 := Nat.le_trans Z149 (Nat.le_of_eq g150.symm)
    have Z150 : n0 ≤ h150.size := Nat.le_trans Z149 E150.1
    have A150n : OwnDA Z h150 a150 [0] := A150
    have nea148_150 : a148 ≠ a150 := (Nat.ne_of_lt (Nat.lt_of_lt_of_le A149_a148.lt (Nat.le_of_eq g150.symm)))
    have A150_a148 := A149_a148.ex E150
    have nea149_150 : a149 ≠ a150 := (Nat.ne_of_lt (Nat.lt_of_lt_of_le A149n.lt (Nat.le_of_eq g150.symm)))
    have A150_a149 := A149n.ex E150
    refine OwnGo.pre (fun t k => st150 t k) ?_
    show OwnGo _ _ _ _ (T150.setTop (mkF m 86 #[sJ p0, uS, sJ p1, uS, sJ p2, uS, sI p3, sI (1 : Int32), sI y0, sI y1, sI y2, sI y3, sI y4, sI y5, sR a148, sR a149, uU, uU, uU, uU, uU, uU, uU, uU, uU, uU, uU, uU, uU, uU, uU, uU, uU, uU, uU, uU, uU, uU, uU, uU, uU, uU, uU, uU, uU, uU, uU, uU, uU, uU, uU, uU, uU, uU, uU, uU, uU, uU, uU, uU, uU, uU, uU] [(.ref a150)]))
    refine OwnGo.pre (fun t k => XS.astore X150.here hx rfl (hb hby at_86) rfl rfl (l' := #[sJ p0, uS, sJ p1, uS, sJ p2, uS, sI p3, sI (1 : Int32), sI y0, sI y1, sI y2, sI y3, sI y4, sI y5, sR a148, sR a149, sR a150, uU, uU, uU, uU, uU, uU, uU, uU, uU, uU, uU, uU, uU, uU, uU, uU, uU, uU, uU, uU, uU, uU, uU, uU, uU, uU, uU, uU, uU, uU, uU, uU, uU, uU, uU, uU, uU, uU, uU, uU, uU, uU, uU, uU, uU, uU]) rfl (XS.iconst X150.here hx rfl (hb hby at_88) k)) ?_
    show OwnGo _ _ _ _ (T150.setTop (mkF m 89 #[sJ p0, uS, sJ p1, uS, sJ p2, uS, sI p3, sI (1 : Int32), sI y0, sI y1, sI y2, sI y3, sI y4, sI y5, sR a148, sR a149, sR a150, uU, uU, uU, uU, uU, uU, uU, uU, uU, uU, uU, uU, uU, uU, uU, uU, uU, uU, uU, uU, uU, uU, uU, uU, uU, uU, uU, uU, uU, uU, uU, uU, uU, uU, uU, uU, uU, uU, uU, uU, uU, uU, uU, uU, uU, uU] [(.int (1 : Int32))]))
    obtain ⟨T151, h151, X151, e151, E151, A151, st151⟩ := own_newD X150 hx hZ (hw _ (List.mem_of_getElem? (i := 4) rfl)) e150 (g := (mkF m 89 #[sJ p0, uS, sJ p1, uS, sJ p2, uS, sI p3, sI (1 : Int32), sI y0, sI y1, sI y2, sI y3, sI y4, sI y5, sR a148, sR a149, sR a150, uU, uU, uU, uU, uU, uU, uU, uU, uU, uU, uU, uU, uU, uU, uU, uU, uU, uU, uU, uU, uU, uU, uU, uU, uU, uU, uU, uU, uU, uU, uU, uU, uU, uU, uU, uU, uU, uU, uU, uU, uU, uU, uU, uU, uU, uU] [(.int (1 : Int32))])) rfl (hb hby at_89) rfl (by decide) (n := 1) (by decide) (by decide) (by decide) (by decide)
    obtain ⟨a151, g151⟩ : ∃ z, z = h150.size := ⟨_, rfl⟩
    rw [← g151] at A151 st151
    have G151 : n0 ≤ a151 := Nat.le_trans Z150 (Nat.le_of_eq g151.symm)
    have Z151 : n0 ≤ h151.size := Nat.le_trans Z150 E151.1
    have A151n : OwnDA Z h151 a151 [0] := A151
    have nea148_151 : a148 ≠ a151 := (Nat.ne_of_lt (Nat.lt_of_lt_of_le A150_a148.lt (Nat.le_of_eq g151.symm)))
    have A151_a148 := A150_a148.ex E151
    have nea149_151 : a149 ≠ a151 := (Nat.ne_of_lt (Nat.lt_of_lt_of_le A150_a149.lt (Nat.le_of_eq g151.symm)))
    have A151_a149 := A150_a149.ex E151
    have nea150_151 : a150 ≠ a151 := (Nat.ne_of_lt (Nat.lt_of_lt_of_le A150n.lt (Nat.le_of_eq g151.symm)))
    have A151_a150 := A150n.ex E151
    refine OwnGo.pre (fun t k => st151 t k) ?_
    show OwnGo _ _ _ _ (T151.setTop (mkF m 91 #[sJ p0, uS, sJ p1, uS, sJ p2, uS, sI p3, sI (1 : Int32), sI y0, sI y1, sI y2, sI y3, sI y4, sI y5, sR a148, sR a149, sR a150, uU, uU, uU, uU, uU, uU, uU, uU, uU, uU, uU, uU, uU, uU, uU, uU, uU, uU, uU, uU, uU, uU, uU, uU, uU, uU, uU, uU, uU, uU, uU, uU, uU, uU, uU, uU, uU, uU, uU, uU, uU, uU, uU, uU, uU, uU] [(.ref a151)]))
    refine OwnGo.pre (fun t k => XS.astore X151.here hx rfl (hb hby at_91) rfl rfl (l' := #[sJ p0, uS, sJ p1, uS, sJ p2, uS, sI p3, sI (1 : Int32), sI y0, sI y1, sI y2, sI y3, sI y4, sI y5, sR a148, sR a149, sR a150, sR a151, uU, uU, uU, uU, uU, uU, uU, uU, uU, uU, uU, uU, uU, uU, uU, uU, uU, uU, uU, uU, uU, uU, uU, uU, uU, uU, uU, uU, uU, uU, uU, uU, uU, uU, uU, uU, uU, uU, uU, uU, uU, uU, uU, uU, uU]) rfl (XS.iconst X151.here hx rfl (hb hby at_93) k)) ?_
    show OwnGo _ _ _ _ (T151.setTop (mkF m 94 #[sJ p0, uS, sJ p1, uS, sJ p2, uS, sI p3, sI (1 : Int32), sI y0, sI y1, sI y2, sI y3, sI y4, sI y5, sR a148, sR a149, sR a150, sR a151, uU, uU, uU, uU, uU, uU, uU, uU, uU, uU, uU, uU, uU, uU, uU, uU, uU, uU, uU, uU, uU, uU, uU, uU, uU, uU, uU, uU, uU, uU, uU, uU, uU, uU, uU, uU, uU, uU, uU, uU, uU, uU, uU, uU, uU] [(.int (1 : Int32))]))
    obtain ⟨T152, h152, X152, e152, E152, A152, st152⟩ := own_newD X151 hx hZ (hw _ (List.mem_of_getElem? (i := 4) rfl)) e151 (g := (mkF m 94 #[sJ p0, uS, sJ p1, uS, sJ p2, uS, sI p3, sI (1 : Int32), sI y0, sI y1, sI y2, sI y3, sI y4, sI y5, sR a148, sR a149, sR a150, sR a151, uU, uU, uU, uU, uU, uU, uU, uU, uU, uU, uU, uU, uU, uU, uU, uU, uU, uU, uU, uU, uU, uU, uU, uU, uU, uU, uU, uU, uU, uU, uU, uU, uU, uU, uU, uU, uU, uU, uU, uU, uU, uU, uU, uU, uU] [(.int (1 : Int32))])) rfl (hb hby at_94) rfl (by decide) (n := 1) (by decide) (by decide) (by decide) (by decide)
    obtain ⟨a152, g152⟩ : ∃ z, z = h151.size := ⟨_, rfl⟩
    rw [← g152] at A152 st152
    have G152 : n0 ≤ a152 := Nat.le_trans Z151 (Nat.le_of_eq g152.symm)
    have Z152 : n0 ≤ h152.size := Nat.le_trans Z151 E152.1
    have A152n : OwnDA Z h152 a152 [0] := A152
    have nea148_152 : a148 ≠ a152 := (Nat.ne_of_lt (Nat.lt_of_lt_of_le A151_a148.lt (Nat.le_of_eq g152.symm)))
    have A152_a148 := A151_a148.ex E152
    have nea149_152 : a149 ≠ a152 := (Nat.ne_of_lt (Nat.lt_of_lt_of_le A151_a149.lt (Nat.le_of_eq g152.symm)))
    have A152_a149 := A151_a149.ex E152
    have nea150_152 : a150 ≠ a152 := (Nat.ne_of_lt (Nat.lt_of_lt_of_le A151_a150.lt (Nat.le_of_eq g152.symm)))
    have A152_a150 := A151_a150.ex E152
    have nea151_152 : a151 ≠ a152 := (Nat.ne_of_lt (Nat.lt_of_lt_of_le A151n.lt (Nat.le_of_eq g152.symm)))
    have A152_a151 := A151n.ex E152
    refine OwnGo.pre (fun t k => st152 t k) ?_
    show OwnGo _ _ _ _ (T152.setTop (mkF m 96 #[sJ p0, uS, sJ p1, uS, sJ p2, uS, sI p3, sI (1 : Int32), sI y0, sI y1, sI y2, sI y3, sI y4, sI y5, sR a148, sR a149, sR a150, sR a151, uU, uU, uU, uU, uU, uU, uU, uU, uU, uU, uU, uU, uU, uU, uU, uU, uU, uU, uU, uU, uU, uU, uU, uU, uU, uU, uU, uU, uU, uU, uU, uU, uU, uU, uU, uU, uU, uU, uU, uU, uU, uU, uU, uU, uU] [(.ref a152)]))
    refine OwnGo.pre (fun t k => XS.astore X152.here hx rfl (hb hby at_96) rfl rfl (l' := #[sJ p0, uS, sJ p1, uS, sJ p2, uS, sI p3, sI (1 : Int32), sI y0, sI y1, sI y2, sI y3, sI y4, sI y5, sR a148, sR a149, sR a150, sR a151, sR a152, uU, uU, uU, uU, uU, uU, uU, uU, uU, uU, uU, uU, uU, uU, uU, uU, uU, uU, uU, uU, uU, uU, uU, uU, uU, uU, uU, uU, uU, uU, uU, uU, uU, uU, uU, uU, uU, uU, uU, uU, uU, uU, uU, uU]) rfl (XS.aload X152.here hx rfl (hb hby at_98) rfl rfl (XS.astore X152.here hx rfl (hb hby at_100) rfl rfl (l' := #[sJ p0, uS, sJ p1, uS, sJ p2, uS, sI p3, sI (1 : Int32), sI y0, sI y1, sI y2, sI y3, sI y4, sI y5, sR a148, sR a149, sR a150, sR a151, sR a152, sR a148, uU, uU, uU, uU, uU, uU, uU, uU, uU, uU, uU, uU, uU, uU, uU, uU, uU, uU, uU, uU, uU, uU, uU, uU, uU, uU, uU, uU, uU, uU, uU, uU, uU, uU, uU, uU, uU, uU, uU, uU, uU, uU, uU]) rfl (XS.aload X152.here hx rfl (hb hby at_102) rfl rfl (XS.astore X152.here hx rfl (hb hby at_104) rfl rfl (l' := #[sJ p0, uS, sJ p1, uS, sJ p2, uS, sI p3, sI (1 : Int32), sI y0, sI y1, sI y2, sI y3, sI y4, sI y5, sR a148, sR a149, sR a150, sR a151, sR a152, sR a148, sR a148, uU, uU, uU, uU, uU, uU, uU, uU, uU, uU, uU, uU, uU, uU, uU, uU, uU, uU, uU, uU, uU, uU, uU, uU, uU, uU, uU, uU, uU, uU, uU, uU, uU, uU, uU, uU, uU, uU, uU, uU, uU, uU]) rfl (XS.aload X152.here hx rfl (hb hby at_106) rfl rfl (XS.astore X152.here hx rfl (hb hby at_108) rfl rfl (l' := #[sJ p0, uS, sJ p1, uS, sJ p2, uS, sI p3, sI (1 : Int32), sI y0, sI y1, sI y2, sI y3, sI y4, sI y5, sR a148, sR a149, sR a150, sR a151, sR a152, sR a148, sR a148, sR a148, uU, uU, uU, uU, uU, uU, uU, uU, uU, uU, uU, uU, uU, uU, uU, uU, uU, uU, uU, uU, uU, uU, uU, uU, uU, uU, uU, uU, uU, uU, uU, uU, uU, uU, uU, uU, uU, uU, uU, uU, uU]) rfl (XS.aload X152.here hx rfl (hb hby at_110) rfl rfl k)))))))) ?_
    show OwnGo _ _ _ _ (T152.setTop (mkF m 112 #[sJ p0, uS, sJ p1, uS, sJ p2, uS, sI p3, sI (1 : Int32), sI y0, sI y1, sI y2, sI y3, sI y4, sI y5, sR a148, sR a149, sR a150, sR a151, sR a152, sR a148, sR a148, sR a148, uU, uU, uU, uU, uU, uU, uU, uU, uU, uU, uU, uU, uU, uU, uU, uU, uU, uU, uU, uU, uU, uU, uU, uU, uU, uU, uU, uU, uU, uU, uU, uU, uU, uU, uU, uU, uU, uU, uU, uU, uU] [(.ref a148)]))
    refine OwnGo.pre (fun t k => XS.astore X152.here hx rfl (hb hby at_112) rfl rfl (l' := #[sJ p0, uS, sJ p1, uS, sJ p2, uS, sI p3, sI (1 : Int32), sI y0, sI y1, sI y2, sI y3, sI y4, sI y5, sR a148, sR a149, sR a150, sR a151, sR a152, sR a148, sR a148, sR a148, sR a148, uU, uU, uU, uU, uU, uU, uU, uU, uU, uU, uU, uU, uU, uU, uU, uU, uU, uU, uU, uU, uU, uU, uU, uU, uU, uU, uU, uU, uU, uU, uU, uU, uU, uU, uU, uU, uU, uU, uU, uU]) rfl (XS.iconst X152.here hx rfl (hb hby at_114) (XS.istore X152.here hx rfl (hb hby at_115) rfl (l' := #[sJ p0, uS, sJ p1, uS, sJ p2, uS, sI p3, sI (1 : Int32), sI y0, sI y1, sI y2, sI y3, sI y4, sI y5, sR a148, sR a149, sR a150, sR a151, sR a152, sR a148, sR a148, sR a148, sR a148, sI (0 : Int32), uU, uU, uU, uU, uU, uU, uU, uU, uU, uU, uU, uU, uU, uU, uU, uU, uU, uU, uU, uU, uU, uU, uU, uU, uU, uU, uU, uU, uU, uU, uU, uU, uU, uU, uU, uU, uU, uU, uU]) rfl (XS.iconst X152.here hx rfl (hb hby at_117) (XS.istore X152.here hx rfl (hb hby at_118) rfl (l' := #[sJ p0, uS, sJ p1, uS, sJ p2, uS, sI p3, sI (1 : Int32), sI y0, sI y1, sI y2, sI y3, sI y4, sI y5, sR a148, sR a149, sR a150, sR a151, sR a152, sR a148, sR a148, sR a148, sR a148, sI (0 : Int32), sI (1 : Int32), uU, uU, uU, uU, uU, uU, uU, uU, uU, uU, uU, uU, uU, uU, uU, uU, uU, uU, uU, uU, uU, uU, uU, uU, uU, uU, uU, uU, uU, uU, uU, uU, uU, uU, uU, uU, uU, uU]) rfl (XS.iconst X152.here hx rfl (hb hby at_120) (XS.istore X152.here hx rfl (hb hby at_121) rfl (l' := #[sJ p0, uS, sJ p1, uS, sJ p2, uS, sI p3, sI (1 : Int32), sI y0, sI y1, sI y2, sI y3, sI y4, sI y5, sR a148, sR a149, sR a150, sR a151, sR a152, sR a148, sR a148, sR a148, sR a148, sI (0 : Int32), sI (1 : Int32), sI (0 : Int32), uU, uU, uU, uU, uU, uU, uU, uU, uU, uU, uU, uU, uU, uU, uU, uU, uU, uU, uU, uU, uU, uU, uU, uU, uU, uU, uU, uU, uU, uU, uU, uU, uU, uU, uU, uU, uU]) rfl (XS.iconst X152.here hx rfl (hb hby at_123) k)))))))) ?_
    show OwnGo _ _ _ _ (T152.setTop (mkF m 124 #[sJ p0, uS, sJ p1, uS, sJ p2, uS, sI p3, sI (1 : Int32), sI y0, sI y1, sI y2, sI y3, sI y4, sI y5, sR a148, sR a149, sR a150, sR a151, sR a152, sR a148, sR a148, sR a148, sR a148, sI (0 : Int32), sI (1 : Int32), sI (0 : Int32), uU, uU, uU, uU, uU, uU, uU, uU, uU, uU, uU, uU, uU, uU, uU, uU, uU, uU, uU, uU, uU, uU, uU, uU, uU, uU, uU, uU, uU, uU, uU, uU, uU, uU, uU, uU, uU] [(.int (1 : Int32))]))
    refine OwnGo.pre (fun t k => XS.istore X152.here hx rfl (hb hby at_124) rfl (l' := #[sJ p0, uS, sJ p1, uS, sJ p2, uS, sI p3, sI (1 : Int32), sI y0, sI y1, sI y2, sI y3, sI y4, sI y5, sR a148, sR a149, sR a150, sR a151, sR a152, sR a148, sR a148, sR a148, sR a148, sI (0 : Int32), sI (1 : Int32), sI (0 : Int32), sI (1 : Int32), uU, uU, uU, uU, uU, uU, uU, uU, uU, uU, uU, uU, uU, uU, uU, uU, uU, uU, uU, uU, uU, uU, uU, uU, uU, uU, uU, uU, uU, uU, uU, uU, uU, uU, uU, uU]) rfl (XS.iload X152.here hx rfl (hb hby at_126) rfl (XS.ifYes X152.here hx rfl (pc0 := 128) (pc' := 156) rfl (hb hby at_128) rfl (by decide) (by decide) (by decide) (XS.iload X152.here hx rfl (hb hby at_156) rfl (XS.iconst X152.here hx rfl (hb hby at_158) (XS.icmpNo X152.here hx rfl (hb hby at_159) rfl (by decide) (XS.iconst X152.here hx rfl (hb hby at_162) (XS.istore X152.here hx rfl (hb hby at_163) rfl (l' := #[sJ p0, uS, sJ p1, uS, sJ p2, uS, sI p3, sI (1 : Int32), sI y0, sI y1, sI y2, sI y3, sI y4, sI y5, sR a148, sR a149, sR a150, sR a151, sR a152, sR a148, sR a148, sR a148, sR a148, sI (0 : Int32), sI (1 : Int32), sI (0 : Int32), sI (1 : Int32), uU, uU, uU, uU, uU, uU, uU, uU, uU, uU, uU, uU, uU, uU, uU, uU, uU, uU, uU, uU, uU, uU, uU, uU, uU, uU, uU, uU, uU, uU, uU, uU, uU, uU, uU, uU]) rfl k)))))))) ?_
    show OwnGo _ _ _ _ (T152.setTop (mkF m 165 #[sJ p0, uS, sJ p1, uS, sJ p2, uS, sI p3, sI (1 : Int32), sI y0, sI y1, sI y2, sI y3, sI y4, sI y5, sR a148, sR a149, sR a150, sR a151, sR a152, sR a148, sR a148, sR a148, sR a148, sI (0 : Int32), sI (1 : Int32), sI (0 : Int32), sI (1 : Int32), uU, uU, uU, uU, uU, uU, uU, uU, uU, uU, uU, uU, uU, uU, uU, uU, uU, uU, uU, uU, uU, uU, uU, uU, uU, uU, uU, uU, uU, uU, uU, uU, uU, uU, uU, uU] []))
    refine OwnGo.pre (fun t k => XS.iconst X152.here hx rfl (hb hby at_165) (XS.istore X152.here hx rfl (hb hby at_166) rfl (l' := #[sJ p0, uS, sJ p1, uS, sJ p2, uS, sI p3, sI (1 : Int32), sI y0, sI y1, sI y2, sI y3, sI y4, sI y5, sR a148, sR a149, sR a150, sR a151, sR a152, sR a148, sR a148, sR a148, sR a148, sI (0 : Int32), sI (1 : Int32), sI (0 : Int32), sI (1 : Int32), uU, uU, uU, uU, uU, uU, uU, uU, uU, uU, uU, uU, uU, uU, uU, uU, uU, uU, uU, uU, uU, uU, uU, uU, uU, uU, uU, uU, uU, uU, uU, uU, uU, uU, uU, uU]) rfl (XS.iconst X152.here hx rfl (hb hby at_168) (XS.istore X152.here hx rfl (hb hby at_169) rfl (l' := #[sJ p0, uS, sJ p1, uS, sJ p2, uS, sI p3, sI (1 : Int32), sI y0, sI y1, sI y2, sI y3, sI y4, sI y5, sR a148, sR a149, sR a150, sR a151, sR a152, sR a148, sR a148, sR a148, sR a148, sI (0 : Int32), sI (1 : Int32), sI (2 : Int32), sI (1 : Int32), uU, uU, uU, uU, uU, uU, uU, uU, uU, uU, uU, uU, uU, uU, uU, uU, uU, uU, uU, uU, uU, uU, uU, uU, uU, uU, uU, uU, uU, uU, uU, uU, uU, uU, uU, uU]) rfl (XS.iconst X152.here hx rfl (hb hby at_171) (XS.istore X152.here hx rfl (hb hby at_172) rfl (l' := #[sJ p0, uS, sJ p1, uS, sJ p2, uS, sI p3, sI (1 : Int32), sI y0, sI y1, sI y2, sI y3, sI y4, sI y5, sR a148, sR a149, sR a150, sR a151, sR a152, sR a148, sR a148, sR a148, sR a148, sI (0 : Int32), sI (1 : Int32), sI (2 : Int32), sI (3 : Int32), uU, uU, uU, uU, uU, uU, uU, uU, uU, uU, uU, uU, uU, uU, uU, uU, uU, uU, uU, uU, uU, uU, uU, uU, uU, uU, uU, uU, uU, uU, uU, uU, uU, uU, uU, uU]) rfl (XS.goto X152.here hx rfl (pc0 := 174) (pc' := 195) rfl (hb hby at_174) (by decide) (by decide) (XS.aload X152.here hx rfl (hb hby at_195) rfl rfl k)))))))) ?_
    show OwnGo _ _ _ _ (T152.setTop (mkF m 197 #[sJ p0, uS, sJ p1, uS, sJ p2, uS, sI p3, sI (1 : Int32), sI y0, sI y1, sI y2, sI y3, sI y4, sI y5, sR a148, sR a149, sR a150, sR a151, sR a152, sR a148, sR a148, sR a148, sR a148, sI (0 : Int32), sI (1 : Int32), sI (2 : Int32), sI (3 : Int32), uU, uU, uU, uU, uU, uU, uU, uU, uU, uU, uU, uU, uU, uU, uU, uU, uU, uU, uU, uU, uU, uU, uU, uU, uU, uU, uU, uU, uU, uU, uU, uU, uU, uU, uU, uU] [(.ref a148)]))
    obtain ⟨d153, hd153⟩ : ∃ v, FP.i2d y2 = v := ⟨_, rfl⟩
    have D153 : OwnDS 0 jy2 d153 := by rw [← hd153, ← Fy2]; exact own_i2d _
    refine OwnGo.pre (fun t k => XS.iload X152.here hx rfl (hb hby at_197) rfl (XS.iload X152.here hx rfl (hb hby at_199) rfl (XS.i2dS X152.here hx rfl (hb hby at_201) rfl hd153 k))) ?_
    show OwnGo _ _ _ _ (T152.setTop (mkF m 202 #[sJ p0, uS, sJ p1, uS, sJ p2, uS, sI p3, sI (1 : Int32), sI y0, sI y1, sI y2, sI y3, sI y4, sI y5, sR a148, sR a149, sR a150, sR a151, sR a152, sR a148, sR a148, sR a148, sR a148, sI (0 : Int32), sI (1 : Int32), sI (2 : Int32), sI (3 : Int32), uU, uU, uU, uU, uU, uU, uU, uU, uU, uU, uU, uU, uU, uU, uU, uU, uU, uU, uU, uU, uU, uU, uU, uU, uU, uU, uU, uU, uU, uU, uU, uU, uU, uU, uU, uU] [(.double d153), (.int (2 : Int32)), (.ref a148)]))
    obtain ⟨T154, h154, X154, e154, W154, A154, st154⟩ := own_daS X152 hx hZ e152 A152_a148 (by decide) (i := 2) (by decide) (by show 2 < 4; decide) (g := (mkF m 202 #[sJ p0, uS, sJ p1, uS, sJ p2, uS, sI p3, sI (1 : Int32), sI y0, sI y1, sI y2, sI y3, sI y4, sI y5, sR a148, sR a149, sR a150, sR a151, sR a152, sR a148, sR a148, sR a148, sR a148, sI (0 : Int32), sI (1 : Int32), sI (2 : Int32), sI (3 : Int32), uU, uU, uU, uU, uU, uU, uU, uU, uU, uU, uU, uU, uU, uU, uU, uU, uU, uU, uU, uU, uU, uU, uU, uU, uU, uU, uU, uU, uU, uU, uU, uU, uU, uU, uU, uU] [(.double d153), (.int (2 : Int32)), (.ref a148)])) rfl rfl (hb hby at_202)
    have A154n : OwnDA Z h154 a148 [0, 0, d153, 0] := A154
    have A154_a149 := A152_a149.ot W154 nea148_149.symm
    have A154_a150 := A152_a150.ot W154 nea148_150.symm
    have A154_a151 := A152_a151.ot W154 nea148_151.symm
    have A154_a152 := A152n.ot W154 nea148_152.symm
    have N154 := Fr.snoc X154 M100 G148
    have Z154 : n0 ≤ h154.size := by rw [W154.size]; exact Z152
    refine OwnGo.pre (fun t k => st154 t k) ?_
    show OwnGo _ _ _ _ (T154.setTop (mkF m 203 #[sJ p0, uS, sJ p1, uS, sJ p2, uS, sI p3, sI (1 : Int32), sI y0, sI y1, sI y2, sI y3, sI y4, sI y5, sR a148, sR a149, sR a150, sR a151, sR a152, sR a148, sR a148, sR a148, sR a148, sI (0 : Int32), sI (1 : Int32), sI (2 : Int32), sI (3 : Int32), uU, uU, uU, uU, uU, uU, uU, uU, uU, uU, uU, uU, uU, uU, uU, uU, uU, uU, uU, uU, uU, uU, uU, uU, uU, uU, uU, uU, uU, uU, uU, uU, uU, uU, uU, uU] []))
    obtain ⟨d155, hd155⟩ : ∃ v, FP.i2d y3 = v := ⟨_, rfl⟩
    have D155 : OwnDS 0 jy3 d155 := by rw [← hd155, ← Fy3]; exact own_i2d _
    refine OwnGo.pre (fun t k => XS.aload X154.here hx rfl (hb hby at_203) rfl rfl (XS.iload X154.here hx rfl (hb hby at_205) rfl (XS.iload X154.here hx rfl (hb hby at_207) rfl (XS.i2dS X154.here hx rfl (hb hby at_209) rfl hd155 k)))) ?_
    show OwnGo _ _ _ _ (T154.setTop (mkF m 210 #[sJ p0, uS, sJ p1, uS, sJ p2, uS, sI p3, sI (1 : Int32), sI y0, sI y1, sI y2, sI y3, sI y4, sI y5, sR a148, sR a149, sR a150, sR a151, sR a152, sR a148, sR a148, sR a148, sR a148, sI (0 : Int32), sI (1 : Int32), sI (2 : Int32), sI (3 : Int32), uU, uU, uU, uU, uU, uU, uU, uU, uU, uU, uU, uU, uU, uU, uU, uU, uU, uU, uU, uU, uU, uU, uU, uU, uU, uU, uU, uU, uU, uU, uU, uU, uU, uU, uU, uU] [(.double d155), (.int (3 : Int32)), (.ref a148)]))
    obtain ⟨T156, h156, X156, e156, W156, A156, st156⟩ := own_daS X154 hx hZ e154 A154n (by decide) (i := 3) (by decide) (by show 3 < 4; decide) (g := (mkF m 210 #[sJ p0, uS, sJ p1, uS, sJ p2, uS, sI p3, sI (1 : Int32), sI y0, sI y1, sI y2, sI y3, sI y4, sI y5, sR a148, sR a149, sR a150, sR a151, sR a152, sR a148, sR a148, sR a148, sR a148, sI (0 : Int32), sI (1 : Int32), sI (2 : Int32), sI (3 : Int32), uU, uU, uU, uU, uU, uU, uU, uU, uU, uU, uU, uU, uU, uU, uU, uU, uU, uU, uU, uU, uU, uU, uU, uU, uU, uU, uU, uU, uU, uU, uU, uU, uU, uU, uU, uU] [(.double d155), (.int (3 : Int32)), (.ref a148)])) rfl rfl (hb hby at_210)
    have A156n : OwnDA Z h156 a148 [0, 0, d153, d155] := A156
    have A156_a149 := A154_a149.ot W156 nea148_149.symm
    have A156_a150 := A154_a150.ot W156 nea148_150.symm
    have A156_a151 := A154_a151.ot W156 nea148_151.symm
    have A156_a152 := A154_a152.ot W156 nea148_152.symm
    have N156 := Fr.snoc X156 N154 G148
    have Z156 : n0 ≤ h156.size := by rw [W156.size]; exact Z154
    refine OwnGo.pre (fun t k => st156 t k) ?_
    show OwnGo _ _ _ _ (T156.setTop (mkF m 211 #[sJ p0, uS, sJ p1, uS, sJ p2, uS, sI p3, sI (1 : Int32), sI y0, sI y1, sI y2, sI y3, sI y4, sI y5, sR a148, sR a149, sR a150, sR a151, sR a152, sR a148, sR a148, sR a148, sR a148, sI (0 : Int32), sI (1 : Int32), sI (2 : Int32), sI (3 : Int32), uU, uU, uU, uU, uU, uU, uU, uU, uU, uU, uU, uU, uU, uU, uU, uU, uU, uU, uU, uU, uU, uU, uU, uU, uU, uU, uU, uU, uU, uU, uU, uU, uU, uU, uU, uU] []))
    obtain ⟨d157, hd157⟩ : ∃ v, FP.i2d y0 = v := ⟨_, rfl⟩
    have D157 : OwnDS 0 jy0 d157 := by rw [← hd157, ← Fy0]; exact own_i2d _
    refine OwnGo.pre (fun t k => XS.aload X156.here hx rfl (hb hby at_211) rfl rfl (XS.iload X156.here hx rfl (hb hby at_213) rfl (XS.iload X156.here hx rfl (hb hby at_215) rfl (XS.i2dS X156.here hx rfl (hb hby at_217) rfl hd157 k)))) ?_
    show OwnGo _ _ _ _ (T156.setTop (mkF m 218 #[sJ p0, uS, sJ p1, uS, sJ p2, uS, sI p3, sI (1 : Int32), sI y0, sI y1, sI y2, sI y3, sI y4, sI y5, sR a148, sR a149, sR a150, sR a151, sR a152, sR a148, sR a148, sR a148, sR a148, sI (0 : Int32), sI (1 : Int32), sI (2 : Int32), sI (3 : Int32), uU, uU, uU, uU, uU, uU, uU, uU, uU, uU, uU, uU, uU, uU, uU, uU, uU, uU, uU, uU, uU, uU, uU, uU, uU, uU, uU, uU, uU, uU, uU, uU, uU, uU, uU, uU] [(.double d157), (.int (0 : Int32)), (.ref a148)]))
    obtain ⟨T158, h158, X158, e158, W158, A158, st158⟩ := own_daS X156 hx hZ e156 A156n (by decide) (i := 0) (by decide) (by show 0 < 4; decide) (g := (mkF m 218 #[sJ p0, uS, sJ p1, uS, sJ p2, uS, sI p3, sI (1 : Int32), sI y0, sI y1, sI y2, sI y3, sI y4, sI y5, sR a148, sR a149, sR a150, sR a151, sR a152, sR a148, sR a148, sR a148, sR a148, sI (0 : Int32), sI (1 : Int32), sI (2 : Int32), sI (3 : Int32), uU, uU, uU, uU, uU, uU, uU, uU, uU, uU, uU, uU, uU, uU, uU, uU, uU, uU, uU, uU, uU, uU, uU, uU, uU, uU, uU, uU, uU, uU, uU, uU, uU, uU, uU, uU] [(.double d157), (.int (0 : Int32)), (.ref a148)])) rfl rfl (hb hby at_218)
    have A158n : OwnDA Z h158 a148 [d157, 0, d153, d155] := A158
    have A158_a149 := A156_a149.ot W158 nea148_149.symm
    have A158_a150 := A156_a150.ot W158 nea148_150.symm
    have A158_a151 := A156_a151.ot W158 nea148_151.symm
    have A158_a152 := A156_a152.ot W158 nea148_152.symm
    have N158 := Fr.snoc X158 N156 G148
    have Z158 : n0 ≤ h158.size := by rw [W158.size]; exact Z156
    refine OwnGo.pre (fun t k => st158 t k) ?_
    show OwnGo _ _ _ _ (T158.setTop (mkF m 219 #[sJ p0, uS, sJ p1, uS, sJ p2, uS, sI p3, sI (1 : Int32), sI y0, sI y1, sI y2, sI y3, sI y4, sI y5, sR a148, sR a149, sR a150, sR a151, sR a152, sR a148, sR a148, sR a148, sR a148, sI (0 : Int32), sI (1 : Int32), sI (2 : Int32), sI (3 : Int32), uU, uU, uU, uU, uU, uU, uU, uU, uU, uU, uU, uU, uU, uU, uU, uU, uU, uU, uU, uU, uU, uU, uU, uU, uU, uU, uU, uU, uU, uU, uU, uU, uU, uU, uU, uU] []))
    obtain ⟨d159, hd159⟩ : ∃ v, FP.i2d y1 = v := ⟨_, rfl⟩
    have D159 : OwnDS 0 jy1 d159 := by rw [← hd159, ← Fy1]; exact own_i2d _
    refine OwnGo.pre (fun t k => XS.aload X158.here hx rfl (hb hby at_219) rfl rfl (XS.iload X158.here hx rfl (hb hby at_221) rfl (XS.iload X158.here hx rfl (hb hby at_223) rfl (XS.i2dS X158.here hx rfl (hb hby at_225) rfl hd159 k)))) ?_
    show OwnGo _ _ _ _ (T158.setTop (mkF m 226 #[sJ p0, uS, sJ p1, uS, sJ p2, uS, sI p3, sI (1 : Int32), sI y0, sI y1, sI y2, sI y3, sI y4, sI y5, sR a148, sR a149, sR a150, sR a151, sR a152, sR a148, sR a148, sR a148, sR a148, sI (0 : Int32), sI (1 : Int32), sI (2 : Int32), sI (3 : Int32), uU, uU, uU, uU, uU, uU, uU, uU, uU, uU, uU, uU, uU, uU, uU, uU, uU, uU, uU, uU, uU, uU, uU, uU, uU, uU, uU, uU, uU, uU, uU, uU, uU, uU, uU, uU] [(.double d159), (.int (1 : Int32)), (.ref a148)]))
    obtain ⟨T160, h160, X160, e160, W160, A160, st160⟩ := own_daS X158 hx hZ e158 A158n (by decide) (i := 1) (by decide) (by show 1 < 4; decide) (g := (mkF m 226 #[sJ p0, uS, sJ p1, uS, sJ p2, uS, sI p3, sI (1 : Int32), sI y0, sI y1, sI y2, sI y3, sI y4, sI y5, sR a148, sR a149, sR a150, sR a151, sR a152, sR a148, sR a148, sR a148, sR a148, sI (0 : Int32), sI (1 : Int32), sI (2 : Int32), sI (3 : Int32), uU, uU, uU, uU, uU, uU, uU, uU, uU, uU, uU, uU, uU, uU, uU, uU, uU, uU, uU, uU, uU, uU, uU, uU, uU, uU, uU, uU, uU, uU, uU, uU, uU, uU, uU, uU] [(.double d159), (.int (1 : Int32)), (.ref a148)])) rfl rfl (hb hby at_226)
    have A160n : OwnDA Z h160 a148 [d157, d159, d153, d155] := A160
    have A160_a149 := A158_a149.ot W160 nea148_149.symm
    have A160_a150 := A158_a150.ot W160 nea148_150.symm
    have A160_a151 := A158_a151.ot W160 nea148_151.symm
    have A160_a152 := A158_a152.ot W160 nea148_152.symm
    have N160 := Fr.snoc X160 N158 G148
    have Z160 : n0 ≤ h160.size := by rw [W160.size]; exact Z158
    refine OwnGo.pre (fun t k => st160 t k) ?_
    show OwnGo _ _ _ _ (T160.setTop (mkF m 227 #[sJ p0, uS, sJ p1, uS, sJ p2, uS, sI p3, sI (1 : Int32), sI y0, sI y1, sI y2, sI y3, sI y4, sI y5, sR a148, sR a149, sR a150, sR a151, sR a152, sR a148, sR a148, sR a148, sR a148, sI (0 : Int32), sI (1 : Int32), sI (2 : Int32), sI (3 : Int32), uU, uU, uU, uU, uU, uU, uU, uU, uU, uU, uU, uU, uU, uU, uU, uU, uU, uU, uU, uU, uU, uU, uU, uU, uU, uU, uU, uU, uU, uU, uU, uU, uU, uU, uU, uU] []))
    refine OwnGo.pre (fun t k => XS.aload X160.here hx rfl (hb hby at_227) rfl rfl (XS.iload X160.here hx rfl (hb hby at_229) rfl (XS.aload X160.here hx rfl (hb hby at_231) rfl rfl (XS.iload X160.here hx rfl (hb hby at_233) rfl (XS.aload X160.here hx rfl (hb hby at_235) rfl rfl (XS.iload X160.here hx rfl (hb hby at_237) rfl (XS.aload X160.here hx rfl (hb hby at_239) rfl rfl (XS.iload X160.here hx rfl (hb hby at_241) rfl k)))))))) ?_
    show OwnGo _ _ _ _ (T160.setTop (mkF m 243 #[sJ p0, uS, sJ p1, uS, sJ p2, uS, sI p3, sI (1 : Int32), sI y0, sI y1, sI y2, sI y3, sI y4, sI y5, sR a148, sR a149, sR a150, sR a151, sR a152, sR a148, sR a148, sR a148, sR a148, sI (0 : Int32), sI (1 : Int32), sI (2 : Int32), sI (3 : Int32), uU, uU, uU, uU, uU, uU, uU, uU, uU, uU, uU, uU, uU, uU, uU, uU, uU, uU, uU, uU, uU, uU, uU, uU, uU, uU, uU, uU, uU, uU, uU, uU, uU, uU, uU, uU] [(.int (3 : Int32)), (.ref a148), (.int (2 : Int32)), (.ref a148), (.int (1 : Int32)), (.ref a148), (.int (0 : Int32)), (.ref a148)]))
    obtain ⟨d161, hd161⟩ : ∃ v, FP.i2d y4 = v := ⟨_, rfl⟩
    have D161 : OwnDS 0 jy4 d161 := by rw [← hd161, ← Fy4]; exact own_i2d _
    obtain ⟨d162, hd162⟩ : ∃ v, FP.i2d y5 = v := ⟨_, rfl⟩
    have D162 : OwnDS 0 jy5 d162 := by rw [← hd162, ← Fy5]; exact own_i2d _
    refine OwnGo.pre (fun t k => XS.iload X160.here hx rfl (hb hby at_243) rfl (XS.i2dS X160.here hx rfl (hb hby at_245) rfl hd161 (XS.iload X160.here hx rfl (hb hby at_246) rfl (XS.i2dS X160.here hx rfl (hb hby at_248) rfl hd162 k)))) ?_
    show OwnGo _ _ _ _ (T160.setTop (mkF m 249 #[sJ p0, uS, sJ p1, uS, sJ p2, uS, sI p3, sI (1 : Int32), sI y0, sI y1, sI y2, sI y3, sI y4, sI y5, sR a148, sR a149, sR a150, sR a151, sR a152, sR a148, sR a148, sR a148, sR a148, sI (0 : Int32), sI (1 : Int32), sI (2 : Int32), sI (3 : Int32), uU, uU, uU, uU, uU, uU, uU, uU, uU, uU, uU, uU, uU, uU, uU, uU, uU, uU, uU, uU, uU, uU, uU, uU, uU, uU, uU, uU, uU, uU, uU, uU, uU, uU, uU, uU] [(.double d162), (.double d161), (.int (3 : Int32)), (.ref a148), (.int (2 : Int32)), (.ref a148), (.int (1 : Int32)), (.ref a148), (.int (0 : Int32)), (.ref a148)]))
    obtain ⟨_, _, ⟨T163, L163, k163, n163⟩, -, X163, ⟨Lc163, hQ163, l163, y163, z163⟩, st163⟩ := Jvm.LawKit.callS X160 hx (y := (⟨"com/example/isochron/isochron/dsp/Fourier", "separate", "([DI[DI[DI[DIDD)V"⟩ : MethodName)) hown (mvT hZ (hw _ (List.mem_of_getElem? (i := 5) rfl))) (mvT hZ (hw _ (List.mem_of_getElem? (i := 6) rfl))) (mvT hZ (hw _ (List.mem_of_getElem? (i := 7) rfl))) (mvT hZ (hw _ (List.mem_of_getElem? (i := 8) rfl))) (by decide) (backOf (W := 0) (rmK1 l Z a0 hw [] a148 d157 d159 d153 d155 d161 d162 jy0 jy1 jy2 jy3 jy4 jy5 h160 n0 Z160 A160n G148 D157 by0 D159 by1 D153 by2 D155 by3 D161 by4 D162 by5) hZ (hw _ (List.mem_of_getElem? (i := 8) rfl)) (hw _ (List.mem_of_getElem? (i := 7) rfl)) (by decide) (by decide)) (g := (mkF m 249 #[sJ p0, uS, sJ p1, uS, sJ p2, uS, sI p3, sI (1 : Int32), sI y0, sI y1, sI y2, sI y3, sI y4, sI y5, sR a148, sR a149, sR a150, sR a151, sR a152, sR a148, sR a148, sR a148, sR a148, sI (0 : Int32), sI (1 : Int32), sI (2 : Int32), sI (3 : Int32), uU, uU, uU, uU, uU, uU, uU, uU, uU, uU, uU, uU, uU, uU, uU, uU, uU, uU, uU, uU, uU, uU, uU, uU, uU, uU, uU, uU, uU, uU, uU, uU, uU, uU, uU, uU] [(.double d162), (.double d161), (.int (3 : Int32)), (.ref a148), (.int (2 : Int32)), (.ref a148), (.int (1 : Int32)), (.ref a148), (.int (0 : Int32)), (.ref a148)])) rfl (by rw [hml]; rfl) (argsL := [(.ref a148), (.int (0 : Int32)), (.ref a148), (.int (1 : Int32)), (.ref a148), (.int (2 : Int32)), (.ref a148), (.int (3 : Int32)), (.double d161), (.double d162)]) (rest := []) (lenOf pd_rmK1 rfl) rfl (by show 2 * 0 + _ ≤ _; exact Nat.le_of_eq rfl) (hb hby at_249) (fun _ _ => ⟨rfl, e160, (by decide : 5 + 0 ≤ _), (by decide : 8 + 0 ≤ _)⟩)
    dsimp only [Pt.U, Pt.locs, Pt.cells, Pt.slots] at X163 l163 y163 z163 st163 hQ163
    subst l163 y163 z163
    obtain ⟨ro0_0z, ro0_1z, ro0_2z, ro0_3z, rfl, Hro0_0z, Bjro0_0z, Hro0_1z, Bjro0_1z, Hro0_2z, Bjro0_2z, Hro0_3z, Bjro0_3z, AFo0z, KF163, N163, Z163⟩ := hQ163
    refine OwnGo.pre (fun t k => st163 t k) ?_
    show OwnGo _ _ _ _ (T163.setTop (mkF m 252 #[sJ p0, uS, sJ p1, uS, sJ p2, uS, sI p3, sI (1 : Int32), sI y0, sI y1, sI y2, sI y3, sI y4, sI y5, sR a148, sR a149, sR a150, sR a151, sR a152, sR a148, sR a148, sR a148, sR a148, sI (0 : Int32), sI (1 : Int32), sI (2 : Int32), sI (3 : Int32), uU, uU, uU, uU, uU, uU, uU, uU, uU, uU, uU, uU, uU, uU, uU, uU, uU, uU, uU, uU, uU, uU, uU, uU, uU, uU, uU, uU, uU, uU, uU, uU, uU, uU, uU, uU] []))
    have M163 := Fr.app N160 N163
    have A163_a149 := A160_a149.kp KF163 (ninS nea148_149.symm nin0)
    have A163_a150 := A160_a150.kp KF163 (ninS nea148_150.symm nin0)
    have A163_a151 := A160_a151.kp KF163 (ninS nea148_151.symm nin0)
    have A163_a152 := A160_a152.kp KF163 (ninS nea148_152.symm nin0)
    obtain ⟨jro0_0z, hjro0_0z⟩ : ∃ i : Int, i = (((jy0 + jy2) * (1 : Int)) + ((jy4 * ((jy1 + jy3) * (1 : Int))) + (jy5 * ((jy2 - jy0) * (1 : Int))))) := ⟨_, rfl⟩
    rw [← hjro0_0z] at Hro0_0z Bjro0_0z
    obtain ⟨jro0_1z, hjro0_1z⟩ : ∃ i : Int, i = (((jy1 - jy3) * (1 : Int)) + ((jy4 * ((jy2 - jy0) * (1 : Int))) - (jy5 * ((jy1 + jy3) * (1 : Int))))) := ⟨_, rfl⟩
    rw [← hjro0_1z] at Hro0_1z Bjro0_1z
    obtain ⟨jro0_2z, hjro0_2z⟩ : ∃ i : Int, i = (((jy0 + jy2) * (1 : Int)) - ((jy4 * ((jy1 + jy3) * (1 : Int))) + (jy5 * ((jy2 - jy0) * (1 : Int))))) := ⟨_, rfl⟩
    rw [← hjro0_2z] at Hro0_2z Bjro0_2z
    obtain ⟨jro0_3z, hjro0_3z⟩ : ∃ i : Int, i = (((jy4 * ((jy2 - jy0) * (1 : Int))) - (jy5 * ((jy1 + jy3) * (1 : Int)))) - ((jy1 - jy3) * (1 : Int))) := ⟨_, rfl⟩
    rw [← hjro0_3z] at Hro0_3z Bjro0_3z
    refine OwnGo.pre (fun t k => XS.aload X163.here hx rfl (hb hby at_252) rfl rfl (XS.iload X163.here hx rfl (hb hby at_254) rfl (own_daL X163 hx hZ rfl AFo0z (j := (0 : Int32)) (by decide) (i := 0) (by decide) (x := ro0_0z) rfl (g := (mkF m 256 #[sJ p0, uS, sJ p1, uS, sJ p2, uS, sI p3, sI (1 : Int32), sI y0, sI y1, sI y2, sI y3, sI y4, sI y5, sR a148, sR a149, sR a150, sR a151, sR a152, sR a148, sR a148, sR a148, sR a148, sI (0 : Int32), sI (1 : Int32), sI (2 : Int32), sI (3 : Int32), uU, uU, uU, uU, uU, uU, uU, uU, uU, uU, uU, uU, uU, uU, uU, uU, uU, uU, uU, uU, uU, uU, uU, uU, uU, uU, uU, uU, uU, uU, uU, uU, uU, uU, uU, uU] [(.int (0 : Int32)), (.ref a148)])) rfl (rest := []) rfl (hb hby at_256) (XS.dstore X163.here hx rfl (hb hby at_257) rfl (l' := #[sJ p0, uS, sJ p1, uS, sJ p2, uS, sI p3, sI (1 : Int32), sI y0, sI y1, sI y2, sI y3, sI y4, sI y5, sR a148, sR a149, sR a150, sR a151, sR a152, sR a148, sR a148, sR a148, sR a148, sI (0 : Int32), sI (1 : Int32), sI (2 : Int32), sI (3 : Int32), sD ro0_0z, uS, uU, uU, uU, uU, uU, uU, uU, uU, uU, uU, uU, uU, uU, uU, uU, uU, uU, uU, uU, uU, uU, uU, uU, uU, uU, uU, uU, uU, uU, uU, uU, uU, uU, uU]) rfl (XS.aload X163.here hx rfl (hb hby at_259) rfl rfl (XS.iload X163.here hx rfl (hb hby at_261) rfl (own_daL X163 hx hZ rfl AFo0z (j := (1 : Int32)) (by decide) (i := 1) (by decide) (x := ro0_1z) rfl (g := (mkF m 263 #[sJ p0, uS, sJ p1, uS, sJ p2, uS, sI p3, sI (1 : Int32), sI y0, sI y1, sI y2, sI y3, sI y4, sI y5, sR a148, sR a149, sR a150, sR a151, sR a152, sR a148, sR a148, sR a148, sR a148, sI (0 : Int32), sI (1 : Int32), sI (2 : Int32), sI (3 : Int32), sD ro0_0z, uS, uU, uU, uU, uU, uU, uU, uU, uU, uU, uU, uU, uU, uU, uU, uU, uU, uU, uU, uU, uU, uU, uU, uU, uU, uU, uU, uU, uU, uU, uU, uU, uU, uU, uU] [(.int (1 : Int32)), (.ref a148)])) rfl (rest := []) rfl (hb hby at_263) (XS.dstore X163.here hx rfl (hb hby at_264) rfl (l' := #[sJ p0, uS, sJ p1, uS, sJ p2, uS, sI p3, sI (1 : Int32), sI y0, sI y1, sI y2, sI y3, sI y4, sI y5, sR a148, sR a149, sR a150, sR a151, sR a152, sR a148, sR a148, sR a148, sR a148, sI (0 : Int32), sI (1 : Int32), sI (2 : Int32), sI (3 : Int32), sD ro0_0z, uS, sD ro0_1z, uS, uU, uU, uU, uU, uU, uU, uU, uU, uU, uU, uU, uU, uU, uU, uU, uU, uU, uU, uU, uU, uU, uU, uU, uU, uU, uU, uU, uU, uU, uU, uU, uU]) rfl k)))))))) ?_
    show OwnGo _ _ _ _ (T163.setTop (mkF m 266 #[sJ p0, uS, sJ p1, uS, sJ p2, uS, sI p3, sI (1 : Int32), sI y0, sI y1, sI y2, sI y3, sI y4, sI y5, sR a148, sR a149, sR a150, sR a151, sR a152, sR a148, sR a148, sR a148, sR a148, sI (0 : Int32), sI (1 : Int32), sI (2 : Int32), sI (3 : Int32), sD ro0_0z, uS, sD ro0_1z, uS, uU, uU, uU, uU, uU, uU, uU, uU, uU, uU, uU, uU, uU, uU, uU, uU, uU, uU, uU, uU, uU, uU, uU, uU, uU, uU, uU, uU, uU, uU, uU, uU] []))
    refine OwnGo.pre (fun t k => XS.aload X163.here hx rfl (hb hby at_266) rfl rfl (XS.iload X163.here hx rfl (hb hby at_268) rfl (own_daL X163 hx hZ rfl AFo0z (j := (2 : Int32)) (by decide) (i := 2) (by decide) (x := ro0_2z) rfl (g := (mkF m 270 #[sJ p0, uS, sJ p1, uS, sJ p2, uS, sI p3, sI (1 : Int32), sI y0, sI y1, sI y2, sI y3, sI y4, sI y5, sR a148, sR a149, sR a150, sR a151, sR a152, sR a148, sR a148, sR a148, sR a148, sI (0 : Int32), sI (1 : Int32), sI (2 : Int32), sI (3 : Int32), sD ro0_0z, uS, sD ro0_1z, uS, uU, uU, uU, uU, uU, uU, uU, uU, uU, uU, uU, uU, uU, uU, uU, uU, uU, uU, uU, uU, uU, uU, uU, uU, uU, uU, uU, uU, uU, uU, uU, uU] [(.int (2 : Int32)), (.ref a148)])) rfl (rest := []) rfl (hb hby at_270) (XS.dstore X163.here hx rfl (hb hby at_271) rfl (l' := #[sJ p0, uS, sJ p1, uS, sJ p2, uS, sI p3, sI (1 : Int32), sI y0, sI y1, sI y2, sI y3, sI y4, sI y5, sR a148, sR a149, sR a150, sR a151, sR a152, sR a148, sR a148, sR a148, sR a148, sI (0 : Int32), sI (1 : Int32), sI (2 : Int32), sI (3 : Int32), sD ro0_0z, uS, sD ro0_1z, uS, sD ro0_2z, uS, uU, uU, uU, uU, uU, uU, uU, uU, uU, uU, uU, uU, uU, uU, uU, uU, uU, uU, uU, uU, uU, uU, uU, uU, uU, uU, uU, uU, uU, uU]) rfl (XS.aload X163.here hx rfl (hb hby at_273) rfl rfl (XS.iload X163.here hx rfl (hb hby at_275) rfl (own_daL X163 hx hZ rfl AFo0z (j := (3 : Int32)) (by decide) (i := 3) (by decide) (x := ro0_3z) rfl (g := (mkF m 277 #[sJ p0, uS, sJ p1, uS, sJ p2, uS, sI p3, sI (1 : Int32), sI y0, sI y1, sI y2, sI y3, sI y4, sI y5, sR a148, sR a149, sR a150, sR a151, sR a152, sR a148, sR a148, sR a148, sR a148, sI (0 : Int32), sI (1 : Int32), sI (2 : Int32), sI (3 : Int32), sD ro0_0z, uS, sD ro0_1z, uS, sD ro0_2z, uS, uU, uU, uU, uU, uU, uU, uU, uU, uU, uU, uU, uU, uU, uU, uU, uU, uU, uU, uU, uU, uU, uU, uU, uU, uU, uU, uU, uU, uU, uU] [(.int (3 : Int32)), (.ref a148)])) rfl (rest := []) rfl (hb hby at_277) (XS.dstore X163.here hx rfl (hb hby at_278) rfl (l' := #[sJ p0, uS, sJ p1, uS, sJ p2, uS, sI p3, sI (1 : Int32), sI y0, sI y1, sI y2, sI y3, sI y4, sI y5, sR a148, sR a149, sR a150, sR a151, sR a152, sR a148, sR a148, sR a148, sR a148, sI (0 : Int32), sI (1 : Int32), sI (2 : Int32), sI (3 : Int32), sD ro0_0z, uS, sD ro0_1z, uS, sD ro0_2z, uS, sD ro0_3z, uS, uU, uU, uU, uU, uU, uU, uU, uU, uU, uU, uU, uU, uU, uU, uU, uU, uU, uU, uU, uU, uU, uU, uU, uU, uU, uU, uU, uU]) rfl k)))))))) ?_
    show OwnGo _ _ _ _ (T163.setTop (mkF m 280 #[sJ p0, uS, sJ p1, uS, sJ p2, uS, sI p3, sI (1 : Int32), sI y0, sI y1, sI y2, sI y3, sI y4, sI y5, sR a148, sR a149, sR a150, sR a151, sR a152, sR a148, sR a148, sR a148, sR a148, sI (0 : Int32), sI (1 : Int32), sI (2 : Int32), sI (3 : Int32), sD ro0_0z, uS, sD ro0_1z, uS, sD ro0_2z, uS, sD ro0_3z, uS, uU, uU, uU, uU, uU, uU, uU, uU, uU, uU, uU, uU, uU, uU, uU, uU, uU, uU, uU, uU, uU, uU, uU, uU, uU, uU, uU, uU] []))
    obtain ⟨v164, hv164⟩ : ∃ v, y0.toInt64 = v := ⟨_, rfl⟩
    have F164 : v164.toInt = jy0 := by rw [← hv164, Jvm.Kit.i64_of_i32, Fy0]
    obtain ⟨v165, hv165⟩ : ∃ v, y2.toInt64 = v := ⟨_, rfl⟩
    have F165 : v165.toInt = jy2 := by rw [← hv165, Jvm.Kit.i64_of_i32, Fy2]
    obtain ⟨v166, hv166⟩ : ∃ v, v164 + v165 = v := ⟨_, rfl⟩
    obtain ⟨j166, hj166⟩ : ∃ i : Int, i = jy0 + jy2 := ⟨_, rfl⟩
    have B166 : -2097152 ≤ j166 ∧ j166 ≤ 2097152 := by rw [hj166]; exact own_bd_add by0 by2 (by decide)
    have F166 : v166.toInt = j166 := own_lf_add hv166 F164 F165 by0 by2 (by decide) hj166
    obtain ⟨v167, hv167⟩ : ∃ v, y1.toInt64 = v := ⟨_, rfl⟩
    refine OwnGo.pre (fun t k => XS.iload X163.here hx rfl (hb hby at_280) rfl (own_i2l X163.here hx rfl (hb hby at_282) rfl hv164 (XS.iload X163.here hx rfl (hb hby at_283) rfl (own_i2l X163.here hx rfl (hb hby at_285) rfl hv165 (own_ladd X163.here hx rfl (hb hby at_286) rfl hv166 (XT.lstore X163.here hx rfl (hb hby at_287) rfl (l' := #[sJ p0, uS, sJ p1, uS, sJ p2, uS, sI p3, sI (1 : Int32), sI y0, sI y1, sI y2, sI y3, sI y4, sI y5, sR a148, sR a149, sR a150, sR a151, sR a152, sR a148, sR a148, sR a148, sR a148, sI (0 : Int32), sI (1 : Int32), sI (2 : Int32), sI (3 : Int32), sD ro0_0z, uS, sD ro0_1z, uS, sD ro0_2z, uS, sD ro0_3z, uS, sJ v166, uS, uU, uU, uU, uU, uU, uU, uU, uU, uU, uU, uU, uU, uU, uU, uU, uU, uU, uU, uU, uU, uU, uU, uU, uU, uU, uU]) rfl (XS.iload X163.here hx rfl (hb hby at_289) rfl (own_i2l X163.here hx rfl (hb hby at_291) rfl hv167 k)))))))) ?_
    show OwnGo _ _ _ _ (T163.setTop (mkF m 292 #[sJ p0, uS, sJ p1, uS, sJ p2, uS, sI p3, sI (1 : Int32), sI y0, sI y1, sI y2, sI y3, sI y4, sI y5, sR a148, sR a149, sR a150, sR a151, sR a152, sR a148, sR a148, sR a148, sR a148, sI (0 : Int32), sI (1 : Int32), sI (2 : Int32), sI (3 : Int32), sD ro0_0z, uS, sD ro0_1z, uS, sD ro0_2z, uS, sD ro0_3z, uS, sJ v166, uS, uU, uU, uU, uU, uU, uU, uU, uU, uU, uU, uU, uU, uU, uU, uU, uU, uU, uU, uU, uU, uU, uU, uU, uU, uU, uU] [(.long v167)]))
    have F167 : v167.toInt = jy1 := by rw [← hv167, Jvm.Kit.i64_of_i32, Fy1]
    obtain ⟨v168, hv168⟩ : ∃ v, y3.toInt64 = v := ⟨_, rfl⟩
    have F168 : v168.toInt = jy3 := by rw [← hv168, Jvm.Kit.i64_of_i32, Fy3]
    obtain ⟨v169, hv169⟩ : ∃ v, v167 - v168 = v := ⟨_, rfl⟩
    obtain ⟨j169, hj169⟩ : ∃ i : Int, i = jy1 - jy3 := ⟨_, rfl⟩
    have B169 : -2097152 ≤ j169 ∧ j169 ≤ 2097152 := by rw [hj169]; exact own_bd_sub by1 by3 (by decide)
    have F169 : v169.toInt = j169 := own_lf_sub hv169 F167 F168 by1 by3 (by decide) hj169
    obtain ⟨v170, hv170⟩ : ∃ v, y0.toInt64 = v := ⟨_, rfl⟩
    have F170 : v170.toInt = jy0 := by rw [← hv170, Jvm.Kit.i64_of_i32, Fy0]
    obtain ⟨v171, hv171⟩ : ∃ v, y2.toInt64 = v := ⟨_, rfl⟩
    refine OwnGo.pre (fun t k => XS.iload X163.here hx rfl (hb hby at_292) rfl (own_i2l X163.here hx rfl (hb hby at_294) rfl hv168 (own_lsub X163.here hx rfl (hb hby at_295) rfl hv169 (XT.lstore X163.here hx rfl (hb hby at_296) rfl (l' := #[sJ p0, uS, sJ p1, uS, sJ p2, uS, sI p3, sI (1 : Int32), sI y0, sI y1, sI y2, sI y3, sI y4, sI y5, sR a148, sR a149, sR a150, sR a151, sR a152, sR a148, sR a148, sR a148, sR a148, sI (0 : Int32), sI (1 : Int32), sI (2 : Int32), sI (3 : Int32), sD ro0_0z, uS, sD ro0_1z, uS, sD ro0_2z, uS, sD ro0_3z, uS, sJ v166, uS, sJ v169, uS, uU, uU, uU, uU, uU, uU, uU, uU, uU, uU, uU, uU, uU, uU, uU, uU, uU, uU, uU, uU, uU, uU, uU, uU]) rfl (XS.iload X163.here hx rfl (hb hby at_298) rfl (own_i2l X163.here hx rfl (hb hby at_300) rfl hv170 (XS.iload X163.here hx rfl (hb hby at_301) rfl (own_i2l X163.here hx rfl (hb hby at_303) rfl hv171 k)))))))) ?_
    show OwnGo _ _ _ _ (T163.setTop (mkF m 304 #[sJ p0, uS, sJ p1, uS, sJ p2, uS, sI p3, sI (1 : Int32), sI y0, sI y1, sI y2, sI y3, sI y4, sI y5, sR a148, sR a149, sR a150, sR a151, sR a152, sR a148, sR a148, sR a148, sR a148, sI (0 : Int32), sI (1 : Int32), sI (2 : Int32), sI (3 : Int32), sD ro0_0z, uS, sD ro0_1z, uS, sD ro0_2z, uS, sD ro0_3z, uS, sJ v166, uS, sJ v169, uS, uU, uU, uU, uU, uU, uU, uU, uU, uU, uU, uU, uU, uU, uU, uU, uU, uU, uU, uU, uU, uU, uU, uU, uU] [(.long v171), (.long v170)]))
    have F171 : v171.toInt = jy2 := by rw [← hv171, Jvm.Kit.i64_of_i32, Fy2]
    obtain ⟨v172, hv172⟩ : ∃ v, v170 - v171 = v := ⟨_, rfl⟩
    obtain ⟨j172, hj172⟩ : ∃ i : Int, i = jy0 - jy2 := ⟨_, rfl⟩
    have B172 : -2097152 ≤ j172 ∧ j172 ≤ 2097152 := by rw [hj172]; exact own_bd_sub by0 by2 (by decide)
    have F172 : v172.toInt = j172 := own_lf_sub hv172 F170 F171 by0 by2 (by decide) hj172
    obtain ⟨v173, hv173⟩ : ∃ v, y1.toInt64 = v := ⟨_, rfl⟩
    have F173 : v173.toInt = jy1 := by rw [← hv173, Jvm.Kit.i64_of_i32, Fy1]
    obtain ⟨v174, hv174⟩ : ∃ v, y3.toInt64 = v := ⟨_, rfl⟩
    have F174 : v174.toInt = jy3 := by rw [← hv174, Jvm.Kit.i64_of_i32, Fy3]
    obtain ⟨v175, hv175⟩ : ∃ v, v173 + v174 = v := ⟨_, rfl⟩
    obtain ⟨j175, hj175⟩ : ∃ i : Int, i = jy1 + jy3 := ⟨_, rfl⟩
    have B175 : -2097152 ≤ j175 ∧ j175 ≤ 2097152 := by rw [hj175]; exact own_bd_add by1 by3 (by decide)
    have F175 : v175.toInt = j175 := own_lf_add hv175 F173 F174 by1 by3 (by decide) hj175
    refine OwnGo.pre (fun t k => own_lsub X163.here hx rfl (hb hby at_304) rfl hv172 (XT.lstore X163.here hx rfl (hb hby at_305) rfl (l' := #[sJ p0, uS, sJ p1, uS, sJ p2, uS, sI p3, sI (1 : Int32), sI y0, sI y1, sI y2, sI y3, sI y4, sI y5, sR a148, sR a149, sR a150, sR a151, sR a152, sR a148, sR a148, sR a148, sR a148, sI (0 : Int32), sI (1 : Int32), sI (2 : Int32), sI (3 : Int32), sD ro0_0z, uS, sD ro0_1z, uS, sD ro0_2z, uS, sD ro0_3z, uS, sJ v166, uS, sJ v169, uS, sJ v172, uS, uU, uU, uU, uU, uU, uU, uU, uU, uU, uU, uU, uU, uU, uU, uU, uU, uU, uU, uU, uU, uU, uU]) rfl (XS.iload X163.here hx rfl (hb hby at_307) rfl (own_i2l X163.here hx rfl (hb hby at_309) rfl hv173 (XS.iload X163.here hx rfl (hb hby at_310) rfl (own_i2l X163.here hx rfl (hb hby at_312) rfl hv174 (own_ladd X163.here hx rfl (hb hby at_313) rfl hv175 (XT.lstore X163.here hx rfl (hb hby at_314) rfl (l' := #[sJ p0, uS, sJ p1, uS, sJ p2, uS, sI p3, sI (1 : Int32), sI y0, sI y1, sI y2, sI y3, sI y4, sI y5, sR a148, sR a149, sR a150, sR a151, sR a152, sR a148, sR a148, sR a148, sR a148, sI (0 : Int32), sI (1 : Int32), sI (2 : Int32), sI (3 : Int32), sD ro0_0z, uS, sD ro0_1z, uS, sD ro0_2z, uS, sD ro0_3z, uS, sJ v166, uS, sJ v169, uS, sJ v172, uS, sJ v175, uS, uU, uU, uU, uU, uU, uU, uU, uU, uU, uU, uU, uU, uU, uU, uU, uU, uU, uU, uU, uU]) rfl k)))))))) ?_
    show OwnGo _ _ _ _ (T163.setTop (mkF m 316 #[sJ p0, uS, sJ p1, uS, sJ p2, uS, sI p3, sI (1 : Int32), sI y0, sI y1, sI y2, sI y3, sI y4, sI y5, sR a148, sR a149, sR a150, sR a151, sR a152, sR a148, sR a148, sR a148, sR a148, sI (0 : Int32), sI (1 : Int32), sI (2 : Int32), sI (3 : Int32), sD ro0_0z, uS, sD ro0_1z, uS, sD ro0_2z, uS, sD ro0_3z, uS, sJ v166, uS, sJ v169, uS, sJ v172, uS, sJ v175, uS, uU, uU, uU, uU, uU, uU, uU, uU, uU, uU, uU, uU, uU, uU, uU, uU, uU, uU, uU, uU] []))
    obtain ⟨v176, hv176⟩ : ∃ v, -v172 = v := ⟨_, rfl⟩
    obtain ⟨j176, hj176⟩ : ∃ i : Int, i = -j172 := ⟨_, rfl⟩
    have B176 : -2097152 ≤ j176 ∧ j176 ≤ 2097152 := by rw [hj176]; exact own_bd_neg B172
    have F176 : v176.toInt = j176 := own_lf_neg hv176 F172 B172 (by decide) hj176
    obtain ⟨v177, hv177⟩ : ∃ v, y4.toInt64 = v := ⟨_, rfl⟩
    have F177 : v177.toInt = jy4 := by rw [← hv177, Jvm.Kit.i64_of_i32, Fy4]
    refine OwnGo.pre (fun t k => XT.lload X163.here hx rfl (hb hby at_316) rfl (XT.lstore X163.here hx rfl (hb hby at_318) rfl (l' := #[sJ p0, uS, sJ p1, uS, sJ p2, uS, sI p3, sI (1 : Int32), sI y0, sI y1, sI y2, sI y3, sI y4, sI y5, sR a148, sR a149, sR a150, sR a151, sR a152, sR a148, sR a148, sR a148, sR a148, sI (0 : Int32), sI (1 : Int32), sI (2 : Int32), sI (3 : Int32), sD ro0_0z, uS, sD ro0_1z, uS, sD ro0_2z, uS, sD ro0_3z, uS, sJ v166, uS, sJ v169, uS, sJ v172, uS, sJ v175, uS, sJ v175, uS, uU, uU, uU, uU, uU, uU, uU, uU, uU, uU, uU, uU, uU, uU, uU, uU, uU, uU]) rfl (XT.lload X163.here hx rfl (hb hby at_320) rfl (own_lneg X163.here hx rfl (hb hby at_322) rfl hv176 (XT.lstore X163.here hx rfl (hb hby at_323) rfl (l' := #[sJ p0, uS, sJ p1, uS, sJ p2, uS, sI p3, sI (1 : Int32), sI y0, sI y1, sI y2, sI y3, sI y4, sI y5, sR a148, sR a149, sR a150, sR a151, sR a152, sR a148, sR a148, sR a148, sR a148, sI (0 : Int32), sI (1 : Int32), sI (2 : Int32), sI (3 : Int32), sD ro0_0z, uS, sD ro0_1z, uS, sD ro0_2z, uS, sD ro0_3z, uS, sJ v166, uS, sJ v169, uS, sJ v172, uS, sJ v175, uS, sJ v175, uS, sJ v176, uS, uU, uU, uU, uU, uU, uU, uU, uU, uU, uU, uU, uU, uU, uU, uU, uU]) rfl (XS.iload X163.here hx rfl (hb hby at_325) rfl (own_i2l X163.here hx rfl (hb hby at_327) rfl hv177 (XT.lstore X163.here hx rfl (hb hby at_328) rfl (l' := #[sJ p0, uS, sJ p1, uS, sJ p2, uS, sI p3, sI (1 : Int32), sI y0, sI y1, sI y2, sI y3, sI y4, sI y5, sR a148, sR a149, sR a150, sR a151, sR a152, sR a148, sR a148, sR a148, sR a148, sI (0 : Int32), sI (1 : Int32), sI (2 : Int32), sI (3 : Int32), sD ro0_0z, uS, sD ro0_1z, uS, sD ro0_2z, uS, sD ro0_3z, uS, sJ v166, uS, sJ v169, uS, sJ v172, uS, sJ v175, uS, sJ v175, uS, sJ v176, uS, sJ v177, uS, uU, uU, uU, uU, uU, uU, uU, uU, uU, uU, uU, uU, uU, uU]) rfl k)))))))) ?_
    show OwnGo _ _ _ _ (T163.setTop (mkF m 330 #[sJ p0, uS, sJ p1, uS, sJ p2, uS, sI p3, sI (1 : Int32), sI y0, sI y1, sI y2, sI y3, sI y4, sI y5, sR a148, sR a149, sR a150, sR a151, sR a152, sR a148, sR a148, sR a148, sR a148, sI (0 : Int32), sI (1 : Int32), sI (2 : Int32), sI (3 : Int32), sD ro0_0z, uS, sD ro0_1z, uS, sD ro0_2z, uS, sD ro0_3z, uS, sJ v166, uS, sJ v169, uS, sJ v172, uS, sJ v175, uS, sJ v175, uS, sJ v176, uS, sJ v177, uS, uU, uU, uU, uU, uU, uU, uU, uU, uU, uU, uU, uU, uU, uU] []))
    obtain ⟨v178, hv178⟩ : ∃ v, y5.toInt64 = v := ⟨_, rfl⟩
    have F178 : v178.toInt = jy5 := by rw [← hv178, Jvm.Kit.i64_of_i32, Fy5]
    obtain ⟨v179, hv179⟩ : ∃ v, -v178 = v := ⟨_, rfl⟩
    obtain ⟨j179, hj179⟩ : ∃ i : Int, i = -jy5 := ⟨_, rfl⟩
    have B179 : -1048576 ≤ j179 ∧ j179 ≤ 1048576 := by rw [hj179]; exact own_bd_neg by5
    have F179 : v179.toInt = j179 := own_lf_neg hv179 F178 by5 (by decide) hj179
    refine OwnGo.pre (fun t k => XS.iload X163.here hx rfl (hb hby at_330) rfl (own_i2l X163.here hx rfl (hb hby at_332) rfl hv178 (own_lneg X163.here hx rfl (hb hby at_333) rfl hv179 (XT.lstore X163.here hx rfl (hb hby at_334) rfl (l' := #[sJ p0, uS, sJ p1, uS, sJ p2, uS, sI p3, sI (1 : Int32), sI y0, sI y1, sI y2, sI y3, sI y4, sI y5, sR a148, sR a149, sR a150, sR a151, sR a152, sR a148, sR a148, sR a148, sR a148, sI (0 : Int32), sI (1 : Int32), sI (2 : Int32), sI (3 : Int32), sD ro0_0z, uS, sD ro0_1z, uS, sD ro0_2z, uS, sD ro0_3z, uS, sJ v166, uS, sJ v169, uS, sJ v172, uS, sJ v175, uS, sJ v175, uS, sJ v176, uS, sJ v177, uS, sJ v179, uS, uU, uU, uU, uU, uU, uU, uU, uU, uU, uU, uU, uU]) rfl (XT.lload X163.here hx rfl (hb hby at_336) rfl (XT.lload X163.here hx rfl (hb hby at_338) rfl (XT.lload X163.here hx rfl (hb hby at_340) rfl (XT.lload X163.here hx rfl (hb hby at_342) rfl k)))))))) ?_
    show OwnGo _ _ _ _ (T163.setTop (mkF m 344 #[sJ p0, uS, sJ p1, uS, sJ p2, uS, sI p3, sI (1 : Int32), sI y0, sI y1, sI y2, sI y3, sI y4, sI y5, sR a148, sR a149, sR a150, sR a151, sR a152, sR a148, sR a148, sR a148, sR a148, sI (0 : Int32), sI (1 : Int32), sI (2 : Int32), sI (3 : Int32), sD ro0_0z, uS, sD ro0_1z, uS, sD ro0_2z, uS, sD ro0_3z, uS, sJ v166, uS, sJ v169, uS, sJ v172, uS, sJ v175, uS, sJ v175, uS, sJ v176, uS, sJ v177, uS, sJ v179, uS, uU, uU, uU, uU, uU, uU, uU, uU, uU, uU, uU, uU] [(.long v176), (.long v175), (.long v179), (.long v177)]))
    obtain ⟨_, _, ⟨T180, L180, k180, n180⟩, -, X180, ⟨Lc180, hQ180, l180, y180, z180⟩, st180⟩ := Jvm.LawKit.callS X163 hx (y := (⟨"com/example/isochron/isochron/dsp/FourierSeparatePinLaw", "mulRe", "(JJJJ)J"⟩ : MethodName)) hown (mvT hZ (hw _ (List.mem_of_getElem? (i := 10) rfl))) (mvT hZ (hw _ (List.mem_of_getElem? (i := 11) rfl))) (mvT hZ (hw _ (List.mem_of_getElem? (i := 2) rfl))) (mvT hZ (hw _ (List.mem_of_getElem? (i := 12) rfl))) (by decide) (backOf (W := 0) (rmRe l Z a0 hw [] v177 v179 v175 v176 jy4 j179 j175 j176 T163.heap n0 Z163 F177 (own_bd_le by4 (by decide)) F179 (own_bd_le B179 (by decide)) F175 (own_bd_le B175 (by decide)) F176 (own_bd_le B176 (by decide))) hZ (hw _ (List.mem_of_getElem? (i := 12) rfl)) (hw _ (List.mem_of_getElem? (i := 2) rfl)) (by decide) (by decide)) (g := (mkF m 344 #[sJ p0, uS, sJ p1, uS, sJ p2, uS, sI p3, sI (1 : Int32), sI y0, sI y1, sI y2, sI y3, sI y4, sI y5, sR a148, sR a149, sR a150, sR a151, sR a152, sR a148, sR a148, sR a148, sR a148, sI (0 : Int32), sI (1 : Int32), sI (2 : Int32), sI (3 : Int32), sD ro0_0z, uS, sD ro0_1z, uS, sD ro0_2z, uS, sD ro0_3z, uS, sJ v166, uS, sJ v169, uS, sJ v172, uS, sJ v175, uS, sJ v175, uS, sJ v176, uS, sJ v177, uS, sJ v179, uS, uU, uU, uU, uU, uU, uU, uU, uU, uU, uU, uU, uU] [(.long v176), (.long v175), (.long v179), (.long v177)])) rfl (by rw [hml]; rfl) (argsL := [(.long v177), (.long v179), (.long v175), (.long v176)]) (rest := []) (lenOf pd_rmRe rfl) rfl (by show 2 * 0 + _ ≤ _; exact Nat.le_of_eq rfl) (hb hby at_344) (fun _ _ => ⟨rfl, rfl, (by decide : 5 + 0 ≤ _), (by decide : 8 + 0 ≤ _)⟩)
    dsimp only [Pt.U, Pt.locs, Pt.cells, Pt.slots] at X180 l180 y180 z180 st180 hQ180
    subst l180 y180 z180
    obtain ⟨wr, rfl, Fwr, N180, e180⟩ := hQ180
    refine OwnGo.pre (fun t k => st180 t k) ?_
    show OwnGo _ _ _ _ (T180.setTop (mkF m 347 #[sJ p0, uS, sJ p1, uS, sJ p2, uS, sI p3, sI (1 : Int32), sI y0, sI y1, sI y2, sI y3, sI y4, sI y5, sR a148, sR a149, sR a150, sR a151, sR a152, sR a148, sR a148, sR a148, sR a148, sI (0 : Int32), sI (1 : Int32), sI (2 : Int32), sI (3 : Int32), sD ro0_0z, uS, sD ro0_1z, uS, sD ro0_2z, uS, sD ro0_3z, uS, sJ v166, uS, sJ v169, uS, sJ v172, uS, sJ v175, uS, sJ v175, uS, sJ v176, uS, sJ v177, uS, sJ v179, uS, uU, uU, uU, uU, uU, uU, uU, uU, uU, uU, uU, uU] [(.long wr)]))
    have M180 := Fr.app M163 N180
    obtain ⟨jwr, hjwr⟩ : ∃ i : Int, i = jy4 * j175 - j179 * j176 := ⟨_, rfl⟩
    rw [← hjwr] at Fwr
    have Bwr : -4398046511104 ≤ jwr ∧ jwr ≤ 4398046511104 := by rw [hjwr]; exact own_bd_sub (own_bd_mul by4 B175 rfl) (own_bd_mul B179 B176 rfl) (by decide)
    refine OwnGo.pre (fun t k => XT.lstore X180.here hx rfl (hb hby at_347) rfl (l' := #[sJ p0, uS, sJ p1, uS, sJ p2, uS, sI p3, sI (1 : Int32), sI y0, sI y1, sI y2, sI y3, sI y4, sI y5, sR a148, sR a149, sR a150, sR a151, sR a152, sR a148, sR a148, sR a148, sR a148, sI (0 : Int32), sI (1 : Int32), sI (2 : Int32), sI (3 : Int32), sD ro0_0z, uS, sD ro0_1z, uS, sD ro0_2z, uS, sD ro0_3z, uS, sJ v166, uS, sJ v169, uS, sJ v172, uS, sJ v175, uS, sJ v175, uS, sJ v176, uS, sJ v177, uS, sJ v179, uS, sJ wr, uS, uU, uU, uU, uU, uU, uU, uU, uU, uU, uU]) rfl (XT.lload X180.here hx rfl (hb hby at_349) rfl (XT.lload X180.here hx rfl (hb hby at_351) rfl (XT.lload X180.here hx rfl (hb hby at_353) rfl (XT.lload X180.here hx rfl (hb hby at_355) rfl k))))) ?_
    show OwnGo _ _ _ _ (T180.setTop (mkF m 357 #[sJ p0, uS, sJ p1, uS, sJ p2, uS, sI p3, sI (1 : Int32), sI y0, sI y1, sI y2, sI y3, sI y4, sI y5, sR a148, sR a149, sR a150, sR a151, sR a152, sR a148, sR a148, sR a148, sR a148, sI (0 : Int32), sI (1 : Int32), sI (2 : Int32), sI (3 : Int32), sD ro0_0z, uS, sD ro0_1z, uS, sD ro0_2z, uS, sD ro0_3z, uS, sJ v166, uS, sJ v169, uS, sJ v172, uS, sJ v175, uS, sJ v175, uS, sJ v176, uS, sJ v177, uS, sJ v179, uS, sJ wr, uS, uU, uU, uU, uU, uU, uU, uU, uU, uU, uU] [(.long v176), (.long v175), (.long v179), (.long v177)]))
    obtain ⟨_, _, ⟨T181, L181, k181, n181⟩, -, X181, ⟨Lc181, hQ181, l181, y181, z181⟩, st181⟩ := Jvm.LawKit.callS X180 hx (y := (⟨"com/example/isochron/isochron/dsp/FourierSeparatePinLaw", "mulIm", "(JJJJ)J"⟩ : MethodName)) hown (mvT hZ (hw _ (List.mem_of_getElem? (i := 13) rfl))) (mvT hZ (hw _ (List.mem_of_getElem? (i := 14) rfl))) (mvT hZ (hw _ (List.mem_of_getElem? (i := 2) rfl))) (mvT hZ (hw _ (List.mem_of_getElem? (i := 15) rfl))) (by decide) (backOf (W := 0) (rmIm l Z a0 hw [] v177 v179 v175 v176 jy4 j179 j175 j176 T163.heap n0 Z163 F177 (own_bd_le by4 (by decide)) F179 (own_bd_le B179 (by decide)) F175 (own_bd_le B175 (by decide)) F176 (own_bd_le B176 (by decide))) hZ (hw _ (List.mem_of_getElem? (i := 15) rfl)) (hw _ (List.mem_of_getElem? (i := 2) rfl)) (by decide) (by decide)) (g := (mkF m 357 #[sJ p0, uS, sJ p1, uS, sJ p2, uS, sI p3, sI (1 : Int32), sI y0, sI y1, sI y2, sI y3, sI y4, sI y5, sR a148, sR a149, sR a150, sR a151, sR a152, sR a148, sR a148, sR a148, sR a148, sI (0 : Int32), sI (1 : Int32), sI (2 : Int32), sI (3 : Int32), sD ro0_0z, uS, sD ro0_1z, uS, sD ro0_2z, uS, sD ro0_3z, uS, sJ v166, uS, sJ v169, uS, sJ v172, uS, sJ v175, uS, sJ v175, uS, sJ v176, uS, sJ v177, uS, sJ v179, uS, sJ wr, uS, uU, uU, uU, uU, uU, uU, uU, uU, uU, uU] [(.long v176), (.long v175), (.long v179), (.long v177)])) rfl (by rw [hml]; rfl) (argsL := [(.long v177), (.long v179), (.long v175), (.long v176)]) (rest := []) (lenOf pd_rmIm rfl) rfl (by show 2 * 0 + _ ≤ _; exact Nat.le_of_eq rfl) (hb hby at_357) (fun _ _ => ⟨rfl, e180, (by decide : 5 + 0 ≤ _), (by decide : 8 + 0 ≤ _)⟩)
    dsimp only [Pt.U, Pt.locs, Pt.cells, Pt.slots] at X181 l181 y181 z181 st181 hQ181
    subst l181 y181 z181
    obtain ⟨wi, rfl, Fwi, N181, e181⟩ := hQ181
    refine OwnGo.pre (fun t k => st181 t k) ?_
    show OwnGo _ _ _ _ (T181.setTop (mkF m 360 #[sJ p0, uS, sJ p1, uS, sJ p2, uS, sI p3, sI (1 : Int32), sI y0, sI y1, sI y2, sI y3, sI y4, sI y5, sR a148, sR a149, sR a150, sR a151, sR a152, sR a148, sR a148, sR a148, sR a148, sI (0 : Int32), sI (1 : Int32), sI (2 : Int32), sI (3 : Int32), sD ro0_0z, uS, sD ro0_1z, uS, sD ro0_2z, uS, sD ro0_3z, uS, sJ v166, uS, sJ v169, uS, sJ v172, uS, sJ v175, uS, sJ v175, uS, sJ v176, uS, sJ v177, uS, sJ v179, uS, sJ wr, uS, uU, uU, uU, uU, uU, uU, uU, uU, uU, uU] [(.long wi)]))
    have M181 := Fr.app M180 N181
    obtain ⟨jwi, hjwi⟩ : ∃ i : Int, i = jy4 * j176 + j179 * j175 := ⟨_, rfl⟩
    rw [← hjwi] at Fwi
    have Bwi : -4398046511104 ≤ jwi ∧ jwi ≤ 4398046511104 := by rw [hjwi]; exact own_bd_add (own_bd_mul by4 B176 rfl) (own_bd_mul B179 B175 rfl) (by decide)
    obtain ⟨v182, hv182⟩ : ∃ v, v166 + wr = v := ⟨_, rfl⟩
    obtain ⟨j182, hj182⟩ : ∃ i : Int, i = j166 + jwr := ⟨_, rfl⟩
    have B182 : -4398048608256 ≤ j182 ∧ j182 ≤ 4398048608256 := by rw [hj182]; exact own_bd_add B166 Bwr (by decide)
    have F182 : v182.toInt = j182 := own_lf_add hv182 F166 Fwr B166 Bwr (by decide) hj182
    obtain ⟨v183, hv183⟩ : ∃ v, v169 + wi = v := ⟨_, rfl⟩
    refine OwnGo.pre (fun t k => XT.lstore X181.here hx rfl (hb hby at_360) rfl (l' := #[sJ p0, uS, sJ p1, uS, sJ p2, uS, sI p3, sI (1 : Int32), sI y0, sI y1, sI y2, sI y3, sI y4, sI y5, sR a148, sR a149, sR a150, sR a151, sR a152, sR a148, sR a148, sR a148, sR a148, sI (0 : Int32), sI (1 : Int32), sI (2 : Int32), sI (3 : Int32), sD ro0_0z, uS, sD ro0_1z, uS, sD ro0_2z, uS, sD ro0_3z, uS, sJ v166, uS, sJ v169, uS, sJ v172, uS, sJ v175, uS, sJ v175, uS, sJ v176, uS, sJ v177, uS, sJ v179, uS, sJ wr, uS, sJ wi, uS, uU, uU, uU, uU, uU, uU, uU, uU]) rfl (XT.lload X181.here hx rfl (hb hby at_362) rfl (XT.lload X181.here hx rfl (hb hby at_364) rfl (own_ladd X181.here hx rfl (hb hby at_366) rfl hv182 (XT.lstore X181.here hx rfl (hb hby at_367) rfl (l' := #[sJ p0, uS, sJ p1, uS, sJ p2, uS, sI p3, sI (1 : Int32), sI y0, sI y1, sI y2, sI y3, sI y4, sI y5, sR a148, sR a149, sR a150, sR a151, sR a152, sR a148, sR a148, sR a148, sR a148, sI (0 : Int32), sI (1 : Int32), sI (2 : Int32), sI (3 : Int32), sD ro0_0z, uS, sD ro0_1z, uS, sD ro0_2z, uS, sD ro0_3z, uS, sJ v166, uS, sJ v169, uS, sJ v172, uS, sJ v175, uS, sJ v175, uS, sJ v176, uS, sJ v177, uS, sJ v179, uS, sJ wr, uS, sJ wi, uS, sJ v182, uS, uU, uU, uU, uU, uU, uU]) rfl (XT.lload X181.here hx rfl (hb hby at_369) rfl (XT.lload X181.here hx rfl (hb hby at_371) rfl (own_ladd X181.here hx rfl (hb hby at_373) rfl hv183 k)))))))) ?_
    show OwnGo _ _ _ _ (T181.setTop (mkF m 374 #[sJ p0, uS, sJ p1, uS, sJ p2, uS, sI p3, sI (1 : Int32), sI y0, sI y1, sI y2, sI y3, sI y4, sI y5, sR a148, sR a149, sR a150, sR a151, sR a152, sR a148, sR a148, sR a148, sR a148, sI (0 : Int32), sI (1 : Int32), sI (2 : Int32), sI (3 : Int32), sD ro0_0z, uS, sD ro0_1z, uS, sD ro0_2z, uS, sD ro0_3z, uS, sJ v166, uS, sJ v169, uS, sJ v172, uS, sJ v175, uS, sJ v175, uS, sJ v176, uS, sJ v177, uS, sJ v179, uS, sJ wr, uS, sJ wi, uS, sJ v182, uS, uU, uU, uU, uU, uU, uU] [(.long v183)]))
    obtain ⟨j183, hj183⟩ : ∃ i : Int, i = j169 + jwi := ⟨_, rfl⟩
    have B183 : -4398048608256 ≤ j183 ∧ j183 ≤ 4398048608256 := by rw [hj183]; exact own_bd_add B169 Bwi (by decide)
    have F183 : v183.toInt = j183 := own_lf_add hv183 F169 Fwi B169 Bwi (by decide) hj183
    obtain ⟨v184, hv184⟩ : ∃ v, v166 - wr = v := ⟨_, rfl⟩
    obtain ⟨j184, hj184⟩ : ∃ i : Int, i = j166 - jwr := ⟨_, rfl⟩
    have B184 : -4398048608256 ≤ j184 ∧ j184 ≤ 4398048608256 := by rw [hj184]; exact own_bd_sub B166 Bwr (by decide)
    have F184 : v184.toInt = j184 := own_lf_sub hv184 F166 Fwr B166 Bwr (by decide) hj184
    obtain ⟨v185, hv185⟩ : ∃ v, v169 - wi = v := ⟨_, rfl⟩
    refine OwnGo.pre (fun t k => XT.lstore X181.here hx rfl (hb hby at_374) rfl (l' := #[sJ p0, uS, sJ p1, uS, sJ p2, uS, sI p3, sI (1 : Int32), sI y0, sI y1, sI y2, sI y3, sI y4, sI y5, sR a148, sR a149, sR a150, sR a151, sR a152, sR a148, sR a148, sR a148, sR a148, sI (0 : Int32), sI (1 : Int32), sI (2 : Int32), sI (3 : Int32), sD ro0_0z, uS, sD ro0_1z, uS, sD ro0_2z, uS, sD ro0_3z, uS, sJ v166, uS, sJ v169, uS, sJ v172, uS, sJ v175, uS, sJ v175, uS, sJ v176, uS, sJ v177, uS, sJ v179, uS, sJ wr, uS, sJ wi, uS, sJ v182, uS, sJ v183, uS, uU, uU, uU, uU]) rfl (XT.lload X181.here hx rfl (hb hby at_376) rfl (XT.lload X181.here hx rfl (hb hby at_378) rfl (own_lsub X181.here hx rfl (hb hby at_380) rfl hv184 (XT.lstore X181.here hx rfl (hb hby at_381) rfl (l' := #[sJ p0, uS, sJ p1, uS, sJ p2, uS, sI p3, sI (1 : Int32), sI y0, sI y1, sI y2, sI y3, sI y4, sI y5, sR a148, sR a149, sR a150, sR a151, sR a152, sR a148, sR a148, sR a148, sR a148, sI (0 : Int32), sI (1 : Int32), sI (2 : Int32), sI (3 : Int32), sD ro0_0z, uS, sD ro0_1z, uS, sD ro0_2z, uS, sD ro0_3z, uS, sJ v166, uS, sJ v169, uS, sJ v172, uS, sJ v175, uS, sJ v175, uS, sJ v176, uS, sJ v177, uS, sJ v179, uS, sJ wr, uS, sJ wi, uS, sJ v182, uS, sJ v183, uS, sJ v184, uS, uU, uU]) rfl (XT.lload X181.here hx rfl (hb hby at_383) rfl (XT.lload X181.here hx rfl (hb hby at_385) rfl (own_lsub X181.here hx rfl (hb hby at_387) rfl hv185 k)))))))) ?_
    show OwnGo _ _ _ _ (T181.setTop (mkF m 388 #[sJ p0, uS, sJ p1, uS, sJ p2, uS, sI p3, sI (1 : Int32), sI y0, sI y1, sI y2, sI y3, sI y4, sI y5, sR a148, sR a149, sR a150, sR a151, sR a152, sR a148, sR a148, sR a148, sR a148, sI (0 : Int32), sI (1 : Int32), sI (2 : Int32), sI (3 : Int32), sD ro0_0z, uS, sD ro0_1z, uS, sD ro0_2z, uS, sD ro0_3z, uS, sJ v166, uS, sJ v169, uS, sJ v172, uS, sJ v175, uS, sJ v175, uS, sJ v176, uS, sJ v177, uS, sJ v179, uS, sJ wr, uS, sJ wi, uS, sJ v182, uS, sJ v183, uS, sJ v184, uS, uU, uU] [(.long v185)]))
    obtain ⟨j185, hj185⟩ : ∃ i : Int, i = j169 - jwi := ⟨_, rfl⟩
    have B185 : -4398048608256 ≤ j185 ∧ j185 ≤ 4398048608256 := by rw [hj185]; exact own_bd_sub B169 Bwi (by decide)
    have F185 : v185.toInt = j185 := own_lf_sub hv185 F169 Fwi B169 Bwi (by decide) hj185
    obtain ⟨v186, hv186⟩ : ∃ v, -v185 = v := ⟨_, rfl⟩
    obtain ⟨j186, hj186⟩ : ∃ i : Int, i = -j185 := ⟨_, rfl⟩
    have B186 : -4398048608256 ≤ j186 ∧ j186 ≤ 4398048608256 := by rw [hj186]; exact own_bd_neg B185
    have F186 : v186.toInt = j186 := own_lf_neg hv186 F185 B185 (by decide) hj186
    obtain ⟨j187, hj187⟩ : ∃ i : Int, i = (1 : Int) * jro0_0z := ⟨_, rfl⟩
    have B187 : -4398048608256 ≤ j187 ∧ j187 ≤ 4398048608256 := by rw [hj187]; exact own_bd_mul own_b1 Bjro0_0z (by decide)
    have Dq187 : OwnDS 0 j187 (FP.dmul (4611686018427387904 : UInt64) ro0_0z) := by rw [hj187]; have q := own_ds_mul (n := 53) own_two Hro0_0z (own_bd_nat (C := 4398048608256) (own_bd_mul own_b1 Bjro0_0z (by decide)) (by decide)); exact q
    obtain ⟨d187, hd187⟩ : ∃ v, FP.dmul (4611686018427387904 : UInt64) ro0_0z = v := ⟨_, rfl⟩
    refine OwnGo.pre (fun t k => own_lneg X181.here hx rfl (hb hby at_388) rfl hv186 (XT.lstore X181.here hx rfl (hb hby at_389) rfl (l' := #[sJ p0, uS, sJ p1, uS, sJ p2, uS, sI p3, sI (1 : Int32), sI y0, sI y1, sI y2, sI y3, sI y4, sI y5, sR a148, sR a149, sR a150, sR a151, sR a152, sR a148, sR a148, sR a148, sR a148, sI (0 : Int32), sI (1 : Int32), sI (2 : Int32), sI (3 : Int32), sD ro0_0z, uS, sD ro0_1z, uS, sD ro0_2z, uS, sD ro0_3z, uS, sJ v166, uS, sJ v169, uS, sJ v172, uS, sJ v175, uS, sJ v175, uS, sJ v176, uS, sJ v177, uS, sJ v179, uS, sJ wr, uS, sJ wi, uS, sJ v182, uS, sJ v183, uS, sJ v184, uS, sJ v186, uS]) rfl (XS.iload X181.here hx rfl (hb hby at_391) rfl (XS.iconst X181.here hx rfl (hb hby at_393) (XS.icmpYes X181.here hx rfl (pc0 := 394) (pc' := 463) rfl (hb hby at_394) rfl (by decide) (by decide) (by decide) (own_ldcD X181 hx hown (mvT hZ (hw _ (List.mem_of_getElem? (i := 16) rfl))) rfl (hb hby at_463) (XS.dload X181.here hx rfl (hb hby at_466) rfl (XS.dmulS X181.here hx rfl (hb hby at_468) rfl (own_nn Dq187) hd187 k)))))))) ?_
    show OwnGo _ _ _ _ (T181.setTop (mkF m 469 #[sJ p0, uS, sJ p1, uS, sJ p2, uS, sI p3, sI (1 : Int32), sI y0, sI y1, sI y2, sI y3, sI y4, sI y5, sR a148, sR a149, sR a150, sR a151, sR a152, sR a148, sR a148, sR a148, sR a148, sI (0 : Int32), sI (1 : Int32), sI (2 : Int32), sI (3 : Int32), sD ro0_0z, uS, sD ro0_1z, uS, sD ro0_2z, uS, sD ro0_3z, uS, sJ v166, uS, sJ v169, uS, sJ v172, uS, sJ v175, uS, sJ v175, uS, sJ v176, uS, sJ v177, uS, sJ v179, uS, sJ wr, uS, sJ wi, uS, sJ v182, uS, sJ v183, uS, sJ v184, uS, sJ v186, uS] [(.double d187)]))
    have D187 : OwnDS 0 j187 d187 := by rw [← hd187]; exact Dq187
    obtain ⟨d188, hd188⟩ : ∃ v, FP.l2d v182 = v := ⟨_, rfl⟩
    have D188 : OwnDS 0 j182 d188 := by rw [← hd188]; exact own_l2db F182 B182 (by decide)
    refine OwnGo.pre (fun t k => XT.lload X181.here hx rfl (hb hby at_469) rfl (XS.l2dS X181.here hx rfl (hb hby at_471) rfl hd188 (XS.dcmpS X181.here hx rfl (hb hby at_472) rfl rfl k))) ?_
    show OwnGo _ _ _ _ (T181.setTop (mkF m 473 #[sJ p0, uS, sJ p1, uS, sJ p2, uS, sI p3, sI (1 : Int32), sI y0, sI y1, sI y2, sI y3, sI y4, sI y5, sR a148, sR a149, sR a150, sR a151, sR a152, sR a148, sR a148, sR a148, sR a148, sI (0 : Int32), sI (1 : Int32), sI (2 : Int32), sI (3 : Int32), sD ro0_0z, uS, sD ro0_1z, uS, sD ro0_2z, uS, sD ro0_3z, uS, sJ v166, uS, sJ v169, uS, sJ v172, uS, sJ v175, uS, sJ v175, uS, sJ v176, uS, sJ v177, uS, sJ v179, uS, sJ wr, uS, sJ wi, uS, sJ v182, uS, sJ v183, uS, sJ v184, uS, sJ v186, uS] [(.int (cmpValue (FP.dcmp d187 d188) .l))]))
    have q473 : j187 = j182 := by simp only [hj187, hjro0_0z, hj182, hj166, hjwr, hj179, hj175, hj176, hj172]; exact own_eq0 jy0 jy2 jy4 jy1 jy3 jy5
    obtain ⟨j189, hj189⟩ : ∃ i : Int, i = (1 : Int) * jro0_1z := ⟨_, rfl⟩
    have B189 : -4398048608256 ≤ j189 ∧ j189 ≤ 4398048608256 := by rw [hj189]; exact own_bd_mul own_b1 Bjro0_1z (by decide)
    have Dq189 : OwnDS 0 j189 (FP.dmul (4611686018427387904 : UInt64) ro0_1z) := by rw [hj189]; have q := own_ds_mul (n := 53) own_two Hro0_1z (own_bd_nat (C := 4398048608256) (own_bd_mul own_b1 Bjro0_1z (by decide)) (by decide)); exact q
    obtain ⟨d189, hd189⟩ : ∃ v, FP.dmul (4611686018427387904 : UInt64) ro0_1z = v := ⟨_, rfl⟩
    have D189 : OwnDS 0 j189 d189 := by rw [← hd189]; exact Dq189
    obtain ⟨d190, hd190⟩ : ∃ v, FP.l2d v183 = v := ⟨_, rfl⟩
    have D190 : OwnDS 0 j183 d190 := by rw [← hd190]; exact own_l2db F183 B183 (by decide)
    refine OwnGo.pre (fun t k => XS.ifNo X181.here hx rfl (hb hby at_473) rfl ((own_brD .ne D187 D188 _).trans (decide_eq_false (fun q => q q473))) (own_ldcD X181 hx hown (mvT hZ (hw _ (List.mem_of_getElem? (i := 16) rfl))) rfl (hb hby at_476) (XS.dload X181.here hx rfl (hb hby at_479) rfl (XS.dmulS X181.here hx rfl (hb hby at_481) rfl (own_nn Dq189) hd189 (XT.lload X181.here hx rfl (hb hby at_482) rfl (XS.l2dS X181.here hx rfl (hb hby at_484) rfl hd190 (XS.dcmpS X181.here hx rfl (hb hby at_485) rfl rfl k))))))) ?_
    show OwnGo _ _ _ _ (T181.setTop (mkF m 486 #[sJ p0, uS, sJ p1, uS, sJ p2, uS, sI p3, sI (1 : Int32), sI y0, sI y1, sI y2, sI y3, sI y4, sI y5, sR a148, sR a149, sR a150, sR a151, sR a152, sR a148, sR a148, sR a148, sR a148, sI (0 : Int32), sI (1 : Int32), sI (2 : Int32), sI (3 : Int32), sD ro0_0z, uS, sD ro0_1z, uS, sD ro0_2z, uS, sD ro0_3z, uS, sJ v166, uS, sJ v169, uS, sJ v172, uS, sJ v175, uS, sJ v175, uS, sJ v176, uS, sJ v177, uS, sJ v179, uS, sJ wr, uS, sJ wi, uS, sJ v182, uS, sJ v183, uS, sJ v184, uS, sJ v186, uS] [(.int (cmpValue (FP.dcmp d189 d190) .l))]))
    have q486 : j189 = j183 := by simp only [hj189, hjro0_1z, hj183, hj169, hjwi, hj179, hj175, hj176, hj172]; exact own_eq1 jy1 jy3 jy4 jy2 jy0 jy5
    obtain ⟨j191, hj191⟩ : ∃ i : Int, i = (1 : Int) * jro0_2z := ⟨_, rfl⟩
    have B191 : -4398048608256 ≤ j191 ∧ j191 ≤ 4398048608256 := by rw [hj191]; exact own_bd_mul own_b1 Bjro0_2z (by decide)
    have Dq191 : OwnDS 0 j191 (FP.dmul (4611686018427387904 : UInt64) ro0_2z) := by rw [hj191]; have q := own_ds_mul (n := 53) own_two Hro0_2z (own_bd_nat (C := 4398048608256) (own_bd_mul own_b1 Bjro0_2z (by decide)) (by decide)); exact q
    obtain ⟨d191, hd191⟩ : ∃ v, FP.dmul (4611686018427387904 : UInt64) ro0_2z = v := ⟨_, rfl⟩
    have D191 : OwnDS 0 j191 d191 := by rw [← hd191]; exact Dq191
    obtain ⟨d192, hd192⟩ : ∃ v, FP.l2d v184 = v := ⟨_, rfl⟩
    have D192 : OwnDS 0 j184 d192 := by rw [← hd192]; exact own_l2db F184 B184 (by decide)
    refine OwnGo.pre (fun t k => XS.ifNo X181.here hx rfl (hb hby at_486) rfl ((own_brD .ne D189 D190 _).trans (decide_eq_false (fun q => q q486))) (own_ldcD X181 hx hown (mvT hZ (hw _ (List.mem_of_getElem? (i := 16) rfl))) rfl (hb hby at_489) (XS.dload X181.here hx rfl (hb hby at_492) rfl (XS.dmulS X181.here hx rfl (hb hby at_494) rfl (own_nn Dq191) hd191 (XT.lload X181.here hx rfl (hb hby at_495) rfl (XS.l2dS X181.here hx rfl (hb hby at_497) rfl hd192 (XS.dcmpS X181.here hx rfl (hb hby at_498) rfl rfl k))))))) ?_
    show OwnGo _ _ _ _ (T181.setTop (mkF m 499 #[sJ p0, uS, sJ p1, uS, sJ p2, uS, sI p3, sI (1 : Int32), sI y0, sI y1, sI y2, sI y3, sI y4, sI y5, sR a148, sR a149, sR a150, sR a151, sR a152, sR a148, sR a148, sR a148, sR a148, sI (0 : Int32), sI (1 : Int32), sI (2 : Int32), sI (3 : Int32), sD ro0_0z, uS, sD ro0_1z, uS, sD ro0_2z, uS, sD ro0_3z, uS, sJ v166, uS, sJ v169, uS, sJ v172, uS, sJ v175, uS, sJ v175, uS, sJ v176, uS, sJ v177, uS, sJ v179, uS, sJ wr, uS, sJ wi, uS, sJ v182, uS, sJ v183, uS, sJ v184, uS, sJ v186, uS] [(.int (cmpValue (FP.dcmp d191 d192) .l))]))
    have q499 : j191 = j184 := by simp only [hj191, hjro0_2z, hj184, hj166, hjwr, hj179, hj175, hj176, hj172]; exact own_eq2 jy0 jy2 jy4 jy1 jy3 jy5
    obtain ⟨j193, hj193⟩ : ∃ i : Int, i = (1 : Int) * jro0_3z := ⟨_, rfl⟩
    have B193 : -4398048608256 ≤ j193 ∧ j193 ≤ 4398048608256 := by rw [hj193]; exact own_bd_mul own_b1 Bjro0_3z (by decide)
    have Dq193 : OwnDS 0 j193 (FP.dmul (4611686018427387904 : UInt64) ro0_3z) := by rw [hj193]; have q := own_ds_mul (n := 53) own_two Hro0_3z (own_bd_nat (C := 4398048608256) (own_bd_mul own_b1 Bjro0_3z (by decide)) (by decide)); exact q
    obtain ⟨d193, hd193⟩ : ∃ v, FP.dmul (4611686018427387904 : UInt64) ro0_3z = v := ⟨_, rfl⟩
    have D193 : OwnDS 0 j193 d193 := by rw [← hd193]; exact Dq193
    obtain ⟨d194, hd194⟩ : ∃ v, FP.l2d v186 = v := ⟨_, rfl⟩
    have D194 : OwnDS 0 j186 d194 := by rw [← hd194]; exact own_l2db F186 B186 (by decide)
    refine OwnGo.pre (fun t k => XS.ifNo X181.here hx rfl (hb hby at_499) rfl ((own_brD .ne D191 D192 _).trans (decide_eq_false (fun q => q q499))) (own_ldcD X181 hx hown (mvT hZ (hw _ (List.mem_of_getElem? (i := 16) rfl))) rfl (hb hby at_502) (XS.dload X181.here hx rfl (hb hby at_505) rfl (XS.dmulS X181.here hx rfl (hb hby at_507) rfl (own_nn Dq193) hd193 (XT.lload X181.here hx rfl (hb hby at_508) rfl (XS.l2dS X181.here hx rfl (hb hby at_510) rfl hd194 (XS.dcmpS X181.here hx rfl (hb hby at_511) rfl rfl k))))))) ?_
    show OwnGo _ _ _ _ (T181.setTop (mkF m 512 #[sJ p0, uS, sJ p1, uS, sJ p2, uS, sI p3, sI (1 : Int32), sI y0, sI y1, sI y2, sI y3, sI y4, sI y5, sR a148, sR a149, sR a150, sR a151, sR a152, sR a148, sR a148, sR a148, sR a148, sI (0 : Int32), sI (1 : Int32), sI (2 : Int32), sI (3 : Int32), sD ro0_0z, uS, sD ro0_1z, uS, sD ro0_2z, uS, sD ro0_3z, uS, sJ v166, uS, sJ v169, uS, sJ v172, uS, sJ v175, uS, sJ v175, uS, sJ v176, uS, sJ v177, uS, sJ v179, uS, sJ wr, uS, sJ wi, uS, sJ v182, uS, sJ v183, uS, sJ v184, uS, sJ v186, uS] [(.int (cmpValue (FP.dcmp d193 d194) .l))]))
    have q512 : j193 = j186 := by simp only [hj193, hjro0_3z, hj186, hj185, hj169, hjwi, hj179, hj175, hj176, hj172]; exact own_eq3 jy4 jy2 jy0 jy5 jy1 jy3
    refine OwnGo.pre (fun t k => XS.ifNo X181.here hx rfl (hb hby at_512) rfl ((own_brD .ne D193 D194 _).trans (decide_eq_false (fun q => q q512))) (XS.iconst X181.here hx rfl (hb hby at_515) (XS.goto X181.here hx rfl (pc0 := 516) (pc' := 520) rfl (hb hby at_516) (by decide) (by decide) k))) ?_
    show OwnGo _ _ _ _ (T181.setTop (mkF m 520 #[sJ p0, uS, sJ p1, uS, sJ p2, uS, sI p3, sI (1 : Int32), sI y0, sI y1, sI y2, sI y3, sI y4, sI y5, sR a148, sR a149, sR a150, sR a151, sR a152, sR a148, sR a148, sR a148, sR a148, sI (0 : Int32), sI (1 : Int32), sI (2 : Int32), sI (3 : Int32), sD ro0_0z, uS, sD ro0_1z, uS, sD ro0_2z, uS, sD ro0_3z, uS, sJ v166, uS, sJ v169, uS, sJ v172, uS, sJ v175, uS, sJ v175, uS, sJ v176, uS, sJ v177, uS, sJ v179, uS, sJ wr, uS, sJ wi, uS, sJ v182, uS, sJ v183, uS, sJ v184, uS, sJ v186, uS] [(.int (1 : Int32))]))
    exact own_retZ X181 hx hk hrt (hb hby at_520) ⟨rfl, M181⟩ (by decide) (by decide)
  · skip
    show OwnGo _ _ _ _ (T100.setTop (mkF m 62 #[sJ p0, uS, sJ p1, uS, sJ p2, uS, sI p3, sI (2 : Int32), sI y0, sI y1, sI y2, sI y3, sI y4, sI y5, uU, uU, uU, uU, uU, uU, uU, uU, uU, uU, uU, uU, uU, uU, uU, uU, uU, uU, uU, uU, uU, uU, uU, uU, uU, uU, uU, uU, uU, uU, uU, uU, uU, uU, uU, uU, uU, uU, uU, uU, uU, uU, uU, uU, uU, uU, uU, uU, uU] [(.int (3 : Int32)), (.int (2 : Int32))]))
    refine OwnGo.pre (fun t k => XS.icmpYes X100.here hx rfl (pc0 := 62) (pc' := 73) rfl (hb hby at_62) rfl (by decide) (by decide) (by decide) (XS.iconst X100.here hx rfl (hb hby at_73) k)) ?_
    show OwnGo _ _ _ _ (T100.setTop (mkF m 74 #[sJ p0, uS, sJ p1, uS, sJ p2, uS, sI p3, sI (2 : Int32), sI y0, sI y1, sI y2, sI y3, sI y4, sI y5, uU, uU, uU, uU, uU, uU, uU, uU, uU, uU, uU, uU, uU, uU, uU, uU, uU, uU, uU, uU, uU, uU, uU, uU, uU, uU, uU, uU, uU, uU, uU, uU, uU, uU, uU, uU, uU, uU, uU, uU, uU, uU, uU, uU, uU, uU, uU, uU, uU] [(.int (4 : Int32))]))
    obtain ⟨T195, h195, X195, e195, E195, A195, st195⟩ := own_newD X100 hx hZ (hw _ (List.mem_of_getElem? (i := 4) rfl)) e100 (g := (mkF m 74 #[sJ p0, uS, sJ p1, uS, sJ p2, uS, sI p3, sI (2 : Int32), sI y0, sI y1, sI y2, sI y3, sI y4, sI y5, uU, uU, uU, uU, uU, uU, uU, uU, uU, uU, uU, uU, uU, uU, uU, uU, uU, uU, uU, uU, uU, uU, uU, uU, uU, uU, uU, uU, uU, uU, uU, uU, uU, uU, uU, uU, uU, uU, uU, uU, uU, uU, uU, uU, uU, uU, uU, uU, uU] [(.int (4 : Int32))])) rfl (hb hby at_74) rfl (by decide) (n := 4) (by decide) (by decide) (by decide) (by decide)
    obtain ⟨a195, g195⟩ : ∃ z, z = h0.size := ⟨_, rfl⟩
    rw [← g195] at A195 st195
    have G195 : n0 ≤ a195 := Nat.le_trans Z0 (Nat.le_of_eq g195.symm)
    have Z195 : n0 ≤ h195.size := Nat.le_trans Z0 E195.1
    have A195n : OwnDA Z h195 a195 [0, 0, 0, 0] := A195
    refine OwnGo.pre (fun t k => st195 t k) ?_
    show OwnGo _ _ _ _ (T195.setTop (mkF m 76 #[sJ p0, uS, sJ p1, uS, sJ p2, uS, sI p3, sI (2 : Int32), sI y0, sI y1, sI y2, sI y3, sI y4, sI y5, uU, uU, uU, uU, uU, uU, uU, uU, uU, uU, uU, uU, uU, uU, uU, uU, uU, uU, uU, uU, uU, uU, uU, uU, uU, uU, uU, uU, uU, uU, uU, uU, uU, uU, uU, uU, uU, uU, uU, uU, uU, uU, uU, uU, uU, uU, uU, uU, uU] [(.ref a195)]))
    refine OwnGo.pre (fun t k => XS.astore X195.here hx rfl (hb hby at_76) rfl rfl (l' := #[sJ p0, uS, sJ p1, uS, sJ p2, uS, sI p3, sI (2 : Int32), sI y0, sI y1, sI y2, sI y3, sI y4, sI y5, sR a195, uU, uU, uU, uU, uU, uU, uU, uU, uU, uU, uU, uU, uU, uU, uU, uU, uU, uU, uU, uU, uU, uU, uU, uU, uU, uU, uU, uU, uU, uU, uU, uU, uU, uU, uU, uU, uU, uU, uU, uU, uU, uU, uU, uU, uU, uU, uU, uU]) rfl (XS.iconst X195.here hx rfl (hb hby at_78) k)) ?_
    show OwnGo _ _ _ _ (T195.setTop (mkF m 79 #[sJ p0, uS, sJ p1, uS, sJ p2, uS, sI p3, sI (2 : Int32), sI y0, sI y1, sI y2, sI y3, sI y4, sI y5, sR a195, uU, uU, uU, uU, uU, uU, uU, uU, uU, uU, uU, uU, uU, uU, uU, uU, uU, uU, uU, uU, uU, uU, uU, uU, uU, uU, uU, uU, uU, uU, uU, uU, uU, uU, uU, uU, uU, uU, uU, uU, uU, uU, uU, uU, uU, uU, uU, uU] [(.int (1 : Int32))]))
    obtain ⟨T196, h196, X196, e196, E196, A196, st196⟩ := own_newD X195 hx hZ (hw _ (List.mem_of_getElem? (i := 4) rfl)) e195 (g := (mkF m 79 #[sJ p0, uS, sJ p1, uS, sJ p2, uS, sI p3, sI (2 : Int32), sI y0, sI y1, sI y2, sI y3, sI y4, sI y5, sR a195, uU, uU, uU, uU, uU, uU, uU, uU, uU, uU, uU, uU, uU, uU, uU, uU, uU, uU, uU, uU, uU, uU, uU, uU, uU, uU, uU, uU, uU, uU, uU, uU, uU, uU, uU, uU, uU, uU, uU, uU, uU, uU, uU, uU, uU, uU, uU, uU] [(.int (1 : Int32))])) rfl (hb hby at_79) rfl (by decide) (n := 1) (by decide) (by decide) (by decide) (by decide)
    obtain ⟨a196, g196⟩ : ∃ z, z = h195.size := ⟨_, rfl⟩
    rw [← g196] at A196 st196
    have G196 : n0 ≤ a196 := Nat.le_trans Z195 (Nat.le_of_eq g196.symm)
    have Z196 : n0 ≤ h196.size := Nat.le_trans Z195 E196.1
    have A196n : OwnDA Z h196 a196 [0] := A196
    have nea195_196 : a195 ≠ a196 := (Nat.ne_of_lt (Nat.lt_of_lt_of_le A195n.lt (Nat.le_of_eq g196.symm)))
    have A196_a195 := A195n.ex E196
    refine OwnGo.pre (fun t k => st196 t k) ?_
    show OwnGo _ _ _ _ (T196.setTop (mkF m 81 #[sJ p0, uS, sJ p1, uS, sJ p2, uS, sI p3, sI (2 : Int32), sI y0, sI y1, sI y2, sI y3, sI y4, sI y5, sR a195, uU, uU, uU, uU, uU, uU, uU, uU, uU, uU, uU, uU, uU, uU, uU, uU, uU, uU, uU, uU, uU, uU, uU, uU, uU, uU, uU, uU, uU, uU, uU, uU, uU, uU, uU, uU, uU, uU, uU, uU, uU, uU, uU, uU, uU, uU, uU, uU] [(.ref a196)]))
    refine OwnGo.pre (fun t k => XS.astore X196.here hx rfl (hb hby at_81) rfl rfl (l' := #[sJ p0, uS, sJ p1, uS, sJ p2, uS, sI p3, sI (2 : Int32), sI y0, sI y1, sI y2, sI y3, sI y4, sI y5, sR a195, sR a196, uU, uU, uU, uU, uU, uU, uU, uU, uU, uU, uU, uU, uU, uU, uU, uU, uU, uU, uU, uU, uU, uU, uU, uU, uU, uU, uU, uU, uU, uU, uU, uU, uU, uU, uU, uU, uU, uU, uU, uU, uU, uU, uU, uU, uU, uU, uU]) rfl (XS.iconst X196.here hx rfl (hb hby at_83) k)) ?_
    show OwnGo _ _ _ _ (T196.setTop (mkF m 84 #[sJ p0, uS, sJ p1, uS, sJ p2, uS, sI p3, sI (2 : Int32), sI y0, sI y1, sI y2, sI y3, sI y4, sI y5, sR a195, sR a196, uU, uU, uU, uU, uU, uU, uU, uU, uU, uU, uU, uU, uU, uU, uU, uU, uU, uU, uU, uU, uU, uU, uU, uU, uU, uU, uU, uU, uU, uU, uU, uU, uU, uU, uU, uU, uU, uU, uU, uU, uU, uU, uU, uU, uU, uU, uU] [(.int (1 : Int32))]))
    obtain ⟨T197, h197, X197, e197, E197, A197, st197⟩ := own_newD X196 hx hZ (hw _ (List.mem_of_getElem? (i := 4) rfl)) e196 (g := (mkF m 84 #[sJ p0, uS, sJ p1, uS, sJ p2, uS, sI p3, sI (2 : Int32), sI y0, sI y1, sI y2, sI y3, sI y4, sI y5, sR a195, sR a196, uU, uU, uU, uU, uU, uU, uU, uU, uU, uU, uU, uU, uU, uU, uU, uU, uU, uU, uU, uU, uU, uU, uU, uU, uU, uU, uU, uU, uU, uU, uU, uU, uU, uU, uU, uU, uU, uU, uU, uU, uU, uU, uU, uU, uU, uU, uU] [(.int (1 : Int32))])) rfl (hb hby at_84) rfl (by decide) (n := 1) (by decide) (by decide) (by decide) (by decide)
    obtain ⟨a197, g197⟩ : ∃ z, z = h196.size := ⟨_, rfl⟩
    rw [← g197] at A197 st197
    have G197 : n0 ≤ a197 := Nat.le_trans Z196 (Nat.le_of_eq g197.symm)
    have Z197 : n0 ≤ h197.size := Nat.le_trans Z196 E197.1
    have A197n : OwnDA Z h197 a197 [0] := A197
    have nea195_197 : a195 ≠ a197 := (Nat.ne_of_lt (Nat.lt_of_lt_of_le A196_a195.lt (Nat.le_of_eq g197.symm)))
    have A197_a195 := A196_a195.ex E197
    have nea196_197 : a196 ≠ a197 := (Nat.ne_of_lt (Nat.lt_of_lt_of_le A196n.lt (Nat.le_of_eq g197.symm)))
    have A197_a196 := A196n.ex E197
    refine OwnGo.pre (fun t k => st197 t k) ?_
    show OwnGo _ _ _ _ (T197.setTop (mkF m 86 #[sJ p0, uS, sJ p1, uS, sJ p2, uS, sI p3, sI (2 : Int32), sI y0, sI y1, sI y2, sI y3, sI y4, sI y5, sR a195, sR a196, uU, uU, uU, uU, uU, uU, uU, uU, uU, uU, uU, uU, uU, uU, uU, uU, uU, uU, uU, uU, uU, uU, uU, uU, uU, uU, uU, uU, uU, uU, uU, uU, uU, uU, uU, uU, uU, uU, uU, uU, uU, uU, uU, uU, uU, uU, uU] [(.ref a197)]))
    refine OwnGo.pre (fun t k => XS.astore X197.here hx rfl (hb hby at_86) rfl rfl (l' := #[sJ p0, uS, sJ p1, uS, sJ p2, uS, sI p3, sI (2 : Int32), sI y0, sI y1, sI y2, sI y3, sI y4, sI y5, sR a195, sR a196, sR a197, uU, uU, uU, uU, uU, uU, uU, uU, uU, uU, uU, uU, uU, uU, uU, uU, uU, uU, uU, uU, uU, uU, uU, uU, uU, uU, uU, uU, uU, uU, uU, uU, uU, uU, uU, uU, uU, uU, uU, uU, uU, uU, uU, uU, uU, uU]) rfl (XS.iconst X197.here hx rfl (hb hby at_88) k)) ?_
    show OwnGo _ _ _ _ (T197.setTop (mkF m 89 #[sJ p0, uS, sJ p1, uS, sJ p2, uS, sI p3, sI (2 : Int32), sI y0, sI y1, sI y2, sI y3, sI y4, sI y5, sR a195, sR a196, sR a197, uU, uU, uU, uU, uU, uU, uU, uU, uU, uU, uU, uU, uU, uU, uU, uU, uU, uU, uU, uU, uU, uU, uU, uU, uU, uU, uU, uU, uU, uU, uU, uU, uU, uU, uU, uU, uU, uU, uU, uU, uU, uU, uU, uU, uU, uU] [(.int (1 : Int32))]))
    obtain ⟨T198, h198, X198, e198, E198, A198, st198⟩ := own_newD X197 hx hZ (hw _ (List.mem_of_getElem? (i := 4) rfl)) e197 (g := (mkF m 89 #[sJ p0, uS, sJ p1, uS, sJ p2, uS, sI p3, sI (2 : Int32), sI y0, sI y1, sI y2, sI y3, sI y4, sI y5, sR a195, sR a196, sR a197, uU, uU, uU, uU, uU, uU, uU, uU, uU, uU, uU, uU, uU, uU, uU, uU, uU, uU, uU, uU, uU, uU, uU, uU, uU, uU, uU, uU, uU, uU, uU, uU, uU, uU, uU, uU, uU, uU, uU, uU, uU, uU, uU, uU, uU, uU] [(.int (1 : Int32))])) rfl (hb hby at_89) rfl (by decide) (n := 1) (by decide) (by decide) (by decide) (by decide)
    obtain ⟨a198, g198⟩ : ∃ z, z = h197.size := ⟨_, rfl⟩
    rw [← g198] at A198 st198
    have G198 : n0 ≤ a198 := Nat.le_trans Z197 (Nat.le_of_eq g198.symm)
    have Z198 : n0 ≤ h198.size := Nat.le_trans Z197 E198.1
    have A198n : OwnDA Z h198 a198 [0] := A198
    have nea195_198 : a195 ≠ a198 := (Nat.ne_of_lt (Nat.lt_of_lt_of_le A197_a195.lt (Nat.le_of_eq g198.symm)))
    have A198_a195 := A197_a195.ex E198
    have nea196_198 : a196 ≠ a198 := (Nat.ne_of_lt (Nat.lt_of_lt_of_le A197_a196.lt (Nat.le_of_eq g198.symm)))
    have A198_a196 := A197_a196.ex E198
    have nea197_198 : a197 ≠ a198 := (Nat.ne_of_lt (Nat.lt_of_lt_of_le A197n.lt (Nat.le_of_eq g198.symm)))
    have A198_a197 := A197n.ex E198
    refine OwnGo.pre (fun t k => st198 t k) ?_
    show OwnGo _ _ _ _ (T198.setTop (mkF m 91 #[sJ p0, uS, sJ p1, uS, sJ p2, uS, sI p3, sI (2 : Int32), sI y0, sI y1, sI y2, sI y3, sI y4, sI y5, sR a195, sR a196, sR a197, uU, uU, uU, uU, uU, uU, uU, uU, uU, uU, uU, uU, uU, uU, uU, uU, uU, uU, uU, uU, uU, uU, uU, uU, uU, uU, uU, uU, uU, uU, uU, uU, uU, uU, uU, uU, uU, uU, uU, uU, uU, uU, uU, uU, uU, uU] [(.ref a198)]))
    refine OwnGo.pre (fun t k => XS.astore X198.here hx rfl (hb hby at_91) rfl rfl (l' := #[sJ p0, uS, sJ p1, uS, sJ p2, uS, sI p3, sI (2 : Int32), sI y0, sI y1, sI y2, sI y3, sI y4, sI y5, sR a195, sR a196, sR a197, sR a198, uU, uU, uU, uU, uU, uU, uU, uU, uU, uU, uU, uU, uU, uU, uU, uU, uU, uU, uU, uU, uU, uU, uU, uU, uU, uU, uU, uU, uU, uU, uU, uU, uU, uU, uU, uU, uU, uU, uU, uU, uU, uU, uU, uU, uU]) rfl (XS.iconst X198.here hx rfl (hb hby at_93) k)) ?_
    show OwnGo _ _ _ _ (T198.setTop (mkF m 94 #[sJ p0, uS, sJ p1, uS, sJ p2, uS, sI p3, sI (2 : Int32), sI y0, sI y1, sI y2, sI y3, sI y4, sI y5, sR a195, sR a196, sR a197, sR a198, uU, uU, uU, uU, uU, uU, uU, uU, uU, uU, uU, uU, uU, uU, uU, uU, uU, uU, uU, uU, uU, uU, uU, uU, uU, uU, uU, uU, uU, uU, uU, uU, uU, uU, uU, uU, uU, uU, uU, uU, uU, uU, uU, uU, uU] [(.int (1 : Int32))]))
    obtain ⟨T199, h199, X199, e199, E199, A199, st199⟩ := own_newD X198 hx hZ (hw _ (List.mem_of_getElem? (i := 4) rfl)) e198 (g := (mkF m 94 #[sJ p0, uS, sJ p1, uS, sJ p2, uS, sI p3, sI (2 : Int32), sI y0, sI y1, sI y2, sI y3, sI y4, sI y5, sR a195, sR a196, sR a197, sR a198, uU, uU, uU, uU, uU, uU, uU, uU, uU, uU, uU, uU, uU, uU, uU, uU, uU, uU, uU, uU, uU, uU, uU, uU, uU, uU, uU, uU, uU, uU, uU, uU, uU, uU, uU, uU, uU, uU, uU, uU, uU, uU, uU, uU, uU] [(.int (1 : Int32))])) rfl (hb hby at_94) rfl (by decide) (n := 1) (by decide) (by decide) (by decide) (by decide)
    obtain ⟨a199, g199⟩ : ∃ z, z = h198.size := ⟨_, rfl⟩
    rw [← g199] at A199 st199
    have G199 : n0 ≤ a199 := Nat.le_trans Z198 (Nat.le_of_eq g199.symm)
    have Z199 : n0 ≤ h199.size := Nat.le_trans Z198 E199.1
    have A199n : OwnDA Z h199 a199 [0] := A199
    have nea195_199 : a195 ≠ a199 := (Nat.ne_of_lt (Nat.lt_of_lt_of_le A198_a195.lt (Nat.le_of_eq g199.symm)))
    have A199_a195 := A198_a195.ex E199
    have nea196_199 : a196 ≠ a199 := (Nat.ne_of_lt (Nat.lt_of_lt_of_le A198_a196.lt (Nat.le_of_eq g199.symm)))
    have A199_a196 := A198_a196.ex E199
    have nea197_199 : a197 ≠ a199 := (Nat.ne_of_lt (Nat.lt_of_lt_of_le A198_a197.lt (Nat.le_of_eq g199.symm)))
    have A199_a197 := A198_a197.ex E199
    have nea198_199 : a198 ≠ a199 := (Nat.ne_of_lt (Nat.lt_of_lt_of_le A198n.lt (Nat.le_of_eq g199.symm)))
    have A199_a198 := A198n.ex E199
    refine OwnGo.pre (fun t k => st199 t k) ?_
    show OwnGo _ _ _ _ (T199.setTop (mkF m 96 #[sJ p0, uS, sJ p1, uS, sJ p2, uS, sI p3, sI (2 : Int32), sI y0, sI y1, sI y2, sI y3, sI y4, sI y5, sR a195, sR a196, sR a197, sR a198, uU, uU, uU, uU, uU, uU, uU, uU, uU, uU, uU, uU, uU, uU, uU, uU, uU, uU, uU, uU, uU, uU, uU, uU, uU, uU, uU, uU, uU, uU, uU, uU, uU, uU, uU, uU, uU, uU, uU, uU, uU, uU, uU, uU, uU] [(.ref a199)]))
    refine OwnGo.pre (fun t k => XS.astore X199.here hx rfl (hb hby at_96) rfl rfl (l' := #[sJ p0, uS, sJ p1, uS, sJ p2, uS, sI p3, sI (2 : Int32), sI y0, sI y1, sI y2, sI y3, sI y4, sI y5, sR a195, sR a196, sR a197, sR a198, sR a199, uU, uU, uU, uU, uU, uU, uU, uU, uU, uU, uU, uU, uU, uU, uU, uU, uU, uU, uU, uU, uU, uU, uU, uU, uU, uU, uU, uU, uU, uU, uU, uU, uU, uU, uU, uU, uU, uU, uU, uU, uU, uU, uU, uU]) rfl (XS.aload X199.here hx rfl (hb hby at_98) rfl rfl (XS.astore X199.here hx rfl (hb hby at_100) rfl rfl (l' := #[sJ p0, uS, sJ p1, uS, sJ p2, uS, sI p3, sI (2 : Int32), sI y0, sI y1, sI y2, sI y3, sI y4, sI y5, sR a195, sR a196, sR a197, sR a198, sR a199, sR a195, uU, uU, uU, uU, uU, uU, uU, uU, uU, uU, uU, uU, uU, uU, uU, uU, uU, uU, uU, uU, uU, uU, uU, uU, uU, uU, uU, uU, uU, uU, uU, uU, uU, uU, uU, uU, uU, uU, uU, uU, uU, uU, uU]) rfl (XS.aload X199.here hx rfl (hb hby at_102) rfl rfl (XS.astore X199.here hx rfl (hb hby at_104) rfl rfl (l' := #[sJ p0, uS, sJ p1, uS, sJ p2, uS, sI p3, sI (2 : Int32), sI y0, sI y1, sI y2, sI y3, sI y4, sI y5, sR a195, sR a196, sR a197, sR a198, sR a199, sR a195, sR a195, uU, uU, uU, uU, uU, uU, uU, uU, uU, uU, uU, uU, uU, uU, uU, uU, uU, uU, uU, uU, uU, uU, uU, uU, uU, uU, uU, uU, uU, uU, uU, uU, uU, uU, uU, uU, uU, uU, uU, uU, uU, uU]) rfl (XS.aload X199.here hx rfl (hb hby at_106) rfl rfl (XS.astore X199.here hx rfl (hb hby at_108) rfl rfl (l' := #[sJ p0, uS, sJ p1, uS, sJ p2, uS, sI p3, sI (2 : Int32), sI y0, sI y1, sI y2, sI y3, sI y4, sI y5, sR a195, sR a196, sR a197, sR a198, sR a199, sR a195, sR a195, sR a195, uU, uU, uU, uU, uU, uU, uU, uU, uU, uU, uU, uU, uU, uU, uU, uU, uU, uU, uU, uU, uU, uU, uU, uU, uU, uU, uU, uU, uU, uU, uU, uU, uU, uU, uU, uU, uU, uU, uU, uU, uU]) rfl (XS.aload X199.here hx rfl (hb hby at_110) rfl rfl k)))))))) ?_
    show OwnGo _ _ _ _ (T199.setTop (mkF m 112 #[sJ p0, uS, sJ p1, uS, sJ p2, uS, sI p3, sI (2 : Int32), sI y0, sI y1, sI y2, sI y3, sI y4, sI y5, sR a195, sR a196, sR a197, sR a198, sR a199, sR a195, sR a195, sR a195, uU, uU, uU, uU, uU, uU, uU, uU, uU, uU, uU, uU, uU, uU, uU, uU, uU, uU, uU, uU, uU, uU, uU, uU, uU, uU, uU, uU, uU, uU, uU, uU, uU, uU, uU, uU, uU, uU, uU, uU, uU] [(.ref a195)]))
    refine OwnGo.pre (fun t k => XS.astore X199.here hx rfl (hb hby at_112) rfl rfl (l' := #[sJ p0, uS, sJ p1, uS, sJ p2, uS, sI p3, sI (2 : Int32), sI y0, sI y1, sI y2, sI y3, sI y4, sI y5, sR a195, sR a196, sR a197, sR a198, sR a199, sR a195, sR a195, sR a195, sR a195, uU, uU, uU, uU, uU, uU, uU, uU, uU, uU, uU, uU, uU, uU, uU, uU, uU, uU, uU, uU, uU, uU, uU, uU, uU, uU, uU, uU, uU, uU, uU, uU, uU, uU, uU, uU, uU, uU, uU, uU]) rfl (XS.iconst X199.here hx rfl (hb hby at_114) (XS.istore X199.here hx rfl (hb hby at_115) rfl (l' := #[sJ p0, uS, sJ p1, uS, sJ p2, uS, sI p3, sI (2 : Int32), sI y0, sI y1, sI y2, sI y3, sI y4, sI y5, sR a195, sR a196, sR a197, sR a198, sR a199, sR a195, sR a195, sR a195, sR a195, sI (0 : Int32), uU, uU, uU, uU, uU, uU, uU, uU, uU, uU, uU, uU, uU, uU, uU, uU, uU, uU, uU, uU, uU, uU, uU, uU, uU, uU, uU, uU, uU, uU, uU, uU, uU, uU, uU, uU, uU, uU, uU]) rfl (XS.iconst X199.here hx rfl (hb hby at_117) (XS.istore X199.here hx rfl (hb hby at_118) rfl (l' := #[sJ p0, uS, sJ p1, uS, sJ p2, uS, sI p3, sI (2 : Int32), sI y0, sI y1, sI y2, sI y3, sI y4, sI y5, sR a195, sR a196, sR a197, sR a198, sR a199, sR a195, sR a195, sR a195, sR a195, sI (0 : Int32), sI (1 : Int32), uU, uU, uU, uU, uU, uU, uU, uU, uU, uU, uU, uU, uU, uU, uU, uU, uU, uU, uU, uU, uU, uU, uU, uU, uU, uU, uU, uU, uU, uU, uU, uU, uU, uU, uU, uU, uU, uU]) rfl (XS.iconst X199.here hx rfl (hb hby at_120) (XS.istore X199.here hx rfl (hb hby at_121) rfl (l' := #[sJ p0, uS, sJ p1, uS, sJ p2, uS, sI p3, sI (2 : Int32), sI y0, sI y1, sI y2, sI y3, sI y4, sI y5, sR a195, sR a196, sR a197, sR a198, sR a199, sR a195, sR a195, sR a195, sR a195, sI (0 : Int32), sI (1 : Int32), sI (0 : Int32), uU, uU, uU, uU, uU, uU, uU, uU, uU, uU, uU, uU, uU, uU, uU, uU, uU, uU, uU, uU, uU, uU, uU, uU, uU, uU, uU, uU, uU, uU, uU, uU, uU, uU, uU, uU, uU]) rfl (XS.iconst X199.here hx rfl (hb hby at_123) k)))))))) ?_
    show OwnGo _ _ _ _ (T199.setTop (mkF m 124 #[sJ p0, uS, sJ p1, uS, sJ p2, uS, sI p3, sI (2 : Int32), sI y0, sI y1, sI y2, sI y3, sI y4, sI y5, sR a195, sR a196, sR a197, sR a198, sR a199, sR a195, sR a195, sR a195, sR a195, sI (0 : Int32), sI (1 : Int32), sI (0 : Int32), uU, uU, uU, uU, uU, uU, uU, uU, uU, uU, uU, uU, uU, uU, uU, uU, uU, uU, uU, uU, uU, uU, uU, uU, uU, uU, uU, uU, uU, uU, uU, uU, uU, uU, uU, uU, uU] [(.int (1 : Int32))]))
    refine OwnGo.pre (fun t k => XS.istore X199.here hx rfl (hb hby at_124) rfl (l' := #[sJ p0, uS, sJ p1, uS, sJ p2, uS, sI p3, sI (2 : Int32), sI y0, sI y1, sI y2, sI y3, sI y4, sI y5, sR a195, sR a196, sR a197, sR a198, sR a199, sR a195, sR a195, sR a195, sR a195, sI (0 : Int32), sI (1 : Int32), sI (0 : Int32), sI (1 : Int32), uU, uU, uU, uU, uU, uU, uU, uU, uU, uU, uU, uU, uU, uU, uU, uU, uU, uU, uU, uU, uU, uU, uU, uU, uU, uU, uU, uU, uU, uU, uU, uU, uU, uU, uU, uU]) rfl (XS.iload X199.here hx rfl (hb hby at_126) rfl (XS.ifYes X199.here hx rfl (pc0 := 128) (pc' := 156) rfl (hb hby at_128) rfl (by decide) (by decide) (by decide) (XS.iload X199.here hx rfl (hb hby at_156) rfl (XS.iconst X199.here hx rfl (hb hby at_158) (XS.icmpYes X199.here hx rfl (pc0 := 159) (pc' := 177) rfl (hb hby at_159) rfl (by decide) (by decide) (by decide) (XS.iload X199.here hx rfl (hb hby at_177) rfl (XS.iconst X199.here hx rfl (hb hby at_179) k)))))))) ?_
    show OwnGo _ _ _ _ (T199.setTop (mkF m 180 #[sJ p0, uS, sJ p1, uS, sJ p2, uS, sI p3, sI (2 : Int32), sI y0, sI y1, sI y2, sI y3, sI y4, sI y5, sR a195, sR a196, sR a197, sR a198, sR a199, sR a195, sR a195, sR a195, sR a195, sI (0 : Int32), sI (1 : Int32), sI (0 : Int32), sI (1 : Int32), uU, uU, uU, uU, uU, uU, uU, uU, uU, uU, uU, uU, uU, uU, uU, uU, uU, uU, uU, uU, uU, uU, uU, uU, uU, uU, uU, uU, uU, uU, uU, uU, uU, uU, uU, uU] [(.int (2 : Int32)), (.int (2 : Int32))]))
    refine OwnGo.pre (fun t k => XS.icmpNo X199.here hx rfl (hb hby at_180) rfl (by decide) (XS.iconst X199.here hx rfl (hb hby at_183) (XS.istore X199.here hx rfl (hb hby at_184) rfl (l' := #[sJ p0, uS, sJ p1, uS, sJ p2, uS, sI p3, sI (2 : Int32), sI y0, sI y1, sI y2, sI y3, sI y4, sI y5, sR a195, sR a196, sR a197, sR a198, sR a199, sR a195, sR a195, sR a195, sR a195, sI (3 : Int32), sI (1 : Int32), sI (0 : Int32), sI (1 : Int32), uU, uU, uU, uU, uU, uU, uU, uU, uU, uU, uU, uU, uU, uU, uU, uU, uU, uU, uU, uU, uU, uU, uU, uU, uU, uU, uU, uU, uU, uU, uU, uU, uU, uU, uU, uU]) rfl (XS.iconst X199.here hx rfl (hb hby at_186) (XS.istore X199.here hx rfl (hb hby at_187) rfl (l' := #[sJ p0, uS, sJ p1, uS, sJ p2, uS, sI p3, sI (2 : Int32), sI y0, sI y1, sI y2, sI y3, sI y4, sI y5, sR a195, sR a196, sR a197, sR a198, sR a199, sR a195, sR a195, sR a195, sR a195, sI (3 : Int32), sI (0 : Int32), sI (0 : Int32), sI (1 : Int32), uU, uU, uU, uU, uU, uU, uU, uU, uU, uU, uU, uU, uU, uU, uU, uU, uU, uU, uU, uU, uU, uU, uU, uU, uU, uU, uU, uU, uU, uU, uU, uU, uU, uU, uU, uU]) rfl (XS.iconst X199.here hx rfl (hb hby at_189) (XS.istore X199.here hx rfl (hb hby at_190) rfl (l' := #[sJ p0, uS, sJ p1, uS, sJ p2, uS, sI p3, sI (2 : Int32), sI y0, sI y1, sI y2, sI y3, sI y4, sI y5, sR a195, sR a196, sR a197, sR a198, sR a199, sR a195, sR a195, sR a195, sR a195, sI (3 : Int32), sI (0 : Int32), sI (1 : Int32), sI (1 : Int32), uU, uU, uU, uU, uU, uU, uU, uU, uU, uU, uU, uU, uU, uU, uU, uU, uU, uU, uU, uU, uU, uU, uU, uU, uU, uU, uU, uU, uU, uU, uU, uU, uU, uU, uU, uU]) rfl (XS.iconst X199.here hx rfl (hb hby at_192) k)))))))) ?_
    show OwnGo _ _ _ _ (T199.setTop (mkF m 193 #[sJ p0, uS, sJ p1, uS, sJ p2, uS, sI p3, sI (2 : Int32), sI y0, sI y1, sI y2, sI y3, sI y4, sI y5, sR a195, sR a196, sR a197, sR a198, sR a199, sR a195, sR a195, sR a195, sR a195, sI (3 : Int32), sI (0 : Int32), sI (1 : Int32), sI (1 : Int32), uU, uU, uU, uU, uU, uU, uU, uU, uU, uU, uU, uU, uU, uU, uU, uU, uU, uU, uU, uU, uU, uU, uU, uU, uU, uU, uU, uU, uU, uU, uU, uU, uU, uU, uU, uU] [(.int (2 : Int32))]))
    obtain ⟨d200, hd200⟩ : ∃ v, FP.i2d y2 = v := ⟨_, rfl⟩
    have D200 : OwnDS 0 jy2 d200 := by rw [← hd200, ← Fy2]; exact own_i2d _
    refine OwnGo.pre (fun t k => XS.istore X199.here hx rfl (hb hby at_193) rfl (l' := #[sJ p0, uS, sJ p1, uS, sJ p2, uS, sI p3, sI (2 : Int32), sI y0, sI y1, sI y2, sI y3, sI y4, sI y5, sR a195, sR a196, sR a197, sR a198, sR a199, sR a195, sR a195, sR a195, sR a195, sI (3 : Int32), sI (0 : Int32), sI (1 : Int32), sI (2 : Int32), uU, uU, uU, uU, uU, uU, uU, uU, uU, uU, uU, uU, uU, uU, uU, uU, uU, uU, uU, uU, uU, uU, uU, uU, uU, uU, uU, uU, uU, uU, uU, uU, uU, uU, uU, uU]) rfl (XS.aload X199.here hx rfl (hb hby at_195) rfl rfl (XS.iload X199.here hx rfl (hb hby at_197) rfl (XS.iload X199.here hx rfl (hb hby at_199) rfl (XS.i2dS X199.here hx rfl (hb hby at_201) rfl hd200 k))))) ?_
    show OwnGo _ _ _ _ (T199.setTop (mkF m 202 #[sJ p0, uS, sJ p1, uS, sJ p2, uS, sI p3, sI (2 : Int32), sI y0, sI y1, sI y2, sI y3, sI y4, sI y5, sR a195, sR a196, sR a197, sR a198, sR a199, sR a195, sR a195, sR a195, sR a195, sI (3 : Int32), sI (0 : Int32), sI (1 : Int32), sI (2 : Int32), uU, uU, uU, uU, uU, uU, uU, uU, uU, uU, uU, uU, uU, uU, uU, uU, uU, uU, uU, uU, uU, uU, uU, uU, uU, uU, uU, uU, uU, uU, uU, uU, uU, uU, uU, uU] [(.double d200), (.int (1 : Int32)), (.ref a195)]))
    obtain ⟨T201, h201, X201, e201, W201, A201, st201⟩ := own_daS X199 hx hZ e199 A199_a195 (by decide) (i := 1) (by decide) (by show 1 < 4; decide) (g := (mkF m 202 #[sJ p0, uS, sJ p1, uS, sJ p2, uS, sI p3, sI (2 : Int32), sI y0, sI y1, sI y2, sI y3, sI y4, sI y5, sR a195, sR a196, sR a197, sR a198, sR a199, sR a195, sR a195, sR a195, sR a195, sI (3 : Int32), sI (0 : Int32), sI (1 : Int32), sI (2 : Int32), uU, uU, uU, uU, uU, uU, uU, uU, uU, uU, uU, uU, uU, uU, uU, uU, uU, uU, uU, uU, uU, uU, uU, uU, uU, uU, uU, uU, uU, uU, uU, uU, uU, uU, uU, uU] [(.double d200), (.int (1 : Int32)), (.ref a195)])) rfl rfl (hb hby at_202)
    have A201n : OwnDA Z h201 a195 [0, d200, 0, 0] := A201
    have A201_a196 := A199_a196.ot W201 nea195_196.symm
    have A201_a197 := A199_a197.ot W201 nea195_197.symm
    have A201_a198 := A199_a198.ot W201 nea195_198.symm
    have A201_a199 := A199n.ot W201 nea195_199.symm
    have N201 := Fr.snoc X201 M100 G195
    have Z201 : n0 ≤ h201.size := by rw [W201.size]; exact Z199
    refine OwnGo.pre (fun t k => st201 t k) ?_
    show OwnGo _ _ _ _ (T201.setTop (mkF m 203 #[sJ p0, uS, sJ p1, uS, sJ p2, uS, sI p3, sI (2 : Int32), sI y0, sI y1, sI y2, sI y3, sI y4, sI y5, sR a195, sR a196, sR a197, sR a198, sR a199, sR a195, sR a195, sR a195, sR a195, sI (3 : Int32), sI (0 : Int32), sI (1 : Int32), sI (2 : Int32), uU, uU, uU, uU, uU, uU, uU, uU, uU, uU, uU, uU, uU, uU, uU, uU, uU, uU, uU, uU, uU, uU, uU, uU, uU, uU, uU, uU, uU, uU, uU, uU, uU, uU, uU, uU] []))
    obtain ⟨d202, hd202⟩ : ∃ v, FP.i2d y3 = v := ⟨_, rfl⟩
    have D202 : OwnDS 0 jy3 d202 := by rw [← hd202, ← Fy3]; exact own_i2d _
    refine OwnGo.pre (fun t k => XS.aload X201.here hx rfl (hb hby at_203) rfl rfl (XS.iload X201.here hx rfl (hb hby at_205) rfl (XS.iload X201.here hx rfl (hb hby at_207) rfl (XS.i2dS X201.here hx rfl (hb hby at_209) rfl hd202 k)))) ?_
    show OwnGo _ _ _ _ (T201.setTop (mkF m 210 #[sJ p0, uS, sJ p1, uS, sJ p2, uS, sI p3, sI (2 : Int32), sI y0, sI y1, sI y2, sI y3, sI y4, sI y5, sR a195, sR a196, sR a197, sR a198, sR a199, sR a195, sR a195, sR a195, sR a195, sI (3 : Int32), sI (0 : Int32), sI (1 : Int32), sI (2 : Int32), uU, uU, uU, uU, uU, uU, uU, uU, uU, uU, uU, uU, uU, uU, uU, uU, uU, uU, uU, uU, uU, uU, uU, uU, uU, uU, uU, uU, uU, uU, uU, uU, uU, uU, uU, uU] [(.double d202), (.int (2 : Int32)), (.ref a195)]))
    obtain ⟨T203, h203, X203, e203, W203, A203, st203⟩ := own_daS X201 hx hZ e201 A201n (by decide) (i := 2) (by decide) (by show 2 < 4; decide) (g := (mkF m 210 #[sJ p0, uS, sJ p1, uS, sJ p2, uS, sI p3, sI (2 : Int32), sI y0, sI y1, sI y2, sI y3, sI y4, sI y5, sR a195, sR a196, sR a197, sR a198, sR a199, sR a195, sR a195, sR a195, sR a195, sI (3 : Int32), sI (0 : Int32), sI (1 : Int32), sI (2 : Int32), uU, uU, uU, uU, uU, uU, uU, uU, uU, uU, uU, uU, uU, uU, uU, uU, uU, uU, uU, uU, uU, uU, uU, uU, uU, uU, uU, uU, uU, uU, uU, uU, uU, uU, uU, uU] [(.double d202), (.int (2 : Int32)), (.ref a195)])) rfl rfl (hb hby at_210)
    have A203n : OwnDA Z h203 a195 [0, d200, d202, 0] := A203
    have A203_a196 := A201_a196.ot W203 nea195_196.symm
    have A203_a197 := A201_a197.ot W203 nea195_197.symm
    have A203_a198 := A201_a198.ot W203 nea195_198.symm
    have A203_a199 := A201_a199.ot W203 nea195_199.symm
    have N203 := Fr.snoc X203 N201 G195
    have Z203 : n0 ≤ h203.size := by rw [W203.size]; exact Z201
    refine OwnGo.pre (fun t k => st203 t k) ?_
    show OwnGo _ _ _ _ (T203.setTop (mkF m 211 #[sJ p0, uS, sJ p1, uS, sJ p2, uS, sI p3, sI (2 : Int32), sI y0, sI y1, sI y2, sI y3, sI y4, sI y5, sR a195, sR a196, sR a197, sR a198, sR a199, sR a195, sR a195, sR a195, sR a195, sI (3 : Int32), sI (0 : Int32), sI (1 : Int32), sI (2 : Int32), uU, uU, uU, uU, uU, uU, uU, uU, uU, uU, uU, uU, uU, uU, uU, uU, uU, uU, uU, uU, uU, uU, uU, uU, uU, uU, uU, uU, uU, uU, uU, uU, uU, uU, uU, uU] []))
    obtain ⟨d204, hd204⟩ : ∃ v, FP.i2d y0 = v := ⟨_, rfl⟩
    have D204 : OwnDS 0 jy0 d204 := by rw [← hd204, ← Fy0]; exact own_i2d _
    refine OwnGo.pre (fun t k => XS.aload X203.here hx rfl (hb hby at_211) rfl rfl (XS.iload X203.here hx rfl (hb hby at_213) rfl (XS.iload X203.here hx rfl (hb hby at_215) rfl (XS.i2dS X203.here hx rfl (hb hby at_217) rfl hd204 k)))) ?_
    show OwnGo _ _ _ _ (T203.setTop (mkF m 218 #[sJ p0, uS, sJ p1, uS, sJ p2, uS, sI p3, sI (2 : Int32), sI y0, sI y1, sI y2, sI y3, sI y4, sI y5, sR a195, sR a196, sR a197, sR a198, sR a199, sR a195, sR a195, sR a195, sR a195, sI (3 : Int32), sI (0 : Int32), sI (1 : Int32), sI (2 : Int32), uU, uU, uU, uU, uU, uU, uU, uU, uU, uU, uU, uU, uU, uU, uU, uU, uU, uU, uU, uU, uU, uU, uU, uU, uU, uU, uU, uU, uU, uU, uU, uU, uU, uU, uU, uU] [(.double d204), (.int (3 : Int32)), (.ref a195)]))
    obtain ⟨T205, h205, X205, e205, W205, A205, st205⟩ := own_daS X203 hx hZ e203 A203n (by decide) (i := 3) (by decide) (by show 3 < 4; decide) (g := (mkF m 218 #[sJ p0, uS, sJ p1, uS, sJ p2, uS, sI p3, sI (2 : Int32), sI y0, sI y1, sI y2, sI y3, sI y4, sI y5, sR a195, sR a196, sR a197, sR a198, sR a199, sR a195, sR a195, sR a195, sR a195, sI (3 : Int32), sI (0 : Int32), sI (1 : Int32), sI (2 : Int32), uU, uU, uU, uU, uU, uU, uU, uU, uU, uU, uU, uU, uU, uU, uU, uU, uU, uU, uU, uU, uU, uU, uU, uU, uU, uU, uU, uU, uU, uU, uU, uU, uU, uU, uU, uU] [(.double d204), (.int (3 : Int32)), (.ref a195)])) rfl rfl (hb hby at_218)
    have A205n : OwnDA Z h205 a195 [0, d200, d202, d204] := A205
    have A205_a196 := A203_a196.ot W205 nea195_196.symm
    have A205_a197 := A203_a197.ot W205 nea195_197.symm
    have A205_a198 := A203_a198.ot W205 nea195_198.symm
    have A205_a199 := A203_a199.ot W205 nea195_199.symm
    have N205 := Fr.snoc X205 N203 G195
    have Z205 : n0 ≤ h205.size := by rw [W205.size]; exact Z203
    refine OwnGo.pre (fun t k => st205 t k) ?_
    show OwnGo _ _ _ _ (T205.setTop (mkF m 219 #[sJ p0, uS, sJ p1, uS, sJ p2, uS, sI p3, sI (2 : Int32), sI y0, sI y1, sI y2, sI y3, sI y4, sI y5, sR a195, sR a196, sR a197, sR a198, sR a199, sR a195, sR a195, sR a195, sR a195, sI (3 : Int32), sI (0 : Int32), sI (1 : Int32), sI (2 : Int32), uU, uU, uU, uU, uU, uU, uU, uU, uU, uU, uU, uU, uU, uU, uU, uU, uU, uU, uU, uU, uU, uU, uU, uU, uU, uU, uU, uU, uU, uU, uU, uU, uU, uU, uU, uU] []))
    obtain ⟨d206, hd206⟩ : ∃ v, FP.i2d y1 = v := ⟨_, rfl⟩
    have D206 : OwnDS 0 jy1 d206 := by rw [← hd206, ← Fy1]; exact own_i2d _
    refine OwnGo.pre (fun t k => XS.aload X205.here hx rfl (hb hby at_219) rfl rfl (XS.iload X205.here hx rfl (hb hby at_221) rfl (XS.iload X205.here hx rfl (hb hby at_223) rfl (XS.i2dS X205.here hx rfl (hb hby at_225) rfl hd206 k)))) ?_
    show OwnGo _ _ _ _ (T205.setTop (mkF m 226 #[sJ p0, uS, sJ p1, uS, sJ p2, uS, sI p3, sI (2 : Int32), sI y0, sI y1, sI y2, sI y3, sI y4, sI y5, sR a195, sR a196, sR a197, sR a198, sR a199, sR a195, sR a195, sR a195, sR a195, sI (3 : Int32), sI (0 : Int32), sI (1 : Int32), sI (2 : Int32), uU, uU, uU, uU, uU, uU, uU, uU, uU, uU, uU, uU, uU, uU, uU, uU, uU, uU, uU, uU, uU, uU, uU, uU, uU, uU, uU, uU, uU, uU, uU, uU, uU, uU, uU, uU] [(.double d206), (.int (0 : Int32)), (.ref a195)]))
    obtain ⟨T207, h207, X207, e207, W207, A207, st207⟩ := own_daS X205 hx hZ e205 A205n (by decide) (i := 0) (by decide) (by show 0 < 4; decide) (g := (mkF m 226 #[sJ p0, uS, sJ p1, uS, sJ p2, uS, sI p3, sI (2 : Int32), sI y0, sI y1, sI y2, sI y3, sI y4, sI y5, sR a195, sR a196, sR a197, sR a198, sR a199, sR a195, sR a195, sR a195, sR a195, sI (3 : Int32), sI (0 : Int32), sI (1 : Int32), sI (2 : Int32), uU, uU, uU, uU, uU, uU, uU, uU, uU, uU, uU, uU, uU, uU, uU, uU, uU, uU, uU, uU, uU, uU, uU, uU, uU, uU, uU, uU, uU, uU, uU, uU, uU, uU, uU, uU] [(.double d206), (.int (0 : Int32)), (.ref a195)])) rfl rfl (hb hby at_226)
    have A207n : OwnDA Z h207 a195 [d206, d200, d202, d204] := A207
    have A207_a196 := A205_a196.ot W207 nea195_196.symm
    have A207_a197 := A205_a197.ot W207 nea195_197.symm
    have A207_a198 := A205_a198.ot W207 nea195_198.symm
    have A207_a199 := A205_a199.ot W207 nea195_199.symm
    have N207 := Fr.snoc X207 N205 G195
    have Z207 : n0 ≤ h207.size := by rw [W207.size]; exact Z205
    refine OwnGo.pre (fun t k => st207 t k) ?_
    show OwnGo _ _ _ _ (T207.setTop (mkF m 227 #[sJ p0, uS, sJ p1, uS, sJ p2, uS, sI p3, sI (2 : Int32), sI y0, sI y1, sI y2, sI y3, sI y4, sI y5, sR a195, sR a196, sR a197, sR a198, sR a199, sR a195, sR a195, sR a195, sR a195, sI (3 : Int32), sI (0 : Int32), sI (1 : Int32), sI (2 : Int32), uU, uU, uU, uU, uU, uU, uU, uU, uU, uU, uU, uU, uU, uU, uU, uU, uU, uU, uU, uU, uU, uU, uU, uU, uU, uU, uU, uU, uU, uU, uU, uU, uU, uU, uU, uU] []))
    refine OwnGo.pre (fun t k => XS.aload X207.here hx rfl (hb hby at_227) rfl rfl (XS.iload X207.here hx rfl (hb hby at_229) rfl (XS.aload X207.here hx rfl (hb hby at_231) rfl rfl (XS.iload X207.here hx rfl (hb hby at_233) rfl (XS.aload X207.here hx rfl (hb hby at_235) rfl rfl (XS.iload X207.here hx rfl (hb hby at_237) rfl (XS.aload X207.here hx rfl (hb hby at_239) rfl rfl (XS.iload X207.here hx rfl (hb hby at_241) rfl k)))))))) ?_
    show OwnGo _ _ _ _ (T207.setTop (mkF m 243 #[sJ p0, uS, sJ p1, uS, sJ p2, uS, sI p3, sI (2 : Int32), sI y0, sI y1, sI y2, sI y3, sI y4, sI y5, sR a195, sR a196, sR a197, sR a198, sR a199, sR a195, sR a195, sR a195, sR a195, sI (3 : Int32), sI (0 : Int32), sI (1 : Int32), sI (2 : Int32), uU, uU, uU, uU, uU, uU, uU, uU, uU, uU, uU, uU, uU, uU, uU, uU, uU, uU, uU, uU, uU, uU, uU, uU, uU, uU, uU, uU, uU, uU, uU, uU, uU, uU, uU, uU] [(.int (2 : Int32)), (.ref a195), (.int (1 : Int32)), (.ref a195), (.int (0 : Int32)), (.ref a195), (.int (3 : Int32)), (.ref a195)]))
    obtain ⟨d208, hd208⟩ : ∃ v, FP.i2d y4 = v := ⟨_, rfl⟩
    have D208 : OwnDS 0 jy4 d208 := by rw [← hd208, ← Fy4]; exact own_i2d _
    obtain ⟨d209, hd209⟩ : ∃ v, FP.i2d y5 = v := ⟨_, rfl⟩
    have D209 : OwnDS 0 jy5 d209 := by rw [← hd209, ← Fy5]; exact own_i2d _
    refine OwnGo.pre (fun t k => XS.iload X207.here hx rfl (hb hby at_243) rfl (XS.i2dS X207.here hx rfl (hb hby at_245) rfl hd208 (XS.iload X207.here hx rfl (hb hby at_246) rfl (XS.i2dS X207.here hx rfl (hb hby at_248) rfl hd209 k)))) ?_
    show OwnGo _ _ _ _ (T207.setTop (mkF m 249 #[sJ p0, uS, sJ p1, uS, sJ p2, uS, sI p3, sI (2 : Int32), sI y0, sI y1, sI y2, sI y3, sI y4, sI y5, sR a195, sR a196, sR a197, sR a198, sR a199, sR a195, sR a195, sR a195, sR a195, sI (3 : Int32), sI (0 : Int32), sI (1 : Int32), sI (2 : Int32), uU, uU, uU, uU, uU, uU, uU, uU, uU, uU, uU, uU, uU, uU, uU, uU, uU, uU, uU, uU, uU, uU, uU, uU, uU, uU, uU, uU, uU, uU, uU, uU, uU, uU, uU, uU] [(.double d209), (.double d208), (.int (2 : Int32)), (.ref a195), (.int (1 : Int32)), (.ref a195), (.int (0 : Int32)), (.ref a195), (.int (3 : Int32)), (.ref a195)]))
    obtain ⟨_, _, ⟨T210, L210, k210, n210⟩, -, X210, ⟨Lc210, hQ210, l210, y210, z210⟩, st210⟩ := Jvm.LawKit.callS X207 hx (y := (⟨"com/example/isochron/isochron/dsp/Fourier", "separate", "([DI[DI[DI[DIDD)V"⟩ : MethodName)) hown (mvT hZ (hw _ (List.mem_of_getElem? (i := 5) rfl))) (mvT hZ (hw _ (List.mem_of_getElem? (i := 6) rfl))) (mvT hZ (hw _ (List.mem_of_getElem? (i := 7) rfl))) (mvT hZ (hw _ (List.mem_of_getElem? (i := 8) rfl))) (by decide) (backOf (W := 0) (rmK2 l Z a0 hw [] a195 d206 d200 d202 d204 d208 d209 jy0 jy1 jy2 jy3 jy4 jy5 h207 n0 Z207 A207n G195 D204 by0 D206 by1 D200 by2 D202 by3 D208 by4 D209 by5) hZ (hw _ (List.mem_of_getElem? (i := 8) rfl)) (hw _ (List.mem_of_getElem? (i := 7) rfl)) (by decide) (by decide)) (g := (mkF m 249 #[sJ p0, uS, sJ p1, uS, sJ p2, uS, sI p3, sI (2 : Int32), sI y0, sI y1, sI y2, sI y3, sI y4, sI y5, sR a195, sR a196, sR a197, sR a198, sR a199, sR a195, sR a195, sR a195, sR a195, sI (3 : Int32), sI (0 : Int32), sI (1 : Int32), sI (2 : Int32), uU, uU, uU, uU, uU, uU, uU, uU, uU, uU, uU, uU, uU, uU, uU, uU, uU, uU, uU, uU, uU, uU, uU, uU, uU, uU, uU, uU, uU, uU, uU, uU, uU, uU, uU, uU] [(.double d209), (.double d208), (.int (2 : Int32)), (.ref a195), (.int (1 : Int32)), (.ref a195), (.int (0 : Int32)), (.ref a195), (.int (3 : Int32)), (.ref a195)])) rfl (by rw [hml]; rfl) (argsL := [(.ref a195), (.int (3 : Int32)), (.ref a195), (.int (0 : Int32)), (.ref a195), (.int (1 : Int32)), (.ref a195), (.int (2 : Int32)), (.double d208), (.double d209)]) (rest := []) (lenOf pd_rmK2 rfl) rfl (by show 2 * 0 + _ ≤ _; exact Nat.le_of_eq rfl) (hb hby at_249) (fun _ _ => ⟨rfl, e207, (by decide : 5 + 0 ≤ _), (by decide : 8 + 0 ≤ _)⟩)
    dsimp only [Pt.U, Pt.locs, Pt.cells, Pt.slots] at X210 l210 y210 z210 st210 hQ210
    subst l210 y210 z210
    obtain ⟨ro0_0z, ro0_1z, ro0_2z, ro0_3z, rfl, Hro0_0z, Bjro0_0z, Hro0_1z, Bjro0_1z, Hro0_2z, Bjro0_2z, Hro0_3z, Bjro0_3z, AFo0z, KF210, N210, Z210⟩ := hQ210
    refine OwnGo.pre (fun t k => st210 t k) ?_
    show OwnGo _ _ _ _ (T210.setTop (mkF m 252 #[sJ p0, uS, sJ p1, uS, sJ p2, uS, sI p3, sI (2 : Int32), sI y0, sI y1, sI y2, sI y3, sI y4, sI y5, sR a195, sR a196, sR a197, sR a198, sR a199, sR a195, sR a195, sR a195, sR a195, sI (3 : Int32), sI (0 : Int32), sI (1 : Int32), sI (2 : Int32), uU, uU, uU, uU, uU, uU, uU, uU, uU, uU, uU, uU, uU, uU, uU, uU, uU, uU, uU, uU, uU, uU, uU, uU, uU, uU, uU, uU, uU, uU, uU, uU, uU, uU, uU, uU] []))
    have M210 := Fr.app N207 N210
    have A210_a196 := A207_a196.kp KF210 (ninS nea195_196.symm nin0)
    have A210_a197 := A207_a197.kp KF210 (ninS nea195_197.symm nin0)
    have A210_a198 := A207_a198.kp KF210 (ninS nea195_198.symm nin0)
    have A210_a199 := A207_a199.kp KF210 (ninS nea195_199.symm nin0)
    obtain ⟨jro0_0z, hjro0_0z⟩ : ∃ i : Int, i = (((jy1 - jy3) * (1 : Int)) + ((jy4 * ((jy2 - jy0) * (1 : Int))) - (jy5 * ((jy1 + jy3) * (1 : Int))))) := ⟨_, rfl⟩
    rw [← hjro0_0z] at Hro0_0z Bjro0_0z
    obtain ⟨jro0_1z, hjro0_1z⟩ : ∃ i : Int, i = (((jy0 + jy2) * (1 : Int)) - ((jy4 * ((jy1 + jy3) * (1 : Int))) + (jy5 * ((jy2 - jy0) * (1 : Int))))) := ⟨_, rfl⟩
    rw [← hjro0_1z] at Hro0_1z Bjro0_1z
    obtain ⟨jro0_2z, hjro0_2z⟩ : ∃ i : Int, i = (((jy4 * ((jy2 - jy0) * (1 : Int))) - (jy5 * ((jy1 + jy3) * (1 : Int)))) - ((jy1 - jy3) * (1 : Int))) := ⟨_, rfl⟩
    rw [← hjro0_2z] at Hro0_2z Bjro0_2z
    obtain ⟨jro0_3z, hjro0_3z⟩ : ∃ i : Int, i = (((jy0 + jy2) * (1 : Int)) + ((jy4 * ((jy1 + jy3) * (1 : Int))) + (jy5 * ((jy2 - jy0) * (1 : Int))))) := ⟨_, rfl⟩
    rw [← hjro0_3z] at Hro0_3z Bjro0_3z
    refine OwnGo.pre (fun t k => XS.aload X210.here hx rfl (hb hby at_252) rfl rfl (XS.iload X210.here hx rfl (hb hby at_254) rfl (own_daL X210 hx hZ rfl AFo0z (j := (3 : Int32)) (by decide) (i := 3) (by decide) (x := ro0_3z) rfl (g := (mkF m 256 #[sJ p0, uS, sJ p1, uS, sJ p2, uS, sI p3, sI (2 : Int32), sI y0, sI y1, sI y2, sI y3, sI y4, sI y5, sR a195, sR a196, sR a197, sR a198, sR a199, sR a195, sR a195, sR a195, sR a195, sI (3 : Int32), sI (0 : Int32), sI (1 : Int32), sI (2 : Int32), uU, uU, uU, uU, uU, uU, uU, uU, uU, uU, uU, uU, uU, uU, uU, uU, uU, uU, uU, uU, uU, uU, uU, uU, uU, uU, uU, uU, uU, uU, uU, uU, uU, uU, uU, uU] [(.int (3 : Int32)), (.ref a195)])) rfl (rest := []) rfl (hb hby at_256) (XS.dstore X210.here hx rfl (hb hby at_257) rfl (l' := #[sJ p0, uS, sJ p1, uS, sJ p2, uS, sI p3, sI (2 : Int32), sI y0, sI y1, sI y2, sI y3, sI y4, sI y5, sR a195, sR a196, sR a197, sR a198, sR a199, sR a195, sR a195, sR a195, sR a195, sI (3 : Int32), sI (0 : Int32), sI (1 : Int32), sI (2 : Int32), sD ro0_3z, uS, uU, uU, uU, uU, uU, uU, uU, uU, uU, uU, uU, uU, uU, uU, uU, uU, uU, uU, uU, uU, uU, uU, uU, uU, uU, uU, uU, uU, uU, uU, uU, uU, uU, uU]) rfl (XS.aload X210.here hx rfl (hb hby at_259) rfl rfl (XS.iload X210.here hx rfl (hb hby at_261) rfl (own_daL X210 hx hZ rfl AFo0z (j := (0 : Int32)) (by decide) (i := 0) (by decide) (x := ro0_0z) rfl (g := (mkF m 263 #[sJ p0, uS, sJ p1, uS, sJ p2, uS, sI p3, sI (2 : Int32), sI y0, sI y1, sI y2, sI y3, sI y4, sI y5, sR a195, sR a196, sR a197, sR a198, sR a199, sR a195, sR a195, sR a195, sR a195, sI (3 : Int32), sI (0 : Int32), sI (1 : Int32), sI (2 : Int32), sD ro0_3z, uS, uU, uU, uU, uU, uU, uU, uU, uU, uU, uU, uU, uU, uU, uU, uU, uU, uU, uU, uU, uU, uU, uU, uU, uU, uU, uU, uU, uU, uU, uU, uU, uU, uU, uU] [(.int (0 : Int32)), (.ref a195)])) rfl (rest := []) rfl (hb hby at_263) (XS.dstore X210.here hx rfl (hb hby at_264) rfl (l' := #[sJ p0, uS, sJ p1, uS, sJ p2, uS, sI p3, sI (2 : Int32), sI y0, sI y1, sI y2, sI y3, sI y4, sI y5, sR a195, sR a196, sR a197, sR a198, sR a199, sR a195, sR a195, sR a195, sR a195, sI (3 : Int32), sI (0 : Int32), sI (1 : Int32), sI (2 : Int32), sD ro0_3z, uS, sD ro0_0z, uS, uU, uU, uU, uU, uU, uU, uU, uU, uU, uU, uU, uU, uU, uU, uU, uU, uU, uU, uU, uU, uU, uU, uU, uU, uU, uU, uU, uU, uU, uU, uU, uU]) rfl k)))))))) ?_
    show OwnGo _ _ _ _ (T210.setTop (mkF m 266 #[sJ p0, uS, sJ p1, uS, sJ p2, uS, sI p3, sI (2 : Int32), sI y0, sI y1, sI y2, sI y3, sI y4, sI y5, sR a195, sR a196, sR a197, sR a198, sR a199, sR a195, sR a195, sR a195, sR a195, sI (3 : Int32), sI (0 : Int32), sI (1 : Int32), sI (2 : Int32), sD ro0_3z, uS, sD ro0_0z, uS, uU, uU, uU, uU, uU, uU, uU, uU, uU, uU, uU, uU, uU, uU, uU, uU, uU, uU, uU, uU, uU, uU, uU, uU, uU, uU, uU, uU, uU, uU, uU, uU] []))
    refine OwnGo.pre (fun t k => XS.aload X210.here hx rfl (hb hby at_266) rfl rfl (XS.iload X210.here hx rfl (hb hby at_268) rfl (own_daL X210 hx hZ rfl AFo0z (j := (1 : Int32)) (by decide) (i := 1) (by decide) (x := ro0_1z) rfl (g := (mkF m 270 #[sJ p0, uS, sJ p1, uS, sJ p2, uS, sI p3, sI (2 : Int32), sI y0, sI y1, sI y2, sI y3, sI y4, sI y5, sR a195, sR a196, sR a197, sR a198, sR a199, sR a195, sR a195, sR a195, sR a195, sI (3 : Int32), sI (0 : Int32), sI (1 : Int32), sI (2 : Int32), sD ro0_3z, uS, sD ro0_0z, uS, uU, uU, uU, uU, uU, uU, uU, uU, uU, uU, uU, uU, uU, uU, uU, uU, uU, uU, uU, uU, uU, uU, uU, uU, uU, uU, uU, uU, uU, uU, uU, uU] [(.int (1 : Int32)), (.ref a195)])) rfl (rest := []) rfl (hb hby at_270) (XS.dstore X210.here hx rfl (hb hby at_271) rfl (l' := #[sJ p0, uS, sJ p1, uS, sJ p2, uS, sI p3, sI (2 : Int32), sI y0, sI y1, sI y2, sI y3, sI y4, sI y5, sR a195, sR a196, sR a197, sR a198, sR a199, sR a195, sR a195, sR a195, sR a195, sI (3 : Int32), sI (0 : Int32), sI (1 : Int32), sI (2 : Int32), sD ro0_3z, uS, sD ro0_0z, uS, sD ro0_1z, uS, uU, uU, uU, uU, uU, uU, uU, uU, uU, uU, uU, uU, uU, uU, uU, uU, uU, uU, uU, uU, uU, uU, uU, uU, uU, uU, uU, uU, uU, uU]) rfl (XS.aload X210.here hx rfl (hb hby at_273) rfl rfl (XS.iload X210.here hx rfl (hb hby at_275) rfl (own_daL X210 hx hZ rfl AFo0z (j := (2 : Int32)) (by decide) (i := 2) (by decide) (x := ro0_2z) rfl (g := (mkF m 277 #[sJ p0, uS, sJ p1, uS, sJ p2, uS, sI p3, sI (2 : Int32), sI y0, sI y1, sI y2, sI y3, sI y4, sI y5, sR a195, sR a196, sR a197, sR a198, sR a199, sR a195, sR a195, sR a195, sR a195, sI (3 : Int32), sI (0 : Int32), sI (1 : Int32), sI (2 : Int32), sD ro0_3z, uS, sD ro0_0z, uS, sD ro0_1z, uS, uU, uU, uU, uU, uU, uU, uU, uU, uU, uU, uU, uU, uU, uU, uU, uU, uU, uU, uU, uU, uU, uU, uU, uU, uU, uU, uU, uU, uU, uU] [(.int (2 : Int32)), (.ref a195)])) rfl (rest := []) rfl (hb hby at_277) (XS.dstore X210.here hx rfl (hb hby at_278) rfl (l' := #[sJ p0, uS, sJ p1, uS, sJ p2, uS, sI p3, sI (2 : Int32), sI y0, sI y1, sI y2, sI y3, sI y4, sI y5, sR a195, sR a196, sR a197, sR a198, sR a199, sR a195, sR a195, sR a195, sR a195, sI (3 : Int32), sI (0 : Int32), sI (1 : Int32), sI (2 : Int32), sD ro0_3z, uS, sD ro0_0z, uS, sD ro0_1z, uS, sD ro0_2z, uS, uU, uU, uU, uU, uU, uU, uU, uU, uU, uU, uU, uU, uU, uU, uU, uU, uU, uU, uU, uU, uU, uU, uU, uU, uU, uU, uU, uU]) rfl k)))))))) ?_
    show OwnGo _ _ _ _ (T210.setTop (mkF m 280 #[sJ p0, uS, sJ p1, uS, sJ p2, uS, sI p3, sI (2 : Int32), sI y0, sI y1, sI y2, sI y3, sI y4, sI y5, sR a195, sR a196, sR a197, sR a198, sR a199, sR a195, sR a195, sR a195, sR a195, sI (3 : Int32), sI (0 : Int32), sI (1 : Int32), sI (2 : Int32), sD ro0_3z, uS, sD ro0_0z, uS, sD ro0_1z, uS, sD ro0_2z, uS, uU, uU, uU, uU, uU, uU, uU, uU, uU, uU, uU, uU, uU, uU, uU, uU, uU, uU, uU, uU, uU, uU, uU, uU, uU, uU, uU, uU] []))
    obtain ⟨v211, hv211⟩ : ∃ v, y0.toInt64 = v := ⟨_, rfl⟩
    have F211 : v211.toInt = jy0 := by rw [← hv211, Jvm.Kit.i64_of_i32, Fy0]
    obtain ⟨v212, hv212⟩ : ∃ v, y2.toInt64 = v := ⟨_, rfl⟩
    have F212 : v212.toInt = jy2 := by rw [← hv212, Jvm.Kit.i64_of_i32, Fy2]
    obtain ⟨v213, hv213⟩ : ∃ v, v211 + v212 = v := ⟨_, rfl⟩
    obtain ⟨j213, hj213⟩ : ∃ i : Int, i = jy0 + jy2 := ⟨_, rfl⟩
    have B213 : -2097152 ≤ j213 ∧ j213 ≤ 2097152 := by rw [hj213]; exact own_bd_add by0 by2 (by decide)
    have F213 : v213.toInt = j213 := own_lf_add hv213 F211 F212 by0 by2 (by decide) hj213
    obtain ⟨v214, hv214⟩ : ∃ v, y1.toInt64 = v := ⟨_, rfl⟩
    refine OwnGo.pre (fun t k => XS.iload X210.here hx rfl (hb hby at_280) rfl (own_i2l X210.here hx rfl (hb hby at_282) rfl hv211 (XS.iload X210.here hx rfl (hb hby at_283) rfl (own_i2l X210.here hx rfl (hb hby at_285) rfl hv212 (own_ladd X210.here hx rfl (hb hby at_286) rfl hv213 (XT.lstore X210.here hx rfl (hb hby at_287) rfl (l' := #[sJ p0, uS, sJ p1, uS, sJ p2, uS, sI p3, sI (2 : Int32), sI y0, sI y1, sI y2, sI y3, sI y4, sI y5, sR a195, sR a196, sR a197, sR a198, sR a199, sR a195, sR a195, sR a195, sR a195, sI (3 : Int32), sI (0 : Int32), sI (1 : Int32), sI (2 : Int32), sD ro0_3z, uS, sD ro0_0z, uS, sD ro0_1z, uS, sD ro0_2z, uS, sJ v213, uS, uU, uU, uU, uU, uU, uU, uU, uU, uU, uU, uU, uU, uU, uU, uU, uU, uU, uU, uU, uU, uU, uU, uU, uU, uU, uU]) rfl (XS.iload X210.here hx rfl (hb hby at_289) rfl (own_i2l X210.here hx rfl (hb hby at_291) rfl hv214 k)))))))) ?_
    show OwnGo _ _ _ _ (T210.setTop (mkF m 292 #[sJ p0, uS, sJ p1, uS, sJ p2, uS, sI p3, sI (2 : Int32), sI y0, sI y1, sI y2, sI y3, sI y4, sI y5, sR a195, sR a196, sR a197, sR a198, sR a199, sR a195, sR a195, sR a195, sR a195, sI (3 : Int32), sI (0 : Int32), sI (1 : Int32), sI (2 : Int32), sD ro0_3z, uS, sD ro0_0z, uS, sD ro0_1z, uS, sD ro0_2z, uS, sJ v213, uS, uU, uU, uU, uU, uU, uU, uU, uU, uU, uU, uU, uU, uU, uU, uU, uU, uU, uU, uU, uU, uU, uU, uU, uU, uU, uU] [(.long v214)]))
    have F214 : v214.toInt = jy1 := by rw [← hv214, Jvm.Kit.i64_of_i32, Fy1]
    obtain ⟨v215, hv215⟩ : ∃ v, y3.toInt64 = v := ⟨_, rfl⟩
    have F215 : v215.toInt = jy3 := by rw [← hv215, Jvm.Kit.i64_of_i32, Fy3]
    obtain ⟨v216, hv216⟩ : ∃ v, v214 - v215 = v := ⟨_, rfl⟩
    obtain ⟨j216, hj216⟩ : ∃ i : Int, i = jy1 - jy3 := ⟨_, rfl⟩
    have B216 : -2097152 ≤ j216 ∧ j216 ≤ 2097152 := by rw [hj216]; exact own_bd_sub by1 by3 (by decide)
    have F216 : v216.toInt = j216 := own_lf_sub hv216 F214 F215 by1 by3 (by decide) hj216
    obtain ⟨v217, hv217⟩ : ∃ v, y0.toInt64 = v := ⟨_, rfl⟩
    have F217 : v217.toInt = jy0 := by rw [← hv217, Jvm.Kit.i64_of_i32, Fy0]
    obtain ⟨v218, hv218⟩ : ∃ v, y2.toInt64 = v := ⟨_, rfl⟩
    refine OwnGo.pre (fun t k => XS.iload X210.here hx rfl (hb hby at_292) rfl (own_i2l X210.here hx rfl (hb hby at_294) rfl hv215 (own_lsub X210.here hx rfl (hb hby at_295) rfl hv216 (XT.lstore X210.here hx rfl (hb hby at_296) rfl (l' := #[sJ p0, uS, sJ p1, uS, sJ p2, uS, sI p3, sI (2 : Int32), sI y0, sI y1, sI y2, sI y3, sI y4, sI y5, sR a195, sR a196, sR a197, sR a198, sR a199, sR a195, sR a195, sR a195, sR a195, sI (3 : Int32), sI (0 : Int32), sI (1 : Int32), sI (2 : Int32), sD ro0_3z, uS, sD ro0_0z, uS, sD ro0_1z, uS, sD ro0_2z, uS, sJ v213, uS, sJ v216, uS, uU, uU, uU, uU, uU, uU, uU, uU, uU, uU, uU, uU, uU, uU, uU, uU, uU, uU, uU, uU, uU, uU, uU, uU]) rfl (XS.iload X210.here hx rfl (hb hby at_298) rfl (own_i2l X210.here hx rfl (hb hby at_300) rfl hv217 (XS.iload X210.here hx rfl (hb hby at_301) rfl (own_i2l X210.here hx rfl (hb hby at_303) rfl hv218 k)))))))) ?_
    show OwnGo _ _ _ _ (T210.setTop (mkF m 304 #[sJ p0, uS, sJ p1, uS, sJ p2, uS, sI p3, sI (2 : Int32), sI y0, sI y1, sI y2, sI y3, sI y4, sI y5, sR a195, sR a196, sR a197, sR a198, sR a199, sR a195, sR a195, sR a195, sR a195, sI (3 : Int32), sI (0 : Int32), sI (1 : Int32), sI (2 : Int32), sD ro0_3z, uS, sD ro0_0z, uS, sD ro0_1z, uS, sD ro0_2z, uS, sJ v213, uS, sJ v216, uS, uU, uU, uU, uU, uU, uU, uU, uU, uU, uU, uU, uU, uU, uU, uU, uU, uU, uU, uU, uU, uU, uU, uU, uU] [(.long v218), (.long v217)]))
    have F218 : v218.toInt = jy2 := by rw [← hv218, Jvm.Kit.i64_of_i32, Fy2]
    obtain ⟨v219, hv219⟩ : ∃ v, v217 - v218 = v := ⟨_, rfl⟩
    obtain ⟨j219, hj219⟩ : ∃ i : Int, i = jy0 - jy2 := ⟨_, rfl⟩
    have B219 : -2097152 ≤ j219 ∧ j219 ≤ 2097152 := by rw [hj219]; exact own_bd_sub by0 by2 (by decide)
    have F219 : v219.toInt = j219 := own_lf_sub hv219 F217 F218 by0 by2 (by decide) hj219
    obtain ⟨v220, hv220⟩ : ∃ v, y1.toInt64 = v := ⟨_, rfl⟩
    have F220 : v220.toInt = jy1 := by rw [← hv220, Jvm.Kit.i64_of_i32, Fy1]
    obtain ⟨v221, hv221⟩ : ∃ v, y3.toInt64 = v := ⟨_, rfl⟩
    have F221 : v221.toInt = jy3 := by rw [← hv221, Jvm.Kit.i64_of_i32, Fy3]
    obtain ⟨v222, hv222⟩ : ∃ v, v220 + v221 = v := ⟨_, rfl⟩
    obtain ⟨j222, hj222⟩ : ∃ i : Int, i = jy1 + jy3 := ⟨_, rfl⟩
    have B222 : -2097152 ≤ j222 ∧ j222 ≤ 2097152 := by rw [hj222]; exact own_bd_add by1 by3 (by decide)
    have F222 : v222.toInt = j222 := own_lf_add hv222 F220 F221 by1 by3 (by decide) hj222
    refine OwnGo.pre (fun t k => own_lsub X210.here hx rfl (hb hby at_304) rfl hv219 (XT.lstore X210.here hx rfl (hb hby at_305) rfl (l' := #[sJ p0, uS, sJ p1, uS, sJ p2, uS, sI p3, sI (2 : Int32), sI y0, sI y1, sI y2, sI y3, sI y4, sI y5, sR a195, sR a196, sR a197, sR a198, sR a199, sR a195, sR a195, sR a195, sR a195, sI (3 : Int32), sI (0 : Int32), sI (1 : Int32), sI (2 : Int32), sD ro0_3z, uS, sD ro0_0z, uS, sD ro0_1z, uS, sD ro0_2z, uS, sJ v213, uS, sJ v216, uS, sJ v219, uS, uU, uU, uU, uU, uU, uU, uU, uU, uU, uU, uU, uU, uU, uU, uU, uU, uU, uU, uU, uU, uU, uU]) rfl (XS.iload X210.here hx rfl (hb hby at_307) rfl (own_i2l X210.here hx rfl (hb hby at_309) rfl hv220 (XS.iload X210.here hx rfl (hb hby at_310) rfl (own_i2l X210.here hx rfl (hb hby at_312) rfl hv221 (own_ladd X210.here hx rfl (hb hby at_313) rfl hv222 (XT.lstore X210.here hx rfl (hb hby at_314) rfl (l' := #[sJ p0, uS, sJ p1, uS, sJ p2, uS, sI p3, sI (2 : Int32), sI y0, sI y1, sI y2, sI y3, sI y4, sI y5, sR a195, sR a196, sR a197, sR a198, sR a199, sR a195, sR a195, sR a195, sR a195, sI (3 : Int32), sI (0 : Int32), sI (1 : Int32), sI (2 : Int32), sD ro0_3z, uS, sD ro0_0z, uS, sD ro0_1z, uS, sD ro0_2z, uS, sJ v213, uS, sJ v216, uS, sJ v219, uS, sJ v222, uS, uU, uU, uU, uU, uU, uU, uU, uU, uU, uU, uU, uU, uU, uU, uU, uU, uU, uU, uU, uU]) rfl k)))))))) ?_
    show OwnGo _ _ _ _ (T210.setTop (mkF m 316 #[sJ p0, uS, sJ p1, uS, sJ p2, uS, sI p3, sI (2 : Int32), sI y0, sI y1, sI y2, sI y3, sI y4, sI y5, sR a195, sR a196, sR a197, sR a198, sR a199, sR a195, sR a195, sR a195, sR a195, sI (3 : Int32), sI (0 : Int32), sI (1 : Int32), sI (2 : Int32), sD ro0_3z, uS, sD ro0_0z, uS, sD ro0_1z, uS, sD ro0_2z, uS, sJ v213, uS, sJ v216, uS, sJ v219, uS, sJ v222, uS, uU, uU, uU, uU, uU, uU, uU, uU, uU, uU, uU, uU, uU, uU, uU, uU, uU, uU, uU, uU] []))
    obtain ⟨v223, hv223⟩ : ∃ v, -v219 = v := ⟨_, rfl⟩
    obtain ⟨j223, hj223⟩ : ∃ i : Int, i = -j219 := ⟨_, rfl⟩
    have B223 : -2097152 ≤ j223 ∧ j223 ≤ 2097152 := by rw [hj223]; exact own_bd_neg B219
    have F223 : v223.toInt = j223 := own_lf_neg hv223 F219 B219 (by decide) hj223
    obtain ⟨v224, hv224⟩ : ∃ v, y4.toInt64 = v := ⟨_, rfl⟩
    have F224 : v224.toInt = jy4 := by rw [← hv224, Jvm.Kit.i64_of_i32, Fy4]
    refine OwnGo.pre (fun t k => XT.lload X210.here hx rfl (hb hby at_316) rfl (XT.lstore X210.here hx rfl (hb hby at_318) rfl (l' := #[sJ p0, uS, sJ p1, uS, sJ p2, uS, sI p3, sI (2 : Int32), sI y0, sI y1, sI y2, sI y3, sI y4, sI y5, sR a195, sR a196, sR a197, sR a198, sR a199, sR a195, sR a195, sR a195, sR a195, sI (3 : Int32), sI (0 : Int32), sI (1 : Int32), sI (2 : Int32), sD ro0_3z, uS, sD ro0_0z, uS, sD ro0_1z, uS, sD ro0_2z, uS, sJ v213, uS, sJ v216, uS, sJ v219, uS, sJ v222, uS, sJ v222, uS, uU, uU, uU, uU, uU, uU, uU, uU, uU, uU, uU, uU, uU, uU, uU, uU, uU, uU]) rfl (XT.lload X210.here hx rfl (hb hby at_320) rfl (own_lneg X210.here hx rfl (hb hby at_322) rfl hv223 (XT.lstore X210.here hx rfl (hb hby at_323) rfl (l' := #[sJ p0, uS, sJ p1, uS, sJ p2, uS, sI p3, sI (2 : Int32), sI y0, sI y1, sI y2, sI y3, sI y4, sI y5, sR a195, sR a196, sR a197, sR a198, sR a199, sR a195, sR a195, sR a195, sR a195, sI (3 : Int32), sI (0 : Int32), sI (1 : Int32), sI (2 : Int32), sD ro0_3z, uS, sD ro0_0z, uS, sD ro0_1z, uS, sD ro0_2z, uS, sJ v213, uS, sJ v216, uS, sJ v219, uS, sJ v222, uS, sJ v222, uS, sJ v223, uS, uU, uU, uU, uU, uU, uU, uU, uU, uU, uU, uU, uU, uU, uU, uU, uU]) rfl (XS.iload X210.here hx rfl (hb hby at_325) rfl (own_i2l X210.here hx rfl (hb hby at_327) rfl hv224 (XT.lstore X210.here hx rfl (hb hby at_328) rfl (l' := #[sJ p0, uS, sJ p1, uS, sJ p2, uS, sI p3, sI (2 : Int32), sI y0, sI y1, sI y2, sI y3, sI y4, sI y5, sR a195, sR a196, sR a197, sR a198, sR a199, sR a195, sR a195, sR a195, sR a195, sI (3 : Int32), sI (0 : Int32), sI (1 : Int32), sI (2 : Int32), sD ro0_3z, uS, sD ro0_0z, uS, sD ro0_1z, uS, sD ro0_2z, uS, sJ v213, uS, sJ v216, uS, sJ v219, uS, sJ v222, uS, sJ v222, uS, sJ v223, uS, sJ v224, uS, uU, uU, uU, uU, uU, uU, uU, uU, uU, uU, uU, uU, uU, uU]) rfl k)))))))) ?_
    show OwnGo _ _ _ _ (T210.setTop (mkF m 330 #[sJ p0, uS, sJ p1, uS, sJ p2, uS, sI p3, sI (2 : Int32), sI y0, sI y1, sI y2, sI y3, sI y4, sI y5, sR a195, sR a196, sR a197, sR a198, sR a199, sR a195, sR a195, sR a195, sR a195, sI (3 : Int32), sI (0 : Int32), sI (1 : Int32), sI (2 : Int32), sD ro0_3z, uS, sD ro0_0z, uS, sD ro0_1z, uS, sD ro0_2z, uS, sJ v213, uS, sJ v216, uS, sJ v219, uS, sJ v222, uS, sJ v222, uS, sJ v223, uS, sJ v224, uS, uU, uU, uU, uU, uU, uU, uU, uU, uU, uU, uU, uU, uU, uU] []))
    obtain ⟨v225, hv225⟩ : ∃ v, y5.toInt64 = v := ⟨_, rfl⟩
    have F225 : v225.toInt = jy5 := by rw [← hv225, Jvm.Kit.i64_of_i32, Fy5]
    obtain ⟨v226, hv226⟩ : ∃ v, -v225 = v := ⟨_, rfl⟩
    obtain ⟨j226, hj226⟩ : ∃ i : Int, i = -jy5 := ⟨_, rfl⟩
    have B226 : -1048576 ≤ j226 ∧ j226 ≤ 1048576 := by rw [hj226]; exact own_bd_neg by5
    have F226 : v226.toInt = j226 := own_lf_neg hv226 F225 by5 (by decide) hj226
    refine OwnGo.pre (fun t k => XS.iload X210.here hx rfl (hb hby at_330) rfl (own_i2l X210.here hx rfl (hb hby at_332) rfl hv225 (own_lneg X210.here hx rfl (hb hby at_333) rfl hv226 (XT.lstore X210.here hx rfl (hb hby at_334) rfl (l' := #[sJ p0, uS, sJ p1, uS, sJ p2, uS, sI p3, sI (2 : Int32), sI y0, sI y1, sI y2, sI y3, sI y4, sI y5, sR a195, sR a196, sR a197, sR a198, sR a199, sR a195, sR a195, sR a195, sR a195, sI (3 : Int32), sI (0 : Int32), sI (1 : Int32), sI (2 : Int32), sD ro0_3z, uS, sD ro0_0z, uS, sD ro0_1z, uS, sD ro0_2z, uS, sJ v213, uS, sJ v216, uS, sJ v219, uS, sJ v222, uS, sJ v222, uS, sJ v223, uS, sJ v224, uS, sJ v226, uS, uU, uU, uU, uU, uU, uU, uU, uU, uU, uU, uU, uU]) rfl (XT.lload X210.here hx rfl (hb hby at_336) rfl (XT.lload X210.here hx rfl (hb hby at_338) rfl (XT.lload X210.here hx rfl (hb hby at_340) rfl (XT.lload X210.here hx rfl (hb hby at_342) rfl k)))))))) ?_
    show OwnGo _ _ _ _ (T210.setTop (mkF m 344 #[sJ p0, uS, sJ p1, uS, sJ p2, uS, sI p3, sI (2 : Int32), sI y0, sI y1, sI y2, sI y3, sI y4, sI y5, sR a195, sR a196, sR a197, sR a198, sR a199, sR a195, sR a195, sR a195, sR a195, sI (3 : Int32), sI (0 : Int32), sI (1 : Int32), sI (2 : Int32), sD ro0_3z, uS, sD ro0_0z, uS, sD ro0_1z, uS, sD ro0_2z, uS, sJ v213, uS, sJ v216, uS, sJ v219, uS, sJ v222, uS, sJ v222, uS, sJ v223, uS, sJ v224, uS, sJ v226, uS, uU, uU, uU, uU, uU, uU, uU, uU, uU, uU, uU, uU] [(.long v223), (.long v222), (.long v226), (.long v224)]))
    obtain ⟨_, _, ⟨T227, L227, k227, n227⟩, -, X227, ⟨Lc227, hQ227, l227, y227, z227⟩, st227⟩ := Jvm.LawKit.callS X210 hx (y := (⟨"com/example/isochron/isochron/dsp/FourierSeparatePinLaw", "mulRe", "(JJJJ)J"⟩ : MethodName)) hown (mvT hZ (hw _ (List.mem_of_getElem? (i := 10) rfl))) (mvT hZ (hw _ (List.mem_of_getElem? (i := 11) rfl))) (mvT hZ (hw _ (List.mem_of_getElem? (i := 2) rfl))) (mvT hZ (hw _ (List.mem_of_getElem? (i := 12) rfl))) (by decide) (backOf (W := 0) (rmRe l Z a0 hw [] v224 v226 v222 v223 jy4 j226 j222 j223 T210.heap n0 Z210 F224 (own_bd_le by4 (by decide)) F226 (own_bd_le B226 (by decide)) F222 (own_bd_le B222 (by decide)) F223 (own_bd_le B223 (by decide))) hZ (hw _ (List.mem_of_getElem? (i := 12) rfl)) (hw _ (List.mem_of_getElem? (i := 2) rfl)) (by decide) (by decide)) (g := (mkF m 344 #[sJ p0, uS, sJ p1, uS, sJ p2, uS, sI p3, sI (2 : Int32), sI y0, sI y1, sI y2, sI y3, sI y4, sI y5, sR a195, sR a196, sR a197, sR a198, sR a199, sR a195, sR a195, sR a195, sR a195, sI (3 : Int32), sI (0 : Int32), sI (1 : Int32), sI (2 : Int32), sD ro0_3z, uS, sD ro0_0z, uS, sD ro0_1z, uS, sD ro0_2z, uS, sJ v213, uS, sJ v216, uS, sJ v219, uS, sJ v222, uS, sJ v222, uS, sJ v223, uS, sJ v224, uS, sJ v226, uS, uU, uU, uU, uU, uU, uU, uU, uU, uU, uU, uU, uU] [(.long v223), (.long v222), (.long v226), (.long v224)])) rfl (by rw [hml]; rfl) (argsL := [(.long v224), (.long v226), (.long v222), (.long v223)]) (rest := []) (lenOf pd_rmRe rfl) rfl (by show 2 * 0 + _ ≤ _; exact Nat.le_of_eq rfl) (hb hby at_344) (fun _ _ => ⟨rfl, rfl, (by decide : 5 + 0 ≤ _), (by decide : 8 + 0 ≤ _)⟩)
    dsimp only [Pt.U, Pt.locs, Pt.cells, Pt.slots] at X227 l227 y227 z227 st227 hQ227
    subst l227 y227 z227
    obtain ⟨wr, rfl, Fwr, N227, e227⟩ := hQ227
    refine OwnGo.pre (fun t k => st227 t k) ?_
    show OwnGo _ _ _ _ (T227.setTop (mkF m 347 #[sJ p0, uS, sJ p1, uS, sJ p2, uS, sI p3, sI (2 : Int32), sI y0, sI y1, sI y2, sI y3, sI y4, sI y5, sR a195, sR a196, sR a197, sR a198, sR a199, sR a195, sR a195, sR a195, sR a195, sI (3 : Int32), sI (0 : Int32), sI (1 : Int32), sI (2 : Int32), sD ro0_3z, uS, sD ro0_0z, uS, sD ro0_1z, uS, sD ro0_2z, uS, sJ v213, uS, sJ v216, uS, sJ v219, uS, sJ v222, uS, sJ v222, uS, sJ v223, uS, sJ v224, uS, sJ v226, uS, uU, uU, uU, uU, uU, uU, uU, uU, uU, uU, uU, uU] [(.long wr)]))
    have M227 := Fr.app M210 N227
    obtain ⟨jwr, hjwr⟩ : ∃ i : Int, i = jy4 * j222 - j226 * j223 := ⟨_, rfl⟩
    rw [← hjwr] at Fwr
    have Bwr : -4398046511104 ≤ jwr ∧ jwr ≤ 4398046511104 := by rw [hjwr]; exact own_bd_sub (own_bd_mul by4 B222 rfl) (own_bd_mul B226 B223 rfl) (by decide)
    refine OwnGo.pre (fun t k => XT.lstore X227.here hx rfl (hb hby at_347) rfl (l' := #[sJ p0, uS, sJ p1, uS, sJ p2, uS, sI p3, sI (2 : Int32), sI y0, sI y1, sI y2, sI y3, sI y4, sI y5, sR a195, sR a196, sR a197, sR a198, sR a199, sR a195, sR a195, sR a195, sR a195, sI (3 : Int32), sI (0 : Int32), sI (1 : Int32), sI (2 : Int32), sD ro0_3z, uS, sD ro0_0z, uS, sD ro0_1z, uS, sD ro0_2z, uS, sJ v213, uS, sJ v216, uS, sJ v219, uS, sJ v222, uS, sJ v222, uS, sJ v223, uS, sJ v224, uS, sJ v226, uS, sJ wr, uS, uU, uU, uU, uU, uU, uU, uU, uU, uU, uU]) rfl (XT.lload X227.here hx rfl (hb hby at_349) rfl (XT.lload X227.here hx rfl (hb hby at_351) rfl (XT.lload X227.here hx rfl (hb hby at_353) rfl (XT.lload X227.here hx rfl (hb hby at_355) rfl k))))) ?_
    show OwnGo _ _ _ _ (T227.setTop (mkF m 357 #[sJ p0, uS, sJ p1, uS, sJ p2, uS, sI p3, sI (2 : Int32), sI y0, sI y1, sI y2, sI y3, sI y4, sI y5, sR a195, sR a196, sR a197, sR a198, sR a199, sR a195, sR a195, sR a195, sR a195, sI (3 : Int32), sI (0 : Int32), sI (1 : Int32), sI (2 : Int32), sD ro0_3z, uS, sD ro0_0z, uS, sD ro0_1z, uS, sD ro0_2z, uS, sJ v213, uS, sJ v216, uS, sJ v219, uS, sJ v222, uS, sJ v222, uS, sJ v223, uS, sJ v224, uS, sJ v226, uS, sJ wr, uS, uU, uU, uU, uU, uU, uU, uU, uU, uU, uU] [(.long v223), (.long v222), (.long v226), (.long v224)]))
    obtain ⟨_, _, ⟨T228, L228, k228, n228⟩, -, X228, ⟨Lc228, hQ228, l228, y228, z228⟩, st228⟩ := Jvm.LawKit.callS X227 hx (y := (⟨"com/example/isochron/isochron/dsp/FourierSeparatePinLaw", "mulIm", "(JJJJ)J"⟩ : MethodName)) hown (mvT hZ (hw _ (List.mem_of_getElem? (i := 13) rfl))) (mvT hZ (hw _ (List.mem_of_getElem? (i := 14) rfl))) (mvT hZ (hw _ (List.mem_of_getElem? (i := 2) rfl))) (mvT hZ (hw _ (List.mem_of_getElem? (i := 15) rfl))) (by decide) (backOf (W := 0) (rmIm l Z a0 hw [] v224 v226 v222 v223 jy4 j226 j222 j223 T210.heap n0 Z210 F224 (own_bd_le by4 (by decide)) F226 (own_bd_le B226 (by decide)) F222 (own_bd_le B222 (by decide)) F223 (own_bd_le B223 (by decide))) hZ (hw _ (List.mem_of_getElem? (i := 15) rfl)) (hw _ (List.mem_of_getElem? (i := 2) rfl)) (by decide) (by decide)) (g := (mkF m 357 #[sJ p0, uS, sJ p1, uS, sJ p2, uS, sI p3, sI (2 : Int32), sI y0, sI y1, sI y2, sI y3, sI y4, sI y5, sR a195, sR a196, sR a197, sR a198, sR a199, sR a195, sR a195, sR a195, sR a195, sI (3 : Int32), sI (0 : Int32), sI (1 : Int32), sI (2 : Int32), sD ro0_3z, uS, sD ro0_0z, uS, sD ro0_1z, uS, sD ro0_2z, uS, sJ v213, uS, sJ v216, uS, sJ v219, uS, sJ v222, uS, sJ v222, uS, sJ v223, uS, sJ v224, uS, sJ v226, uS, sJ wr, uS, uU, uU, uU, uU, uU, uU, uU, uU, uU, uU] [(.long v223), (.long v222), (.long v226), (.long v224)])) rfl (by rw [hml]; rfl) (argsL := [(.long v224), (.long v226), (.long v222), (.long v223)]) (rest := []) (lenOf pd_rmIm rfl) rfl (by show 2 * 0 + _ ≤ _; exact Nat.le_of_eq rfl) (hb hby at_357) (fun _ _ => ⟨rfl, e227, (by decide : 5 + 0 ≤ _), (by decide : 8 + 0 ≤ _)⟩)
    dsimp only [Pt.U, Pt.locs, Pt.cells, Pt.slots] at X228 l228 y228 z228 st228 hQ228
    subst l228 y228 z228
    obtain ⟨wi, rfl, Fwi, N228, e228⟩ := hQ228
    refine OwnGo.pre (fun t k => st228 t k) ?_
    show OwnGo _ _ _ _ (T228.setTop (mkF m 360 #[sJ p0, uS, sJ p1, uS, sJ p2, uS, sI p3, sI (2 : Int32), sI y0, sI y1, sI y2, sI y3, sI y4, sI y5, sR a195, sR a196, sR a197, sR a198, sR a199, sR a195, sR a195, sR a195, sR a195, sI (3 : Int32), sI (0 : Int32), sI (1 : Int32), sI (2 : Int32), sD ro0_3z, uS, sD ro0_0z, uS, sD ro0_1z, uS, sD ro0_2z, uS, sJ v213, uS, sJ v216, uS, sJ v219, uS, sJ v222, uS, sJ v222, uS, sJ v223, uS, sJ v224, uS, sJ v226, uS, sJ wr, uS, uU, uU, uU, uU, uU, uU, uU, uU, uU, uU] [(.long wi)]))
    have M228 := Fr.app M227 N228
    obtain ⟨jwi, hjwi⟩ : ∃ i : Int, i = jy4 * j223 + j226 * j222 := ⟨_, rfl⟩
    rw [← hjwi] at Fwi
    have Bwi : -4398046511104 ≤ jwi ∧ jwi ≤ 4398046511104 := by rw [hjwi]; exact own_bd_add (own_bd_mul by4 B223 rfl) (own_bd_mul B226 B222 rfl) (by decide)
    obtain ⟨v229, hv229⟩ : ∃ v, v213 + wr = v := ⟨_, rfl⟩
    obtain ⟨j229, hj229⟩ : ∃ i : Int, i = j213 + jwr := ⟨_, rfl⟩
    have B229 : -4398048608256 ≤ j229 ∧ j229 ≤ 4398048608256 := by rw [hj229]; exact own_bd_add B213 Bwr (by decide)
    have F229 : v229.toInt = j229 := own_lf_add hv229 F213 Fwr B213 Bwr (by decide) hj229
    obtain ⟨v230, hv230⟩ : ∃ v, v216 + wi = v := ⟨_, rfl⟩
    refine OwnGo.pre (fun t k => XT.lstore X228.here hx rfl (hb hby at_360) rfl (l' := #[sJ p0, uS, sJ p1, uS, sJ p2, uS, sI p3, sI (2 : Int32), sI y0, sI y1, sI y2, sI y3, sI y4, sI y5, sR a195, sR a196, sR a197, sR a198, sR a199, sR a195, sR a195, sR a195, sR a195, sI (3 : Int32), sI (0 : Int32), sI (1 : Int32), sI (2 : Int32), sD ro0_3z, uS, sD ro0_0z, uS, sD ro0_1z, uS, sD ro0_2z, uS, sJ v213, uS, sJ v216, uS, sJ v219, uS, sJ v222, uS, sJ v222, uS, sJ v223, uS, sJ v224, uS, sJ v226, uS, sJ wr, uS, sJ wi, uS, uU, uU, uU, uU, uU, uU, uU, uU]) rfl (XT.lload X228.here hx rfl (hb hby at_362) rfl (XT.lload X228.here hx rfl (hb hby at_364) rfl (own_ladd X228.here hx rfl (hb hby at_366) rfl hv229 (XT.lstore X228.here hx rfl (hb hby at_367) rfl (l' := #[sJ p0, uS, sJ p1, uS, sJ p2, uS, sI p3, sI (2 : Int32), sI y0, sI y1, sI y2, sI y3, sI y4, sI y5, sR a195, sR a196, sR a197, sR a198, sR a199, sR a195, sR a195, sR a195, sR a195, sI (3 : Int32), sI (0 : Int32), sI (1 : Int32), sI (2 : Int32), sD ro0_3z, uS, sD ro0_0z, uS, sD ro0_1z, uS, sD ro0_2z, uS, sJ v213, uS, sJ v216, uS, sJ v219, uS, sJ v222, uS, sJ v222, uS, sJ v223, uS, sJ v224, uS, sJ v226, uS, sJ wr, uS, sJ wi, uS, sJ v229, uS, uU, uU, uU, uU, uU, uU]) rfl (XT.lload X228.here hx rfl (hb hby at_369) rfl (XT.lload X228.here hx rfl (hb hby at_371) rfl (own_ladd X228.here hx rfl (hb hby at_373) rfl hv230 k)))))))) ?_
    show OwnGo _ _ _ _ (T228.setTop (mkF m 374 #[sJ p0, uS, sJ p1, uS, sJ p2, uS, sI p3, sI (2 : Int32), sI y0, sI y1, sI y2, sI y3, sI y4, sI y5, sR a195, sR a196, sR a197, sR a198, sR a199, sR a195, sR a195, sR a195, sR a195, sI (3 : Int32), sI (0 : Int32), sI (1 : Int32), sI (2 : Int32), sD ro0_3z, uS, sD ro0_0z, uS, sD ro0_1z, uS, sD ro0_2z, uS, sJ v213, uS, sJ v216, uS, sJ v219, uS, sJ v222, uS, sJ v222, uS, sJ v223, uS, sJ v224, uS, sJ v226, uS, sJ wr, uS, sJ wi, uS, sJ v229, uS, uU, uU, uU, uU, uU, uU] [(.long v230)]))
    obtain ⟨j230, hj230⟩ : ∃ i : Int, i = j216 + jwi := ⟨_, rfl⟩
    have B230 : -4398048608256 ≤ j230 ∧ j230 ≤ 4398048608256 := by rw [hj230]; exact own_bd_add B216 Bwi (by decide)
    have F230 : v230.toInt = j230 := own_lf_add hv230 F216 Fwi B216 Bwi (by decide) hj230
    obtain ⟨v231, hv231⟩ : ∃ v, v213 - wr = v := ⟨_, rfl⟩
    obtain ⟨j231, hj231⟩ : ∃ i : Int, i = j213 - jwr := ⟨_, rfl⟩
    have B231 : -4398048608256 ≤ j231 ∧ j231 ≤ 4398048608256 := by rw [hj231]; exact own_bd_sub B213 Bwr (by decide)
    have F231 : v231.toInt = j231 := own_lf_sub hv231 F213 Fwr B213 Bwr (by decide) hj231
    obtain ⟨v232, hv232⟩ : ∃ v, v216 - wi = v := ⟨_, rfl⟩
    refine OwnGo.pre (fun t k => XT.lstore X228.here hx rfl (hb hby at_374) rfl (l' := #[sJ p0, uS, sJ p1, uS, sJ p2, uS, sI p3, sI (2 : Int32), sI y0, sI y1, sI y2, sI y3, sI y4, sI y5, sR a195, sR a196, sR a197, sR a198, sR a199, sR a195, sR a195, sR a195, sR a195, sI (3 : Int32), sI (0 : Int32), sI (1 : Int32), sI (2 : Int32), sD ro0_3z, uS, sD ro0_0z, uS, sD ro0_1z, uS, sD ro0_2z, uS, sJ v213, uS, sJ v216, uS, sJ v219, uS, sJ v222, uS, sJ v222, uS, sJ v223, uS, sJ v224, uS, sJ v226, uS, sJ wr, uS, sJ wi, uS, sJ v229, uS, sJ v230, uS, uU, uU, uU, uU]) rfl (XT.lload X228.here hx rfl (hb hby at_376) rfl (XT.lload X228.here hx rfl (hb hby at_378) rfl (own_lsub X228.here hx rfl (hb hby at_380) rfl hv231 (XT.lstore X228.here hx rfl (hb hby at_381) rfl (l' := #[sJ p0, uS, sJ p1, uS, sJ p2, uS, sI p3, sI (2 : Int32), sI y0, sI y1, sI y2, sI y3, sI y4, sI y5, sR a195, sR a196, sR a197, sR a198, sR a199, sR a195, sR a195, sR a195, sR a195, sI (3 : Int32), sI (0 : Int32), sI (1 : Int32), sI (2 : Int32), sD ro0_3z, uS, sD ro0_0z, uS, sD ro0_1z, uS, sD ro0_2z, uS, sJ v213, uS, sJ v216, uS, sJ v219, uS, sJ v222, uS, sJ v222, uS, sJ v223, uS, sJ v224, uS, sJ v226, uS, sJ wr, uS, sJ wi, uS, sJ v229, uS, sJ v230, uS, sJ v231, uS, uU, uU]) rfl (XT.lload X228.here hx rfl (hb hby at_383) rfl (XT.lload X228.here hx rfl (hb hby at_385) rfl (own_lsub X228.here hx rfl (hb hby at_387) rfl hv232 k)))))))) ?_
    show OwnGo _ _ _ _ (T228.setTop (mkF m 388 #[sJ p0, uS, sJ p1, uS, sJ p2, uS, sI p3, sI (2 : Int32), sI y0, sI y1, sI y2, sI y3, sI y4, sI y5, sR a195, sR a196, sR a197, sR a198, sR a199, sR a195, sR a195, sR a195, sR a195, sI (3 : Int32), sI (0 : Int32), sI (1 : Int32), sI (2 : Int32), sD ro0_3z, uS, sD ro0_0z, uS, sD ro0_1z, uS, sD ro0_2z, uS, sJ v213, uS, sJ v216, uS, sJ v219, uS, sJ v222, uS, sJ v222, uS, sJ v223, uS, sJ v224, uS, sJ v226, uS, sJ wr, uS, sJ wi, uS, sJ v229, uS, sJ v230, uS, sJ v231, uS, uU, uU] [(.long v232)]))
    obtain ⟨j232, hj232⟩ : ∃ i : Int, i = j216 - jwi := ⟨_, rfl⟩
    have B232 : -4398048608256 ≤ j232 ∧ j232 ≤ 4398048608256 := by rw [hj232]; exact own_bd_sub B216 Bwi (by decide)
    have F232 : v232.toInt = j232 := own_lf_sub hv232 F216 Fwi B216 Bwi (by decide) hj232
    obtain ⟨v233, hv233⟩ : ∃ v, -v232 = v := ⟨_, rfl⟩
    obtain ⟨j233, hj233⟩ : ∃ i : Int, i = -j232 := ⟨_, rfl⟩
    have B233 : -4398048608256 ≤ j233 ∧ j233 ≤ 4398048608256 := by rw [hj233]; exact own_bd_neg B232
    have F233 : v233.toInt = j233 := own_lf_neg hv233 F232 B232 (by decide) hj233
    obtain ⟨j234, hj234⟩ : ∃ i : Int, i = (1 : Int) * jro0_3z := ⟨_, rfl⟩
    have B234 : -4398048608256 ≤ j234 ∧ j234 ≤ 4398048608256 := by rw [hj234]; exact own_bd_mul own_b1 Bjro0_3z (by decide)
    have Dq234 : OwnDS 0 j234 (FP.dmul (4611686018427387904 : UInt64) ro0_3z) := by rw [hj234]; have q := own_ds_mul (n := 53) own_two Hro0_3z (own_bd_nat (C := 4398048608256) (own_bd_mul own_b1 Bjro0_3z (by decide)) (by decide)); exact q
    obtain ⟨d234, hd234⟩ : ∃ v, FP.dmul (4611686018427387904 : UInt64) ro0_3z = v := ⟨_, rfl⟩
    refine OwnGo.pre (fun t k => own_lneg X228.here hx rfl (hb hby at_388) rfl hv233 (XT.lstore X228.here hx rfl (hb hby at_389) rfl (l' := #[sJ p0, uS, sJ p1, uS, sJ p2, uS, sI p3, sI (2 : Int32), sI y0, sI y1, sI y2, sI y3, sI y4, sI y5, sR a195, sR a196, sR a197, sR a198, sR a199, sR a195, sR a195, sR a195, sR a195, sI (3 : Int32), sI (0 : Int32), sI (1 : Int32), sI (2 : Int32), sD ro0_3z, uS, sD ro0_0z, uS, sD ro0_1z, uS, sD ro0_2z, uS, sJ v213, uS, sJ v216, uS, sJ v219, uS, sJ v222, uS, sJ v222, uS, sJ v223, uS, sJ v224, uS, sJ v226, uS, sJ wr, uS, sJ wi, uS, sJ v229, uS, sJ v230, uS, sJ v231, uS, sJ v233, uS]) rfl (XS.iload X228.here hx rfl (hb hby at_391) rfl (XS.iconst X228.here hx rfl (hb hby at_393) (XS.icmpYes X228.here hx rfl (pc0 := 394) (pc' := 463) rfl (hb hby at_394) rfl (by decide) (by decide) (by decide) (own_ldcD X228 hx hown (mvT hZ (hw _ (List.mem_of_getElem? (i := 16) rfl))) rfl (hb hby at_463) (XS.dload X228.here hx rfl (hb hby at_466) rfl (XS.dmulS X228.here hx rfl (hb hby at_468) rfl (own_nn Dq234) hd234 k)))))))) ?_
    show OwnGo _ _ _ _ (T228.setTop (mkF m 469 #[sJ p0, uS, sJ p1, uS, sJ p2, uS, sI p3, sI (2 : Int32), sI y0, sI y1, sI y2, sI y3, sI y4, sI y5, sR a195, sR a196, sR a197, sR a198, sR a199, sR a195, sR a195, sR a195, sR a195, sI (3 : Int32), sI (0 : Int32), sI (1 : Int32), sI (2 : Int32), sD ro0_3z, uS, sD ro0_0z, uS, sD ro0_1z, uS, sD ro0_2z, uS, sJ v213, uS, sJ v216, uS, sJ v219, uS, sJ v222, uS, sJ v222, uS, sJ v223, uS, sJ v224, uS, sJ v226, uS, sJ wr, uS, sJ wi, uS, sJ v229, uS, sJ v230, uS, sJ v231, uS, sJ v233, uS] [(.double d234)]))
    have D234 : OwnDS 0 j234 d234 := by rw [← hd234]; exact Dq234
    obtain ⟨d235, hd235⟩ : ∃ v, FP.l2d v229 = v := ⟨_, rfl⟩
    have D235 : OwnDS 0 j229 d235 := by rw [← hd235]; exact own_l2db F229 B229 (by decide)
    refine OwnGo.pre (fun t k => XT.lload X228.here hx rfl (hb hby at_469) rfl (XS.l2dS X228.here hx rfl (hb hby at_471) rfl hd235 (XS.dcmpS X228.here hx rfl (hb hby at_472) rfl rfl k))) ?_
    show OwnGo _ _ _ _ (T228.setTop (mkF m 473 #[sJ p0, uS, sJ p1, uS, sJ p2, uS, sI p3, sI (2 : Int32), sI y0, sI y1, sI y2, sI y3, sI y4, sI y5, sR a195, sR a196, sR a197, sR a198, sR a199, sR a195, sR a195, sR a195, sR a195, sI (3 : Int32), sI (0 : Int32), sI (1 : Int32), sI (2 : Int32), sD ro0_3z, uS, sD ro0_0z, uS, sD ro0_1z, uS, sD ro0_2z, uS, sJ v213, uS, sJ v216, uS, sJ v219, uS, sJ v222, uS, sJ v222, uS, sJ v223, uS, sJ v224, uS, sJ v226, uS, sJ wr, uS, sJ wi, uS, sJ v229, uS, sJ v230, uS, sJ v231, uS, sJ v233, uS] [(.int (cmpValue (FP.dcmp d234 d235) .l))]))
    have q473 : j234 = j229 := by simp only [hj234, hjro0_3z, hj229, hj213, hjwr, hj226, hj222, hj223, hj219]; exact own_eq0 jy0 jy2 jy4 jy1 jy3 jy5
    obtain ⟨j236, hj236⟩ : ∃ i : Int, i = (1 : Int) * jro0_0z := ⟨_, rfl⟩
    have B236 : -4398048608256 ≤ j236 ∧ j236 ≤ 4398048608256 := by rw [hj236]; exact own_bd_mul own_b1 Bjro0_0z (by decide)
    have Dq236 : OwnDS 0 j236 (FP.dmul (4611686018427387904 : UInt64) ro0_0z) := by rw [hj236]; have q := own_ds_mul (n := 53) own_two Hro0_0z (own_bd_nat (C := 4398048608256) (own_bd_mul own_b1 Bjro0_0z (by decide)) (by decide)); exact q
    obtain ⟨d236, hd236⟩ : ∃ v, FP.dmul (4611686018427387904 : UInt64) ro0_0z = v := ⟨_, rfl⟩
    have D236 : OwnDS 0 j236 d236 := by rw [← hd236]; exact Dq236
    obtain ⟨d237, hd237⟩ : ∃ v, FP.l2d v230 = v := ⟨_, rfl⟩
    have D237 : OwnDS 0 j230 d237 := by rw [← hd237]; exact own_l2db F230 B230 (by decide)
    refine OwnGo.pre (fun t k => XS.ifNo X228.here hx rfl (hb hby at_473) rfl ((own_brD .ne D234 D235 _).trans (decide_eq_false (fun q => q q473))) (own_ldcD X228 hx hown (mvT hZ (hw _ (List.mem_of_getElem? (i := 16) rfl))) rfl (hb hby at_476) (XS.dload X228.here hx rfl (hb hby at_479) rfl (XS.dmulS X228.here hx rfl (hb hby at_481) rfl (own_nn Dq236) hd236 (XT.lload X228.here hx rfl (hb hby at_482) rfl (XS.l2dS X228.here hx rfl (hb hby at_484) rfl hd237 (XS.dcmpS X228.here hx rfl (hb hby at_485) rfl rfl k))))))) ?_
    show OwnGo _ _ _ _ (T228.setTop (mkF m 486 #[sJ p0, uS, sJ p1, uS, sJ p2, uS, sI p3, sI (2 : Int32), sI y0, sI y1, sI y2, sI y3, sI y4, sI y5, sR a195, sR a196, sR a197, sR a198, sR a199, sR a195, sR a195, sR a195, sR a195, sI (3 : Int32), sI (0 : Int32), sI (1 : Int32), sI (2 : Int32), sD ro0_3z, uS, sD ro0_0z, uS, sD ro0_1z, uS, sD ro0_2z, uS, sJ v213, uS, sJ v216, uS, sJ v219, uS, sJ v222, uS, sJ v222, uS, sJ v223, uS, sJ v224, uS, sJ v226, uS, sJ wr, uS, sJ wi, uS, sJ v229, uS, sJ v230, uS, sJ v231, uS, sJ v233, uS] [(.int (cmpValue (FP.dcmp d236 d237) .l))]))
    have q486 : j236 = j230 := by simp only [hj236, hjro0_0z, hj230, hj216, hjwi, hj226, hj222, hj223, hj219]; exact own_eq1 jy1 jy3 jy4 jy2 jy0 jy5
    obtain ⟨j238, hj238⟩ : ∃ i : Int, i = (1 : Int) * jro0_1z := ⟨_, rfl⟩
    have B238 : -4398048608256 ≤ j238 ∧ j238 ≤ 4398048608256 := by rw [hj238]; exact own_bd_mul own_b1 Bjro0_1z (by decide)
    have Dq238 : OwnDS 0 j238 (FP.dmul (4611686018427387904 : UInt64) ro0_1z) := by rw [hj238]; have q := own_ds_mul (n := 53) own_two Hro0_1z (own_bd_nat (C := 4398048608256) (own_bd_mul own_b1 Bjro0_1z (by decide)) (by decide)); exact q
    obtain ⟨d238, hd238⟩ : ∃ v, FP.dmul (4611686018427387904 : UInt64) ro0_1z = v := ⟨_, rfl⟩
    have D238 : OwnDS 0 j238 d238 := by rw [← hd238]; exact Dq238
    obtain ⟨d239, hd239⟩ : ∃ v, FP.l2d v231 = v := ⟨_, rfl⟩
    have D239 : OwnDS 0 j231 d239 := by rw [← hd239]; exact own_l2db F231 B231 (by decide)
    refine OwnGo.pre (fun t k => XS.ifNo X228.here hx rfl (hb hby at_486) rfl ((own_brD .ne D236 D237 _).trans (decide_eq_false (fun q => q q486))) (own_ldcD X228 hx hown (mvT hZ (hw _ (List.mem_of_getElem? (i := 16) rfl))) rfl (hb hby at_489) (XS.dload X228.here hx rfl (hb hby at_492) rfl (XS.dmulS X228.here hx rfl (hb hby at_494) rfl (own_nn Dq238) hd238 (XT.lload X228.here hx rfl (hb hby at_495) rfl (XS.l2dS X228.here hx rfl (hb hby at_497) rfl hd239 (XS.dcmpS X228.here hx rfl (hb hby at_498) rfl rfl k))))))) ?_
    show OwnGo _ _ _ _ (T228.setTop (mkF m 499 #[sJ p0, uS, sJ p1, uS, sJ p2, uS, sI p3, sI (2 : Int32), sI y0, sI y1, sI y2, sI y3, sI y4, sI y5, sR a195, sR a196, sR a197, sR a198, sR a199, sR a195, sR a195, sR a195, sR a195, sI (3 : Int32), sI (0 : Int32), sI (1 : Int32), sI (2 : Int32), sD ro0_3z, uS, sD ro0_0z, uS, sD ro0_1z, uS, sD ro0_2z, uS, sJ v213, uS, sJ v216, uS, sJ v219, uS, sJ v222, uS, sJ v222, uS, sJ v223, uS, sJ v224, uS, sJ v226, uS, sJ wr, uS, sJ wi, uS, sJ v229, uS, sJ v230, uS, sJ v231, uS, sJ v233, uS] [(.int (cmpValue (FP.dcmp d238 d239) .l))]))
    have q499 : j238 = j231 := by simp only [hj238, hjro0_1z, hj231, hj213, hjwr, hj226, hj222, hj223, hj219]; exact own_eq2 jy0 jy2 jy4 jy1 jy3 jy5
    obtain ⟨j240, hj240⟩ : ∃ i : Int, i = (1 : Int) * jro0_2z := ⟨_, rfl⟩
    have B240 : -4398048608256 ≤ j240 ∧ j240 ≤ 4398048608256 := by rw [hj240]; exact own_bd_mul own_b1 Bjro0_2z (by decide)
    have Dq240 : OwnDS 0 j240 (FP.dmul (4611686018427387904 : UInt64) ro0_2z) := by rw [hj240]; have q := own_ds_mul (n := 53) own_two Hro0_2z (own_bd_nat (C := 4398048608256) (own_bd_mul own_b1 Bjro0_2z (by decide)) (by decide)); exact q
    obtain ⟨d240, hd240⟩ : ∃ v, FP.dmul (4611686018427387904 : UInt64) ro0_2z = v := ⟨_, rfl⟩
    have D240 : OwnDS 0 j240 d240 := by rw [← hd240]; exact Dq240
    obtain ⟨d241, hd241⟩ : ∃ v, FP.l2d v233 = v := ⟨_, rfl⟩
    have D241 : OwnDS 0 j233 d241 := by rw [← hd241]; exact own_l2db F233 B233 (by decide)
    refine OwnGo.pre (fun t k => XS.ifNo X228.here hx rfl (hb hby at_499) rfl ((own_brD .ne D238 D239 _).trans (decide_eq_false (fun q => q q499))) (own_ldcD X228 hx hown (mvT hZ (hw _ (List.mem_of_getElem? (i := 16) rfl))) rfl (hb hby at_502) (XS.dload X228.here hx rfl (hb hby at_505) rfl (XS.dmulS X228.here hx rfl (hb hby at_507) rfl (own_nn Dq240) hd240 (XT.lload X228.here hx rfl (hb hby at_508) rfl (XS.l2dS X228.here hx rfl (hb hby at_510) rfl hd241 (XS.dcmpS X228.here hx rfl (hb hby at_511) rfl rfl k))))))) ?_
    show OwnGo _ _ _ _ (T228.setTop (mkF m 512 #[sJ p0, uS, sJ p1, uS, sJ p2, uS, sI p3, sI (2 : Int32), sI y0, sI y1, sI y2, sI y3, sI y4, sI y5, sR a195, sR a196, sR a197, sR a198, sR a199, sR a195, sR a195, sR a195, sR a195, sI (3 : Int32), sI (0 : Int32), sI (1 : Int32), sI (2 : Int32), sD ro0_3z, uS, sD ro0_0z, uS, sD ro0_1z, uS, sD ro0_2z, uS, sJ v213, uS, sJ v216, uS, sJ v219, uS, sJ v222, uS, sJ v222, uS, sJ v223, uS, sJ v224, uS, sJ v226, uS, sJ wr, uS, sJ wi, uS, sJ v229, uS, sJ v230, uS, sJ v231, uS, sJ v233, uS] [(.int (cmpValue (FP.dcmp d240 d241) .l))]))
    have q512 : j240 = j233 := by simp only [hj240, hjro0_2z, hj233, hj232, hj216, hjwi, hj226, hj222, hj223, hj219]; exact own_eq3 jy4 jy2 jy0 jy5 jy1 jy3
    refine OwnGo.pre (fun t k => XS.ifNo X228.here hx rfl (hb hby at_512) rfl ((own_brD .ne D240 D241 _).trans (decide_eq_false (fun q => q q512))) (XS.iconst X228.here hx rfl (hb hby at_515) (XS.goto X228.here hx rfl (pc0 := 516) (pc' := 520) rfl (hb hby at_516) (by decide) (by decide) k))) ?_
    show OwnGo _ _ _ _ (T228.setTop (mkF m 520 #[sJ p0, uS, sJ p1, uS, sJ p2, uS, sI p3, sI (2 : Int32), sI y0, sI y1, sI y2, sI y3, sI y4, sI y5, sR a195, sR a196, sR a197, sR a198, sR a199, sR a195, sR a195, sR a195, sR a195, sI (3 : Int32), sI (0 : Int32), sI (1 : Int32), sI (2 : Int32), sD ro0_3z, uS, sD ro0_0z, uS, sD ro0_1z, uS, sD ro0_2z, uS, sJ v213, uS, sJ v216, uS, sJ v219, uS, sJ v222, uS, sJ v222, uS, sJ v223, uS, sJ v224, uS, sJ v226, uS, sJ wr, uS, sJ wi, uS, sJ v229, uS, sJ v230, uS, sJ v231, uS, sJ v233, uS] [(.int (1 : Int32))]))
    exact own_retZ X228 hx hk hrt (hb hby at_520) ⟨rfl, M228⟩ (by decide) (by decide)
  · skip
    show OwnGo _ _ _ _ (T100.setTop (mkF m 62 #[sJ p0, uS, sJ p1, uS, sJ p2, uS, sI p3, sI (3 : Int32), sI y0, sI y1, sI y2, sI y3, sI y4, sI y5, uU, uU, uU, uU, uU, uU, uU, uU, uU, uU, uU, uU, uU, uU, uU, uU, uU, uU, uU, uU, uU, uU, uU, uU, uU, uU, uU, uU, uU, uU, uU, uU, uU, uU, uU, uU, uU, uU, uU, uU, uU, uU, uU, uU, uU, uU, uU, uU, uU] [(.int (3 : Int32)), (.int (3 : Int32))]))
    refine OwnGo.pre (fun t k => XS.icmpNo X100.here hx rfl (hb hby at_62) rfl (by decide) (XS.iload X100.here hx rfl (hb hby at_65) rfl (XS.istore X100.here hx rfl (hb hby at_67) rfl (l' := #[sJ p0, uS, sJ p1, uS, sJ p2, uS, sI p3, sI (3 : Int32), sI y0, sI y1, sI y0, sI y3, sI y4, sI y5, uU, uU, uU, uU, uU, uU, uU, uU, uU, uU, uU, uU, uU, uU, uU, uU, uU, uU, uU, uU, uU, uU, uU, uU, uU, uU, uU, uU, uU, uU, uU, uU, uU, uU, uU, uU, uU, uU, uU, uU, uU, uU, uU, uU, uU, uU, uU, uU, uU]) rfl (XS.iload X100.here hx rfl (hb hby at_69) rfl (XS.istore X100.here hx rfl (hb hby at_71) rfl (l' := #[sJ p0, uS, sJ p1, uS, sJ p2, uS, sI p3, sI (3 : Int32), sI y0, sI y1, sI y0, sI y1, sI y4, sI y5, uU, uU, uU, uU, uU, uU, uU, uU, uU, uU, uU, uU, uU, uU, uU, uU, uU, uU, uU, uU, uU, uU, uU, uU, uU, uU, uU, uU, uU, uU, uU, uU, uU, uU, uU, uU, uU, uU, uU, uU, uU, uU, uU, uU, uU, uU, uU, uU, uU]) rfl (XS.iconst X100.here hx rfl (hb hby at_73) k)))))) ?_
    show OwnGo _ _ _ _ (T100.setTop (mkF m 74 #[sJ p0, uS, sJ p1, uS, sJ p2, uS, sI p3, sI (3 : Int32), sI y0, sI y1, sI y0, sI y1, sI y4, sI y5, uU, uU, uU, uU, uU, uU, uU, uU, uU, uU, uU, uU, uU, uU, uU, uU, uU, uU, uU, uU, uU, uU, uU, uU, uU, uU, uU, uU, uU, uU, uU, uU, uU, uU, uU, uU, uU, uU, uU, uU, uU, uU, uU, uU, uU, uU, uU, uU, uU] [(.int (4 : Int32))]))
    obtain ⟨T242, h242, X242, e242, E242, A242, st242⟩ := own_newD X100 hx hZ (hw _ (List.mem_of_getElem? (i := 4) rfl)) e100 (g := (mkF m 74 #[sJ p0, uS, sJ p1, uS, sJ p2, uS, sI p3, sI (3 : Int32), sI y0, sI y1, sI y0, sI y1, sI y4, sI y5, uU, uU, uU, uU, uU, uU, uU, uU, uU, uU, uU, uU, uU, uU, uU, uU, uU, uU, uU, uU, uU, uU, uU, uU, uU, uU, uU, uU, uU, uU, uU, uU, uU, uU, uU, uU, uU, uU, uU, uU, uU, uU, uU, uU, uU, uU, uU, uU, uU] [(.int (4 : Int32))])) rfl (hb hby at_74) rfl (by decide) (n := 4) (by decide) (by decide) (by decide) (by decide)
    obtain ⟨a242, g242⟩ : ∃ z, z = h0.size := ⟨_, rfl⟩
    rw [← g242] at A242 st242
    have G242 : n0 ≤ a242 := Nat.le_trans Z0 (Nat.le_of_eq g242.symm)
    have Z242 : n0 ≤ h242.size := Nat.le_trans Z0 E242.1
    have A242n : OwnDA Z h242 a242 [0, 0, 0, 0] := A242
    refine OwnGo.pre (fun t k => st242 t k) ?_
    show OwnGo _ _ _ _ (T242.setTop (mkF m 76 #[sJ p0, uS, sJ p1, uS, sJ p2, uS, sI p3, sI (3 : Int32), sI y0, sI y1, sI y0, sI y1, sI y4, sI y5, uU, uU, uU, uU, uU, uU, uU, uU, uU, uU, uU, uU, uU, uU, uU, uU, uU, uU, uU, uU, uU, uU, uU, uU, uU, uU, uU, uU, uU, uU, uU, uU, uU, uU, uU, uU, uU, uU, uU, uU, uU, uU, uU, uU, uU, uU, uU, uU, uU] [(.ref a242)]))
    refine OwnGo.pre (fun t k => XS.astore X242.here hx rfl (hb hby at_76) rfl rfl (l' := #[sJ p0, uS, sJ p1, uS, sJ p2, uS, sI p3, sI (3 : Int32), sI y0, sI y1, sI y0, sI y1, sI y4, sI y5, sR a242, uU, uU, uU, uU, uU, uU, uU, uU, uU, uU, uU, uU, uU, uU, uU, uU, uU, uU, uU, uU, uU, uU, uU, uU, uU, uU, uU, uU, uU, uU, uU, uU, uU, uU, uU, uU, uU, uU, uU, uU, uU, uU, uU, uU, uU, uU, uU, uU]) rfl (XS.iconst X242.here hx rfl (hb hby at_78) k)) ?_
    show OwnGo _ _ _ _ (T242.setTop (mkF m 79 #[sJ p0, uS, sJ p1, uS, sJ p2, uS, sI p3, sI (3 : Int32), sI y0, sI y1, sI y0, sI y1, sI y4, sI y5, sR a242, uU, uU, uU, uU, uU, uU, uU, uU, uU, uU, uU, uU, uU, uU, uU, uU, uU, uU, uU, uU, uU, uU, uU, uU, uU, uU, uU, uU, uU, uU, uU, uU, uU, uU, uU, uU, uU, uU, uU, uU, uU, uU, uU, uU, uU, uU, uU, uU] [(.int (1 : Int32))]))
    obtain ⟨T243, h243, X243, e243, E243, A243, st243⟩ := own_newD X242 hx hZ (hw _ (List.mem_of_getElem? (i := 4) rfl)) e242 (g := (mkF m 79 #[sJ p0, uS, sJ p1, uS, sJ p2, uS, sI p3, sI (3 : Int32), sI y0, sI y1, sI y0, sI y1, sI y4, sI y5, sR a242, uU, uU, uU, uU, uU, uU, uU, uU, uU, uU, uU, uU, uU, uU, uU, uU, uU, uU, uU, uU, uU, uU, uU, uU, uU, uU, uU, uU, uU, uU, uU, uU, uU, uU, uU, uU, uU, uU, uU, uU, uU, uU, uU, uU, uU, uU, uU, uU] [(.int (1 : Int32))])) rfl (hb hby at_79) rfl (by decide) (n := 1) (by decide) (by decide) (by decide) (by decide)
    obtain ⟨a243, g243⟩ : ∃ z, z = h242.size := ⟨_, rfl⟩
    rw [← g243] at A243 st243
    have G243 : n0 ≤ a243 := Nat.le_trans Z242 (Nat.le_of_eq g243.symm)
    have Z243 : n0 ≤ h243.size := Nat.le_trans Z242 E243.1
    have A243n : OwnDA Z h243 a243 [0] := A243
    have nea242_243 : a242 ≠ a243 := (Nat.ne_of_lt (Nat.lt_of_lt_of_le A242n.lt (Nat.le_of_eq g243.symm)))
    have A243_a242 := A242n.ex E243
    refine OwnGo.pre (fun t k => st243 t k) ?_
    show OwnGo _ _ _ _ (T243.setTop (mkF m 81 #[sJ p0, uS, sJ p1, uS, sJ p2, uS, sI p3, sI (3 : Int32), sI y0, sI y1, sI y0, sI y1, sI y4, sI y5, sR a242, uU, uU, uU, uU, uU, uU, uU, uU, uU, uU, uU, uU, uU, uU, uU, uU, uU, uU, uU, uU, uU, uU, uU, uU, uU, uU, uU, uU, uU, uU, uU, uU, uU, uU, uU, uU, uU, uU, uU, uU, uU, uU, uU, uU, uU, uU, uU, uU] [(.ref a243)]))
    refine OwnGo.pre (fun t k => XS.astore X243.here hx rfl (hb hby at_81) rfl rfl (l' := #[sJ p0, uS, sJ p1, uS, sJ p2, uS, sI p3, sI (3 : Int32), sI y0, sI y1, sI y0, sI y1, sI y4, sI y5, sR a242, sR a243, uU, uU, uU, uU, uU, uU, uU, uU, uU, uU, uU, uU, uU, uU, uU, uU, uU, uU, uU, uU, uU, uU, uU, uU, uU, uU, uU, uU, uU, uU, uU, uU, uU, uU, uU, uU, uU, uU, uU, uU, uU, uU, uU, uU, uU, uU, uU]) rfl (XS.iconst X243.here hx rfl (hb hby at_83) k)) ?_
    show OwnGo _ _ _ _ (T243.setTop (mkF m 84 #[sJ p0, uS, sJ p1, uS, sJ p2, uS, sI p3, sI (3 : Int32), sI y0, sI y1, sI y0, sI y1, sI y4, sI y5, sR a242, sR a243, uU, uU, uU, uU, uU, uU, uU, uU, uU, uU, uU, uU, uU, uU, uU, uU, uU, uU, uU, uU, uU, uU, uU, uU, uU, uU, uU, uU, uU, uU, uU, uU, uU, uU, uU, uU, uU, uU, uU, uU, uU, uU, uU, uU, uU, uU, uU] [(.int (1 : Int32))]))
    obtain ⟨T244, h244, X244, e244, E244, A244, st244⟩ := own_newD X243 hx hZ (hw _ (List.mem_of_getElem? (i := 4) rfl)) e243 (g := (mkF m 84 #[sJ p0, uS, sJ p1, uS, sJ p2, uS, sI p3, sI (3 : Int32), sI y0, sI y1, sI y0, sI y1, sI y4, sI y5, sR a242, sR a243, uU, uU, uU, uU, uU, uU, uU, uU, uU, uU, uU, uU, uU, uU, uU, uU, uU, uU, uU, uU, uU, uU, uU, uU, uU, uU, uU, uU, uU, uU, uU, uU, uU, uU, uU, uU, uU, uU, uU, uU, uU, uU, uU, uU, uU, uU, uU] [(.int (1 : Int32))])) rfl (hb hby at_84) rfl (by decide) (n := 1) (by decide) (by decide) (by decide) (by decide)
    obtain ⟨a244, g244⟩ : ∃ z, z = h243.size := ⟨_, rfl⟩
    rw [← g244] at A244 st244
    have G244 : n0 ≤ a244 := Nat.le_trans Z243 (Nat.le_of_eq g244.symm)
    have Z244 : n0 ≤ h244.size := Nat.le_trans Z243 E244.1
    have A244n : OwnDA Z h244 a244 [0] := A244
    have nea242_244 : a242 ≠ a244 := (Nat.ne_of_lt (Nat.lt_of_lt_of_le A243_a242.lt (Nat.le_of_eq g244.symm)))
    have A244_a242 := A243_a242.ex E244
    have nea243_244 : a243 ≠ a244 := (Nat.ne_of_lt (Nat.lt_of_lt_of_le A243n.lt (Nat.le_of_eq g244.symm)))
    have A244_a243 := A243n.ex E244
    refine OwnGo.pre (fun t k => st244 t k) ?_
    show OwnGo _ _ _ _ (T244.setTop (mkF m 86 #[sJ p0, uS, sJ p1, uS, sJ p2, uS, sI p3, sI (3 : Int32), sI y0, sI y1, sI y0, sI y1, sI y4, sI y5, sR a242, sR a243, uU, uU, uU, uU, uU, uU, uU, uU, uU, uU, uU, uU, uU, uU, uU, uU, uU, uU, uU, uU, uU, uU, uU, uU, uU, uU, uU, uU, uU, uU, uU, uU, uU, uU, uU, uU, uU, uU, uU, uU, uU, uU, uU, uU, uU, uU, uU] [(.ref a244)]))
    refine OwnGo.pre (fun t k => XS.astore X244.here hx rfl (hb hby at_86) rfl rfl (l' := #[sJ p0, uS, sJ p1, uS, sJ p2, uS, sI p3, sI (3 : Int32), sI y0, sI y1, sI y0, sI y1, sI y4, sI y5, sR a242, sR a243, sR a244, uU, uU, uU, uU, uU, uU, uU, uU, uU, uU, uU, uU, uU, uU, uU, uU, uU, uU, uU, uU, uU, uU, uU, uU, uU, uU, uU, uU, uU, uU, uU, uU, uU, uU, uU, uU, uU, uU, uU, uU, uU, uU, uU, uU, uU, uU]) rfl (XS.iconst X244.here hx rfl (hb hby at_88) k)) ?_
    show OwnGo _ _ _ _ (T244.setTop (mkF m 89 #[sJ p0, uS, sJ p1, uS, sJ p2, uS, sI p3, sI (3 : Int32), sI y0, sI y1, sI y0, sI y1, sI y4, sI y5, sR a242, sR a243, sR a244, uU, uU, uU, uU, uU, uU, uU, uU, uU, uU, uU, uU, uU, uU, uU, uU, uU, uU, uU, uU, uU, uU, uU, uU, uU, uU, uU, uU, uU, uU, uU, uU, uU, uU, uU, uU, uU, uU, uU, uU, uU, uU, uU, uU, uU, uU] [(.int (1 : Int32))]))
    obtain ⟨T245, h245, X245, e245, E245, A245, st245⟩ := own_newD X244 hx hZ (hw _ (List.mem_of_getElem? (i := 4) rfl)) e244 (g := (mkF m 89 #[sJ p0, uS, sJ p1, uS, sJ p2, uS, sI p3, sI (3 : Int32), sI y0, sI y1, sI y0, sI y1, sI y4, sI y5, sR a242, sR a243, sR a244, uU, uU, uU, uU, uU, uU, uU, uU, uU, uU, uU, uU, uU, uU, uU, uU, uU, uU, uU, uU, uU, uU, uU, uU, uU, uU, uU, uU, uU, uU, uU, uU, uU, uU, uU, uU, uU, uU, uU, uU, uU, uU, uU, uU, uU, uU] [(.int (1 : Int32))])) rfl (hb hby at_89) rfl (by decide) (n := 1) (by decide) (by decide) (by decide) (by decide)
    obtain ⟨a245, g245⟩ : ∃ z, z = h244.size := ⟨_, rfl⟩
    rw [← g245] at A245 st245
    have G245 : n0 ≤ a245 := Nat.le_trans Z244 (Nat.le_of_eq g245.symm)
    have Z245 : n0 ≤ h245.size := Nat.le_trans Z244 E245.1
    have A245n : OwnDA Z h245 a245 [0] := A245
    have nea242_245 : a242 ≠ a245 := (Nat.ne_of_lt (Nat.lt_of_lt_of_le A244_a242.lt (Nat.le_of_eq g245.symm)))
    have A245_a242 := A244_a242.ex E245
    have nea243_245 : a243 ≠ a245 := (Nat.ne_of_lt (Nat.lt_of_lt_of_le A244_a243.lt (Nat.le_of_eq g245.symm)))
    have A245_a243 := A244_a243.ex E245
    have nea244_245 : a244 ≠ a245 := (Nat.ne_of_lt (Nat.lt_of_lt_of_le A244n.lt (Nat.le_of_eq g245.symm)))
    have A245_a244 := A244n.ex E245
    refine OwnGo.pre (fun t k => st245 t k) ?_
    show OwnGo _ _ _ _ (T245.setTop (mkF m 91 #[sJ p0, uS, sJ p1, uS, sJ p2, uS, sI p3, sI (3 : Int32), sI y0, sI y1, sI y0, sI y1, sI y4, sI y5, sR a242, sR a243, sR a244, uU, uU, uU, uU, uU, uU, uU, uU, uU, uU, uU, uU, uU, uU, uU, uU, uU, uU, uU, uU, uU, uU, uU, uU, uU, uU, uU, uU, uU, uU, uU, uU, uU, uU, uU, uU, uU, uU, uU, uU, uU, uU, uU, uU, uU, uU] [(.ref a245)]))
    refine OwnGo.pre (fun t k => XS.astore X245.here hx rfl (hb hby at_91) rfl rfl (l' := #[sJ p0, uS, sJ p1, uS, sJ p2, uS, sI p3, sI (3 : Int32), sI y0, sI y1, sI y0, sI y1, sI y4, sI y5, sR a242, sR a243, sR a244, sR a245, uU, uU, uU, uU, uU, uU, uU, uU, uU, uU, uU, uU, uU, uU, uU, uU, uU, uU, uU, uU, uU, uU, uU, uU, uU, uU, uU, uU, uU, uU, uU, uU, uU, uU, uU, uU, uU, uU, uU, uU, uU, uU, uU, uU, uU]) rfl (XS.iconst X245.here hx rfl (hb hby at_93) k)) ?_
    show OwnGo _ _ _ _ (T245.setTop (mkF m 94 #[sJ p0, uS, sJ p1, uS, sJ p2, uS, sI p3, sI (3 : Int32), sI y0, sI y1, sI y0, sI y1, sI y4, sI y5, sR a242, sR a243, sR a244, sR a245, uU, uU, uU, uU, uU, uU, uU, uU, uU, uU, uU, uU, uU, uU, uU, uU, uU, uU, uU, uU, uU, uU, uU, uU, uU, uU, uU, uU, uU, uU, uU, uU, uU, uU, uU, uU, uU, uU, uU, uU, uU, uU, uU, uU, uU] [(.int (1 : Int32))]))
    obtain ⟨T246, h246, X246, e246, E246, A246, st246⟩ := own_newD X245 hx hZ (hw _ (List.mem_of_getElem? (i := 4) rfl)) e245 (g := (mkF m 94 #[sJ p0, uS, sJ p1, uS, sJ p2, uS, sI p3, sI (3 : Int32), sI y0, sI y1, sI y0, sI y1, sI y4, sI y5, sR a242, sR a243, sR a244, sR a245, uU, uU, uU, uU, uU, uU, uU, uU, uU, uU, uU, uU, uU, uU, uU, uU, uU, uU, uU, uU, uU, uU, uU, uU, uU, uU, uU, uU, uU, uU, uU, uU, uU, uU, uU, uU, uU, uU, uU, uU, uU, uU, uU, uU, uU] [(.int (1 : Int32))])) rfl (hb hby at_94) rfl (by decide) (n := 1) (by decide) (by decide) (by decide) (by decide)
    obtain ⟨a246, g246⟩ : ∃ z, z = h245.size := ⟨_, rfl⟩
    rw [← g246] at A246 st246
    have G246 : n0 ≤ a246 := Nat.le_trans Z245 (Nat.le_of_eq g246.symm)
    have Z246 : n0 ≤ h246.size := Nat.le_trans Z245 E246.1
    have A246n : OwnDA Z h246 a246 [0] := A246
    have nea242_246 : a242 ≠ a246 := (Nat.ne_of_lt (Nat.lt_of_lt_of_le A245_a242.lt (Nat.le_of_eq g246.symm)))
    have A246_a242 := A245_a242.ex E246
    have nea243_246 : a243 ≠ a246 := (Nat.ne_of_lt (Nat.lt_of_lt_of_le A245_a243.lt (Nat.le_of_eq g246.symm)))
    have A246_a243 := A245_a243.ex E246
    have nea244_246 : a244 ≠ a246 := (Nat.ne_of_lt (Nat.lt_of_lt_of_le A245_a244.lt (Nat.le_of_eq g246.symm)))
    have A246_a244 := A245_a244.ex E246
    have nea245_246 : a245 ≠ a246 := (Nat.ne_of_lt (Nat.lt_of_lt_of_le A245n.lt (Nat.le_of_eq g246.symm)))
    have A246_a245 := A245n.ex E246
    refine OwnGo.pre (fun t k => st246 t k) ?_
    show OwnGo _ _ _ _ (T246.setTop (mkF m 96 #[sJ p0, uS, sJ p1, uS, sJ p2, uS, sI p3, sI (3 : Int32), sI y0, sI y1, sI y0, sI y1, sI y4, sI y5, sR a242, sR a243, sR a244, sR a245, uU, uU, uU, uU, uU, uU, uU, uU, uU, uU, uU, uU, uU, uU, uU, uU, uU, uU, uU, uU, uU, uU, uU, uU, uU, uU, uU, uU, uU, uU, uU, uU, uU, uU, uU, uU, uU, uU, uU, uU, uU, uU, uU, uU, uU] [(.ref a246)]))
    refine OwnGo.pre (fun t k => XS.astore X246.here hx rfl (hb hby at_96) rfl rfl (l' := #[sJ p0, uS, sJ p1, uS, sJ p2, uS, sI p3, sI (3 : Int32), sI y0, sI y1, sI y0, sI y1, sI y4, sI y5, sR a242, sR a243, sR a244, sR a245, sR a246, uU, uU, uU, uU, uU, uU, uU, uU, uU, uU, uU, uU, uU, uU, uU, uU, uU, uU, uU, uU, uU, uU, uU, uU, uU, uU, uU, uU, uU, uU, uU, uU, uU, uU, uU, uU, uU, uU, uU, uU, uU, uU, uU, uU]) rfl (XS.aload X246.here hx rfl (hb hby at_98) rfl rfl (XS.astore X246.here hx rfl (hb hby at_100) rfl rfl (l' := #[sJ p0, uS, sJ p1, uS, sJ p2, uS, sI p3, sI (3 : Int32), sI y0, sI y1, sI y0, sI y1, sI y4, sI y5, sR a242, sR a243, sR a244, sR a245, sR a246, sR a242, uU, uU, uU, uU, uU, uU, uU, uU, uU, uU, uU, uU, uU, uU, uU, uU, uU, uU, uU, uU, uU, uU, uU, uU, uU, uU, uU, uU, uU, uU, uU, uU, uU, uU, uU, uU, uU, uU, uU, uU, uU, uU, uU]) rfl (XS.aload X246.here hx rfl (hb hby at_102) rfl rfl (XS.astore X246.here hx rfl (hb hby at_104) rfl rfl (l' := #[sJ p0, uS, sJ p1, uS, sJ p2, uS, sI p3, sI (3 : Int32), sI y0, sI y1, sI y0, sI y1, sI y4, sI y5, sR a242, sR a243, sR a244, sR a245, sR a246, sR a242, sR a242, uU, uU, uU, uU, uU, uU, uU, uU, uU, uU, uU, uU, uU, uU, uU, uU, uU, uU, uU, uU, uU, uU, uU, uU, uU, uU, uU, uU, uU, uU, uU, uU, uU, uU, uU, uU, uU, uU, uU, uU, uU, uU]) rfl (XS.aload X246.here hx rfl (hb hby at_106) rfl rfl (XS.astore X246.here hx rfl (hb hby at_108) rfl rfl (l' := #[sJ p0, uS, sJ p1, uS, sJ p2, uS, sI p3, sI (3 : Int32), sI y0, sI y1, sI y0, sI y1, sI y4, sI y5, sR a242, sR a243, sR a244, sR a245, sR a246, sR a242, sR a242, sR a242, uU, uU, uU, uU, uU, uU, uU, uU, uU, uU, uU, uU, uU, uU, uU, uU, uU, uU, uU, uU, uU, uU, uU, uU, uU, uU, uU, uU, uU, uU, uU, uU, uU, uU, uU, uU, uU, uU, uU, uU, uU]) rfl (XS.aload X246.here hx rfl (hb hby at_110) rfl rfl k)))))))) ?_
    show OwnGo _ _ _ _ (T246.setTop (mkF m 112 #[sJ p0, uS, sJ p1, uS, sJ p2, uS, sI p3, sI (3 : Int32), sI y0, sI y1, sI y0, sI y1, sI y4, sI y5, sR a242, sR a243, sR a244, sR a245, sR a246, sR a242, sR a242, sR a242, uU, uU, uU, uU, uU, uU, uU, uU, uU, uU, uU, uU, uU, uU, uU, uU, uU, uU, uU, uU, uU, uU, uU, uU, uU, uU, uU, uU, uU, uU, uU, uU, uU, uU, uU, uU, uU, uU, uU, uU, uU] [(.ref a242)]))
    refine OwnGo.pre (fun t k => XS.astore X246.here hx rfl (hb hby at_112) rfl rfl (l' := #[sJ p0, uS, sJ p1, uS, sJ p2, uS, sI p3, sI (3 : Int32), sI y0, sI y1, sI y0, sI y1, sI y4, sI y5, sR a242, sR a243, sR a244, sR a245, sR a246, sR a242, sR a242, sR a242, sR a242, uU, uU, uU, uU, uU, uU, uU, uU, uU, uU, uU, uU, uU, uU, uU, uU, uU, uU, uU, uU, uU, uU, uU, uU, uU, uU, uU, uU, uU, uU, uU, uU, uU, uU, uU, uU, uU, uU, uU, uU]) rfl (XS.iconst X246.here hx rfl (hb hby at_114) (XS.istore X246.here hx rfl (hb hby at_115) rfl (l' := #[sJ p0, uS, sJ p1, uS, sJ p2, uS, sI p3, sI (3 : Int32), sI y0, sI y1, sI y0, sI y1, sI y4, sI y5, sR a242, sR a243, sR a244, sR a245, sR a246, sR a242, sR a242, sR a242, sR a242, sI (0 : Int32), uU, uU, uU, uU, uU, uU, uU, uU, uU, uU, uU, uU, uU, uU, uU, uU, uU, uU, uU, uU, uU, uU, uU, uU, uU, uU, uU, uU, uU, uU, uU, uU, uU, uU, uU, uU, uU, uU, uU]) rfl (XS.iconst X246.here hx rfl (hb hby at_117) (XS.istore X246.here hx rfl (hb hby at_118) rfl (l' := #[sJ p0, uS, sJ p1, uS, sJ p2, uS, sI p3, sI (3 : Int32), sI y0, sI y1, sI y0, sI y1, sI y4, sI y5, sR a242, sR a243, sR a244, sR a245, sR a246, sR a242, sR a242, sR a242, sR a242, sI (0 : Int32), sI (1 : Int32), uU, uU, uU, uU, uU, uU, uU, uU, uU, uU, uU, uU, uU, uU, uU, uU, uU, uU, uU, uU, uU, uU, uU, uU, uU, uU, uU, uU, uU, uU, uU, uU, uU, uU, uU, uU, uU, uU]) rfl (XS.iconst X246.here hx rfl (hb hby at_120) (XS.istore X246.here hx rfl (hb hby at_121) rfl (l' := #[sJ p0, uS, sJ p1, uS, sJ p2, uS, sI p3, sI (3 : Int32), sI y0, sI y1, sI y0, sI y1, sI y4, sI y5, sR a242, sR a243, sR a244, sR a245, sR a246, sR a242, sR a242, sR a242, sR a242, sI (0 : Int32), sI (1 : Int32), sI (0 : Int32), uU, uU, uU, uU, uU, uU, uU, uU, uU, uU, uU, uU, uU, uU, uU, uU, uU, uU, uU, uU, uU, uU, uU, uU, uU, uU, uU, uU, uU, uU, uU, uU, uU, uU, uU, uU, uU]) rfl (XS.iconst X246.here hx rfl (hb hby at_123) k)))))))) ?_
    show OwnGo _ _ _ _ (T246.setTop (mkF m 124 #[sJ p0, uS, sJ p1, uS, sJ p2, uS, sI p3, sI (3 : Int32), sI y0, sI y1, sI y0, sI y1, sI y4, sI y5, sR a242, sR a243, sR a244, sR a245, sR a246, sR a242, sR a242, sR a242, sR a242, sI (0 : Int32), sI (1 : Int32), sI (0 : Int32), uU, uU, uU, uU, uU, uU, uU, uU, uU, uU, uU, uU, uU, uU, uU, uU, uU, uU, uU, uU, uU, uU, uU, uU, uU, uU, uU, uU, uU, uU, uU, uU, uU, uU, uU, uU, uU] [(.int (1 : Int32))]))
    refine OwnGo.pre (fun t k => XS.istore X246.here hx rfl (hb hby at_124) rfl (l' := #[sJ p0, uS, sJ p1, uS, sJ p2, uS, sI p3, sI (3 : Int32), sI y0, sI y1, sI y0, sI y1, sI y4, sI y5, sR a242, sR a243, sR a244, sR a245, sR a246, sR a242, sR a242, sR a242, sR a242, sI (0 : Int32), sI (1 : Int32), sI (0 : Int32), sI (1 : Int32), uU, uU, uU, uU, uU, uU, uU, uU, uU, uU, uU, uU, uU, uU, uU, uU, uU, uU, uU, uU, uU, uU, uU, uU, uU, uU, uU, uU, uU, uU, uU, uU, uU, uU, uU, uU]) rfl (XS.iload X246.here hx rfl (hb hby at_126) rfl (XS.ifYes X246.here hx rfl (pc0 := 128) (pc' := 156) rfl (hb hby at_128) rfl (by decide) (by decide) (by decide) (XS.iload X246.here hx rfl (hb hby at_156) rfl (XS.iconst X246.here hx rfl (hb hby at_158) (XS.icmpYes X246.here hx rfl (pc0 := 159) (pc' := 177) rfl (hb hby at_159) rfl (by decide) (by decide) (by decide) (XS.iload X246.here hx rfl (hb hby at_177) rfl (XS.iconst X246.here hx rfl (hb hby at_179) k)))))))) ?_
    show OwnGo _ _ _ _ (T246.setTop (mkF m 180 #[sJ p0, uS, sJ p1, uS, sJ p2, uS, sI p3, sI (3 : Int32), sI y0, sI y1, sI y0, sI y1, sI y4, sI y5, sR a242, sR a243, sR a244, sR a245, sR a246, sR a242, sR a242, sR a242, sR a242, sI (0 : Int32), sI (1 : Int32), sI (0 : Int32), sI (1 : Int32), uU, uU, uU, uU, uU, uU, uU, uU, uU, uU, uU, uU, uU, uU, uU, uU, uU, uU, uU, uU, uU, uU, uU, uU, uU, uU, uU, uU, uU, uU, uU, uU, uU, uU, uU, uU] [(.int (2 : Int32)), (.int (3 : Int32))]))
    obtain ⟨d247, hd247⟩ : ∃ v, FP.i2d y0 = v := ⟨_, rfl⟩
    have D247 : OwnDS 0 jy0 d247 := by rw [← hd247, ← Fy0]; exact own_i2d _
    refine OwnGo.pre (fun t k => XS.icmpYes X246.here hx rfl (pc0 := 180) (pc' := 195) rfl (hb hby at_180) rfl (by decide) (by decide) (by decide) (XS.aload X246.here hx rfl (hb hby at_195) rfl rfl (XS.iload X246.here hx rfl (hb hby at_197) rfl (XS.iload X246.here hx rfl (hb hby at_199) rfl (XS.i2dS X246.here hx rfl (hb hby at_201) rfl hd247 k))))) ?_
    show OwnGo _ _ _ _ (T246.setTop (mkF m 202 #[sJ p0, uS, sJ p1, uS, sJ p2, uS, sI p3, sI (3 : Int32), sI y0, sI y1, sI y0, sI y1, sI y4, sI y5, sR a242, sR a243, sR a244, sR a245, sR a246, sR a242, sR a242, sR a242, sR a242, sI (0 : Int32), sI (1 : Int32), sI (0 : Int32), sI (1 : Int32), uU, uU, uU, uU, uU, uU, uU, uU, uU, uU, uU, uU, uU, uU, uU, uU, uU, uU, uU, uU, uU, uU, uU, uU, uU, uU, uU, uU, uU, uU, uU, uU, uU, uU, uU, uU] [(.double d247), (.int (0 : Int32)), (.ref a242)]))
    obtain ⟨T248, h248, X248, e248, W248, A248, st248⟩ := own_daS X246 hx hZ e246 A246_a242 (by decide) (i := 0) (by decide) (by show 0 < 4; decide) (g := (mkF m 202 #[sJ p0, uS, sJ p1, uS, sJ p2, uS, sI p3, sI (3 : Int32), sI y0, sI y1, sI y0, sI y1, sI y4, sI y5, sR a242, sR a243, sR a244, sR a245, sR a246, sR a242, sR a242, sR a242, sR a242, sI (0 : Int32), sI (1 : Int32), sI (0 : Int32), sI (1 : Int32), uU, uU, uU, uU, uU, uU, uU, uU, uU, uU, uU, uU, uU, uU, uU, uU, uU, uU, uU, uU, uU, uU, uU, uU, uU, uU, uU, uU, uU, uU, uU, uU, uU, uU, uU, uU] [(.double d247), (.int (0 : Int32)), (.ref a242)])) rfl rfl (hb hby at_202)
    have A248n : OwnDA Z h248 a242 [d247, 0, 0, 0] := A248
    have A248_a243 := A246_a243.ot W248 nea242_243.symm
    have A248_a244 := A246_a244.ot W248 nea242_244.symm
    have A248_a245 := A246_a245.ot W248 nea242_245.symm
    have A248_a246 := A246n.ot W248 nea242_246.symm
    have N248 := Fr.snoc X248 M100 G242
    have Z248 : n0 ≤ h248.size := by rw [W248.size]; exact Z246
    refine OwnGo.pre (fun t k => st248 t k) ?_
    show OwnGo _ _ _ _ (T248.setTop (mkF m 203 #[sJ p0, uS, sJ p1, uS, sJ p2, uS, sI p3, sI (3 : Int32), sI y0, sI y1, sI y0, sI y1, sI y4, sI y5, sR a242, sR a243, sR a244, sR a245, sR a246, sR a242, sR a242, sR a242, sR a242, sI (0 : Int32), sI (1 : Int32), sI (0 : Int32), sI (1 : Int32), uU, uU, uU, uU, uU, uU, uU, uU, uU, uU, uU, uU, uU, uU, uU, uU, uU, uU, uU, uU, uU, uU, uU, uU, uU, uU, uU, uU, uU, uU, uU, uU, uU, uU, uU, uU] []))
    obtain ⟨d249, hd249⟩ : ∃ v, FP.i2d y1 = v := ⟨_, rfl⟩
    have D249 : OwnDS 0 jy1 d249 := by rw [← hd249, ← Fy1]; exact own_i2d _
    refine OwnGo.pre (fun t k => XS.aload X248.here hx rfl (hb hby at_203) rfl rfl (XS.iload X248.here hx rfl (hb hby at_205) rfl (XS.iload X248.here hx rfl (hb hby at_207) rfl (XS.i2dS X248.here hx rfl (hb hby at_209) rfl hd249 k)))) ?_
    show OwnGo _ _ _ _ (T248.setTop (mkF m 210 #[sJ p0, uS, sJ p1, uS, sJ p2, uS, sI p3, sI (3 : Int32), sI y0, sI y1, sI y0, sI y1, sI y4, sI y5, sR a242, sR a243, sR a244, sR a245, sR a246, sR a242, sR a242, sR a242, sR a242, sI (0 : Int32), sI (1 : Int32), sI (0 : Int32), sI (1 : Int32), uU, uU, uU, uU, uU, uU, uU, uU, uU, uU, uU, uU, uU, uU, uU, uU, uU, uU, uU, uU, uU, uU, uU, uU, uU, uU, uU, uU, uU, uU, uU, uU, uU, uU, uU, uU] [(.double d249), (.int (1 : Int32)), (.ref a242)]))
    obtain ⟨T250, h250, X250, e250, W250, A250, st250⟩ := own_daS X248 hx hZ e248 A248n (by decide) (i := 1) (by decide) (by show 1 < 4; decide) (g := (mkF m 210 #[sJ p0, uS, sJ p1, uS, sJ p2, uS, sI p3, sI (3 : Int32), sI y0, sI y1, sI y0, sI y1, sI y4, sI y5, sR a242, sR a243, sR a244, sR a245, sR a246, sR a242, sR a242, sR a242, sR a242, sI (0 : Int32), sI (1 : Int32), sI (0 : Int32), sI (1 : Int32), uU, uU, uU, uU, uU, uU, uU, uU, uU, uU, uU, uU, uU, uU, uU, uU, uU, uU, uU, uU, uU, uU, uU, uU, uU, uU, uU, uU, uU, uU, uU, uU, uU, uU, uU, uU] [(.double d249), (.int (1 : Int32)), (.ref a242)])) rfl rfl (hb hby at_210)
    have A250n : OwnDA Z h250 a242 [d247, d249, 0, 0] := A250
    have A250_a243 := A248_a243.ot W250 nea242_243.symm
    have A250_a244 := A248_a244.ot W250 nea242_244.symm
    have A250_a245 := A248_a245.ot W250 nea242_245.symm
    have A250_a246 := A248_a246.ot W250 nea242_246.symm
    have N250 := Fr.snoc X250 N248 G242
    have Z250 : n0 ≤ h250.size := by rw [W250.size]; exact Z248
    refine OwnGo.pre (fun t k => st250 t k) ?_
    show OwnGo _ _ _ _ (T250.setTop (mkF m 211 #[sJ p0, uS, sJ p1, uS, sJ p2, uS, sI p3, sI (3 : Int32), sI y0, sI y1, sI y0, sI y1, sI y4, sI y5, sR a242, sR a243, sR a244, sR a245, sR a246, sR a242, sR a242, sR a242, sR a242, sI (0 : Int32), sI (1 : Int32), sI (0 : Int32), sI (1 : Int32), uU, uU, uU, uU, uU, uU, uU, uU, uU, uU, uU, uU, uU, uU, uU, uU, uU, uU, uU, uU, uU, uU, uU, uU, uU, uU, uU, uU, uU, uU, uU, uU, uU, uU, uU, uU] []))
    obtain ⟨d251, hd251⟩ : ∃ v, FP.i2d y0 = v := ⟨_, rfl⟩
    have D251 : OwnDS 0 jy0 d251 := by rw [← hd251, ← Fy0]; exact own_i2d _
    refine OwnGo.pre (fun t k => XS.aload X250.here hx rfl (hb hby at_211) rfl rfl (XS.iload X250.here hx rfl (hb hby at_213) rfl (XS.iload X250.here hx rfl (hb hby at_215) rfl (XS.i2dS X250.here hx rfl (hb hby at_217) rfl hd251 k)))) ?_
    show OwnGo _ _ _ _ (T250.setTop (mkF m 218 #[sJ p0, uS, sJ p1, uS, sJ p2, uS, sI p3, sI (3 : Int32), sI y0, sI y1, sI y0, sI y1, sI y4, sI y5, sR a242, sR a243, sR a244, sR a245, sR a246, sR a242, sR a242, sR a242, sR a242, sI (0 : Int32), sI (1 : Int32), sI (0 : Int32), sI (1 : Int32), uU, uU, uU, uU, uU, uU, uU, uU, uU, uU, uU, uU, uU, uU, uU, uU, uU, uU, uU, uU, uU, uU, uU, uU, uU, uU, uU, uU, uU, uU, uU, uU, uU, uU, uU, uU] [(.double d251), (.int (0 : Int32)), (.ref a242)]))
    obtain ⟨T252, h252, X252, e252, W252, A252, st252⟩ := own_daS X250 hx hZ e250 A250n (by decide) (i := 0) (by decide) (by show 0 < 4; decide) (g := (mkF m 218 #[sJ p0, uS, sJ p1, uS, sJ p2, uS, sI p3, sI (3 : Int32), sI y0, sI y1, sI y0, sI y1, sI y4, sI y5, sR a242, sR a243, sR a244, sR a245, sR a246, sR a242, sR a242, sR a242, sR a242, sI (0 : Int32), sI (1 : Int32), sI (0 : Int32), sI (1 : Int32), uU, uU, uU, uU, uU, uU, uU, uU, uU, uU, uU, uU, uU, uU, uU, uU, uU, uU, uU, uU, uU, uU, uU, uU, uU, uU, uU, uU, uU, uU, uU, uU, uU, uU, uU, uU] [(.double d251), (.int (0 : Int32)), (.ref a242)])) rfl rfl (hb hby at_218)
    have A252n : OwnDA Z h252 a242 [d251, d249, 0, 0] := A252
    have A252_a243 := A250_a243.ot W252 nea242_243.symm
    have A252_a244 := A250_a244.ot W252 nea242_244.symm
    have A252_a245 := A250_a245.ot W252 nea242_245.symm
    have A252_a246 := A250_a246.ot W252 nea242_246.symm
    have N252 := Fr.snoc X252 N250 G242
    have Z252 : n0 ≤ h252.size := by rw [W252.size]; exact Z250
    refine OwnGo.pre (fun t k => st252 t k) ?_
    show OwnGo _ _ _ _ (T252.setTop (mkF m 219 #[sJ p0, uS, sJ p1, uS, sJ p2, uS, sI p3, sI (3 : Int32), sI y0, sI y1, sI y0, sI y1, sI y4, sI y5, sR a242, sR a243, sR a244, sR a245, sR a246, sR a242, sR a242, sR a242, sR a242, sI (0 : Int32), sI (1 : Int32), sI (0 : Int32), sI (1 : Int32), uU, uU, uU, uU, uU, uU, uU, uU, uU, uU, uU, uU, uU, uU, uU, uU, uU, uU, uU, uU, uU, uU, uU, uU, uU, uU, uU, uU, uU, uU, uU, uU, uU, uU, uU, uU] []))
    obtain ⟨d253, hd253⟩ : ∃ v, FP.i2d y1 = v := ⟨_, rfl⟩
    have D253 : OwnDS 0 jy1 d253 := by rw [← hd253, ← Fy1]; exact own_i2d _
    refine OwnGo.pre (fun t k => XS.aload X252.here hx rfl (hb hby at_219) rfl rfl (XS.iload X252.here hx rfl (hb hby at_221) rfl (XS.iload X252.here hx rfl (hb hby at_223) rfl (XS.i2dS X252.here hx rfl (hb hby at_225) rfl hd253 k)))) ?_
    show OwnGo _ _ _ _ (T252.setTop (mkF m 226 #[sJ p0, uS, sJ p1, uS, sJ p2, uS, sI p3, sI (3 : Int32), sI y0, sI y1, sI y0, sI y1, sI y4, sI y5, sR a242, sR a243, sR a244, sR a245, sR a246, sR a242, sR a242, sR a242, sR a242, sI (0 : Int32), sI (1 : Int32), sI (0 : Int32), sI (1 : Int32), uU, uU, uU, uU, uU, uU, uU, uU, uU, uU, uU, uU, uU, uU, uU, uU, uU, uU, uU, uU, uU, uU, uU, uU, uU, uU, uU, uU, uU, uU, uU, uU, uU, uU, uU, uU] [(.double d253), (.int (1 : Int32)), (.ref a242)]))
    obtain ⟨T254, h254, X254, e254, W254, A254, st254⟩ := own_daS X252 hx hZ e252 A252n (by decide) (i := 1) (by decide) (by show 1 < 4; decide) (g := (mkF m 226 #[sJ p0, uS, sJ p1, uS, sJ p2, uS, sI p3, sI (3 : Int32), sI y0, sI y1, sI y0, sI y1, sI y4, sI y5, sR a242, sR a243, sR a244, sR a245, sR a246, sR a242, sR a242, sR a242, sR a242, sI (0 : Int32), sI (1 : Int32), sI (0 : Int32), sI (1 : Int32), uU, uU, uU, uU, uU, uU, uU, uU, uU, uU, uU, uU, uU, uU, uU, uU, uU, uU, uU, uU, uU, uU, uU, uU, uU, uU, uU, uU, uU, uU, uU, uU, uU, uU, uU, uU] [(.double d253), (.int (1 : Int32)), (.ref a242)])) rfl rfl (hb hby at_226)
    have A254n : OwnDA Z h254 a242 [d251, d253, 0, 0] := A254
    have A254_a243 := A252_a243.ot W254 nea242_243.symm
    have A254_a244 := A252_a244.ot W254 nea242_244.symm
    have A254_a245 := A252_a245.ot W254 nea242_245.symm
    have A254_a246 := A252_a246.ot W254 nea242_246.symm
    have N254 := Fr.snoc X254 N252 G242
    have Z254 : n0 ≤ h254.size := by rw [W254.size]; exact Z252
    refine OwnGo.pre (fun t k => st254 t k) ?_
    show OwnGo _ _ _ _ (T254.setTop (mkF m 227 #[sJ p0, uS, sJ p1, uS, sJ p2, uS, sI p3, sI (3 : Int32), sI y0, sI y1, sI y0, sI y1, sI y4, sI y5, sR a242, sR a243, sR a244, sR a245, sR a246, sR a242, sR a242, sR a242, sR a242, sI (0 : Int32), sI (1 : Int32), sI (0 : Int32), sI (1 : Int32), uU, uU, uU, uU, uU, uU, uU, uU, uU, uU, uU, uU, uU, uU, uU, uU, uU, uU, uU, uU, uU, uU, uU, uU, uU, uU, uU, uU, uU, uU, uU, uU, uU, uU, uU, uU] []))
    refine OwnGo.pre (fun t k => XS.aload X254.here hx rfl (hb hby at_227) rfl rfl (XS.iload X254.here hx rfl (hb hby at_229) rfl (XS.aload X254.here hx rfl (hb hby at_231) rfl rfl (XS.iload X254.here hx rfl (hb hby at_233) rfl (XS.aload X254.here hx rfl (hb hby at_235) rfl rfl (XS.iload X254.here hx rfl (hb hby at_237) rfl (XS.aload X254.here hx rfl (hb hby at_239) rfl rfl (XS.iload X254.here hx rfl (hb hby at_241) rfl k)))))))) ?_
    show OwnGo _ _ _ _ (T254.setTop (mkF m 243 #[sJ p0, uS, sJ p1, uS, sJ p2, uS, sI p3, sI (3 : Int32), sI y0, sI y1, sI y0, sI y1, sI y4, sI y5, sR a242, sR a243, sR a244, sR a245, sR a246, sR a242, sR a242, sR a242, sR a242, sI (0 : Int32), sI (1 : Int32), sI (0 : Int32), sI (1 : Int32), uU, uU, uU, uU, uU, uU, uU, uU, uU, uU, uU, uU, uU, uU, uU, uU, uU, uU, uU, uU, uU, uU, uU, uU, uU, uU, uU, uU, uU, uU, uU, uU, uU, uU, uU, uU] [(.int (1 : Int32)), (.ref a242), (.int (0 : Int32)), (.ref a242), (.int (1 : Int32)), (.ref a242), (.int (0 : Int32)), (.ref a242)]))
    obtain ⟨d255, hd255⟩ : ∃ v, FP.i2d y4 = v := ⟨_, rfl⟩
    have D255 : OwnDS 0 jy4 d255 := by rw [← hd255, ← Fy4]; exact own_i2d _
    obtain ⟨d256, hd256⟩ : ∃ v, FP.i2d y5 = v := ⟨_, rfl⟩
    have D256 : OwnDS 0 jy5 d256 := by rw [← hd256, ← Fy5]; exact own_i2d _
    refine OwnGo.pre (fun t k => XS.iload X254.here hx rfl (hb hby at_243) rfl (XS.i2dS X254.here hx rfl (hb hby at_245) rfl hd255 (XS.iload X254.here hx rfl (hb hby at_246) rfl (XS.i2dS X254.here hx rfl (hb hby at_248) rfl hd256 k)))) ?_
    show OwnGo _ _ _ _ (T254.setTop (mkF m 249 #[sJ p0, uS, sJ p1, uS, sJ p2, uS, sI p3, sI (3 : Int32), sI y0, sI y1, sI y0, sI y1, sI y4, sI y5, sR a242, sR a243, sR a244, sR a245, sR a246, sR a242, sR a242, sR a242, sR a242, sI (0 : Int32), sI (1 : Int32), sI (0 : Int32), sI (1 : Int32), uU, uU, uU, uU, uU, uU, uU, uU, uU, uU, uU, uU, uU, uU, uU, uU, uU, uU, uU, uU, uU, uU, uU, uU, uU, uU, uU, uU, uU, uU, uU, uU, uU, uU, uU, uU] [(.double d256), (.double d255), (.int (1 : Int32)), (.ref a242), (.int (0 : Int32)), (.ref a242), (.int (1 : Int32)), (.ref a242), (.int (0 : Int32)), (.ref a242)]))
    obtain ⟨_, _, ⟨T257, L257, k257, n257⟩, -, X257, ⟨Lc257, hQ257, l257, y257, z257⟩, st257⟩ := Jvm.LawKit.callS X254 hx (y := (⟨"com/example/isochron/isochron/dsp/Fourier", "separate", "([DI[DI[DI[DIDD)V"⟩ : MethodName)) hown (mvT hZ (hw _ (List.mem_of_getElem? (i := 5) rfl))) (mvT hZ (hw _ (List.mem_of_getElem? (i := 6) rfl))) (mvT hZ (hw _ (List.mem_of_getElem? (i := 7) rfl))) (mvT hZ (hw _ (List.mem_of_getElem? (i := 8) rfl))) (by decide) (backOf (W := 0) (rmK3 l Z a0 hw [] a242 d251 d253 0 0 d255 d256 jy0 jy1 jy4 jy5 h254 n0 Z254 A254n G242 D251 by0 D253 by1 D255 by4 D256 by5) hZ (hw _ (List.mem_of_getElem? (i := 8) rfl)) (hw _ (List.mem_of_getElem? (i := 7) rfl)) (by decide) (by decide)) (g := (mkF m 249 #[sJ p0, uS, sJ p1, uS, sJ p2, uS, sI p3, sI (3 : Int32), sI y0, sI y1, sI y0, sI y1, sI y4, sI y5, sR a242, sR a243, sR a244, sR a245, sR a246, sR a242, sR a242, sR a242, sR a242, sI (0 : Int32), sI (1 : Int32), sI (0 : Int32), sI (1 : Int32), uU, uU, uU, uU, uU, uU, uU, uU, uU, uU, uU, uU, uU, uU, uU, uU, uU, uU, uU, uU, uU, uU, uU, uU, uU, uU, uU, uU, uU, uU, uU, uU, uU, uU, uU, uU] [(.double d256), (.double d255), (.int (1 : Int32)), (.ref a242), (.int (0 : Int32)), (.ref a242), (.int (1 : Int32)), (.ref a242), (.int (0 : Int32)), (.ref a242)])) rfl (by rw [hml]; rfl) (argsL := [(.ref a242), (.int (0 : Int32)), (.ref a242), (.int (1 : Int32)), (.ref a242), (.int (0 : Int32)), (.ref a242), (.int (1 : Int32)), (.double d255), (.double d256)]) (rest := []) (lenOf pd_rmK3 rfl) rfl (by show 2 * 0 + _ ≤ _; exact Nat.le_of_eq rfl) (hb hby at_249) (fun _ _ => ⟨rfl, e254, (by decide : 5 + 0 ≤ _), (by decide : 8 + 0 ≤ _)⟩)
    dsimp only [Pt.U, Pt.locs, Pt.cells, Pt.slots] at X257 l257 y257 z257 st257 hQ257
    subst l257 y257 z257
    obtain ⟨ro0_0z, ro0_1z, rfl, Hro0_0z, Bjro0_0z, Hro0_1z, Bjro0_1z, AFo0z, KF257, N257, Z257⟩ := hQ257
    refine OwnGo.pre (fun t k => st257 t k) ?_
    show OwnGo _ _ _ _ (T257.setTop (mkF m 252 #[sJ p0, uS, sJ p1, uS, sJ p2, uS, sI p3, sI (3 : Int32), sI y0, sI y1, sI y0, sI y1, sI y4, sI y5, sR a242, sR a243, sR a244, sR a245, sR a246, sR a242, sR a242, sR a242, sR a242, sI (0 : Int32), sI (1 : Int32), sI (0 : Int32), sI (1 : Int32), uU, uU, uU, uU, uU, uU, uU, uU, uU, uU, uU, uU, uU, uU, uU, uU, uU, uU, uU, uU, uU, uU, uU, uU, uU, uU, uU, uU, uU, uU, uU, uU, uU, uU, uU, uU] []))
    have M257 := Fr.app N254 N257
    have A257_a243 := A254_a243.kp KF257 (ninS nea242_243.symm nin0)
    have A257_a244 := A254_a244.kp KF257 (ninS nea242_244.symm nin0)
    have A257_a245 := A254_a245.kp KF257 (ninS nea242_245.symm nin0)
    have A257_a246 := A254_a246.kp KF257 (ninS nea242_246.symm nin0)
    obtain ⟨jro0_0z, hjro0_0z⟩ : ∃ i : Int, i = (((jy0 + jy0) * (1 : Int)) - ((jy4 * ((jy1 + jy1) * (1 : Int))) + (jy5 * ((jy0 - jy0) * (1 : Int))))) := ⟨_, rfl⟩
    rw [← hjro0_0z] at Hro0_0z Bjro0_0z
    obtain ⟨jro0_1z, hjro0_1z⟩ : ∃ i : Int, i = (((jy4 * ((jy0 - jy0) * (1 : Int))) - (jy5 * ((jy1 + jy1) * (1 : Int)))) - ((jy1 - jy1) * (1 : Int))) := ⟨_, rfl⟩
    rw [← hjro0_1z] at Hro0_1z Bjro0_1z
    refine OwnGo.pre (fun t k => XS.aload X257.here hx rfl (hb hby at_252) rfl rfl (XS.iload X257.here hx rfl (hb hby at_254) rfl (own_daL X257 hx hZ rfl AFo0z (j := (0 : Int32)) (by decide) (i := 0) (by decide) (x := ro0_0z) rfl (g := (mkF m 256 #[sJ p0, uS, sJ p1, uS, sJ p2, uS, sI p3, sI (3 : Int32), sI y0, sI y1, sI y0, sI y1, sI y4, sI y5, sR a242, sR a243, sR a244, sR a245, sR a246, sR a242, sR a242, sR a242, sR a242, sI (0 : Int32), sI (1 : Int32), sI (0 : Int32), sI (1 : Int32), uU, uU, uU, uU, uU, uU, uU, uU, uU, uU, uU, uU, uU, uU, uU, uU, uU, uU, uU, uU, uU, uU, uU, uU, uU, uU, uU, uU, uU, uU, uU, uU, uU, uU, uU, uU] [(.int (0 : Int32)), (.ref a242)])) rfl (rest := []) rfl (hb hby at_256) (XS.dstore X257.here hx rfl (hb hby at_257) rfl (l' := #[sJ p0, uS, sJ p1, uS, sJ p2, uS, sI p3, sI (3 : Int32), sI y0, sI y1, sI y0, sI y1, sI y4, sI y5, sR a242, sR a243, sR a244, sR a245, sR a246, sR a242, sR a242, sR a242, sR a242, sI (0 : Int32), sI (1 : Int32), sI (0 : Int32), sI (1 : Int32), sD ro0_0z, uS, uU, uU, uU, uU, uU, uU, uU, uU, uU, uU, uU, uU, uU, uU, uU, uU, uU, uU, uU, uU, uU, uU, uU, uU, uU, uU, uU, uU, uU, uU, uU, uU, uU, uU]) rfl (XS.aload X257.here hx rfl (hb hby at_259) rfl rfl (XS.iload X257.here hx rfl (hb hby at_261) rfl (own_daL X257 hx hZ rfl AFo0z (j := (1 : Int32)) (by decide) (i := 1) (by decide) (x := ro0_1z) rfl (g := (mkF m 263 #[sJ p0, uS, sJ p1, uS, sJ p2, uS, sI p3, sI (3 : Int32), sI y0, sI y1, sI y0, sI y1, sI y4, sI y5, sR a242, sR a243, sR a244, sR a245, sR a246, sR a242, sR a242, sR a242, sR a242, sI (0 : Int32), sI (1 : Int32), sI (0 : Int32), sI (1 : Int32), sD ro0_0z, uS, uU, uU, uU, uU, uU, uU, uU, uU, uU, uU, uU, uU, uU, uU, uU, uU, uU, uU, uU, uU, uU, uU, uU, uU, uU, uU, uU, uU, uU, uU, uU, uU, uU, uU] [(.int (1 : Int32)), (.ref a242)])) rfl (rest := []) rfl (hb hby at_263) (XS.dstore X257.here hx rfl (hb hby at_264) rfl (l' := #[sJ p0, uS, sJ p1, uS, sJ p2, uS, sI p3, sI (3 : Int32), sI y0, sI y1, sI y0, sI y1, sI y4, sI y5, sR a242, sR a243, sR a244, sR a245, sR a246, sR a242, sR a242, sR a242, sR a242, sI (0 : Int32), sI (1 : Int32), sI (0 : Int32), sI (1 : Int32), sD ro0_0z, uS, sD ro0_1z, uS, uU, uU, uU, uU, uU, uU, uU, uU, uU, uU, uU, uU, uU, uU, uU, uU, uU, uU, uU, uU, uU, uU, uU, uU, uU, uU, uU, uU, uU, uU, uU, uU]) rfl k)))))))) ?_
    show OwnGo _ _ _ _ (T257.setTop (mkF m 266 #[sJ p0, uS, sJ p1, uS, sJ p2, uS, sI p3, sI (3 : Int32), sI y0, sI y1, sI y0, sI y1, sI y4, sI y5, sR a242, sR a243, sR a244, sR a245, sR a246, sR a242, sR a242, sR a242, sR a242, sI (0 : Int32), sI (1 : Int32), sI (0 : Int32), sI (1 : Int32), sD ro0_0z, uS, sD ro0_1z, uS, uU, uU, uU, uU, uU, uU, uU, uU, uU, uU, uU, uU, uU, uU, uU, uU, uU, uU, uU, uU, uU, uU, uU, uU, uU, uU, uU, uU, uU, uU, uU, uU] []))
    refine OwnGo.pre (fun t k => XS.aload X257.here hx rfl (hb hby at_266) rfl rfl (XS.iload X257.here hx rfl (hb hby at_268) rfl (own_daL X257 hx hZ rfl AFo0z (j := (0 : Int32)) (by decide) (i := 0) (by decide) (x := ro0_0z) rfl (g := (mkF m 270 #[sJ p0, uS, sJ p1, uS, sJ p2, uS, sI p3, sI (3 : Int32), sI y0, sI y1, sI y0, sI y1, sI y4, sI y5, sR a242, sR a243, sR a244, sR a245, sR a246, sR a242, sR a242, sR a242, sR a242, sI (0 : Int32), sI (1 : Int32), sI (0 : Int32), sI (1 : Int32), sD ro0_0z, uS, sD ro0_1z, uS, uU, uU, uU, uU, uU, uU, uU, uU, uU, uU, uU, uU, uU, uU, uU, uU, uU, uU, uU, uU, uU, uU, uU, uU, uU, uU, uU, uU, uU, uU, uU, uU] [(.int (0 : Int32)), (.ref a242)])) rfl (rest := []) rfl (hb hby at_270) (XS.dstore X257.here hx rfl (hb hby at_271) rfl (l' := #[sJ p0, uS, sJ p1, uS, sJ p2, uS, sI p3, sI (3 : Int32), sI y0, sI y1, sI y0, sI y1, sI y4, sI y5, sR a242, sR a243, sR a244, sR a245, sR a246, sR a242, sR a242, sR a242, sR a242, sI (0 : Int32), sI (1 : Int32), sI (0 : Int32), sI (1 : Int32), sD ro0_0z, uS, sD ro0_1z, uS, sD ro0_0z, uS, uU, uU, uU, uU, uU, uU, uU, uU, uU, uU, uU, uU, uU, uU, uU, uU, uU, uU, uU, uU, uU, uU, uU, uU, uU, uU, uU, uU, uU, uU]) rfl (XS.aload X257.here hx rfl (hb hby at_273) rfl rfl (XS.iload X257.here hx rfl (hb hby at_275) rfl (own_daL X257 hx hZ rfl AFo0z (j := (1 : Int32)) (by decide) (i := 1) (by decide) (x := ro0_1z) rfl (g := (mkF m 277 #[sJ p0, uS, sJ p1, uS, sJ p2, uS, sI p3, sI (3 : Int32), sI y0, sI y1, sI y0, sI y1, sI y4, sI y5, sR a242, sR a243, sR a244, sR a245, sR a246, sR a242, sR a242, sR a242, sR a242, sI (0 : Int32), sI (1 : Int32), sI (0 : Int32), sI (1 : Int32), sD ro0_0z, uS, sD ro0_1z, uS, sD ro0_0z, uS, uU, uU, uU, uU, uU, uU, uU, uU, uU, uU, uU, uU, uU, uU, uU, uU, uU, uU, uU, uU, uU, uU, uU, uU, uU, uU, uU, uU, uU, uU] [(.int (1 : Int32)), (.ref a242)])) rfl (rest := []) rfl (hb hby at_277) (XS.dstore X257.here hx rfl (hb hby at_278) rfl (l' := #[sJ p0, uS, sJ p1, uS, sJ p2, uS, sI p3, sI (3 : Int32), sI y0, sI y1, sI y0, sI y1, sI y4, sI y5, sR a242, sR a243, sR a244, sR a245, sR a246, sR a242, sR a242, sR a242, sR a242, sI (0 : Int32), sI (1 : Int32), sI (0 : Int32), sI (1 : Int32), sD ro0_0z, uS, sD ro0_1z, uS, sD ro0_0z, uS, sD ro0_1z, uS, uU, uU, uU, uU, uU, uU, uU, uU, uU, uU, uU, uU, uU, uU, uU, uU, uU, uU, uU, uU, uU, uU, uU, uU, uU, uU, uU, uU]) rfl k)))))))) ?_
    show OwnGo _ _ _ _ (T257.setTop (mkF m 280 #[sJ p0, uS, sJ p1, uS, sJ p2, uS, sI p3, sI (3 : Int32), sI y0, sI y1, sI y0, sI y1, sI y4, sI y5, sR a242, sR a243, sR a244, sR a245, sR a246, sR a242, sR a242, sR a242, sR a242, sI (0 : Int32), sI (1 : Int32), sI (0 : Int32), sI (1 : Int32), sD ro0_0z, uS, sD ro0_1z, uS, sD ro0_0z, uS, sD ro0_1z, uS, uU, uU, uU, uU, uU, uU, uU, uU, uU, uU, uU, uU, uU, uU, uU, uU, uU, uU, uU, uU, uU, uU, uU, uU, uU, uU, uU, uU] []))
    obtain ⟨v258, hv258⟩ : ∃ v, y0.toInt64 = v := ⟨_, rfl⟩
    have F258 : v258.toInt = jy0 := by rw [← hv258, Jvm.Kit.i64_of_i32, Fy0]
    obtain ⟨v259, hv259⟩ : ∃ v, y0.toInt64 = v := ⟨_, rfl⟩
    have F259 : v259.toInt = jy0 := by rw [← hv259, Jvm.Kit.i64_of_i32, Fy0]
    obtain ⟨v260, hv260⟩ : ∃ v, v258 + v259 = v := ⟨_, rfl⟩
    obtain ⟨j260, hj260⟩ : ∃ i : Int, i = jy0 + jy0 := ⟨_, rfl⟩
    have B260 : -2097152 ≤ j260 ∧ j260 ≤ 2097152 := by rw [hj260]; exact own_bd_add by0 by0 (by decide)
    have F260 : v260.toInt = j260 := own_lf_add hv260 F258 F259 by0 by0 (by decide) hj260
    obtain ⟨v261, hv261⟩ : ∃ v, y1.toInt64 = v := ⟨_, rfl⟩
    refine OwnGo.pre (fun t k => XS.iload X257.here hx rfl (hb hby at_280) rfl (own_i2l X257.here hx rfl (hb hby at_282) rfl hv258 (XS.iload X257.here hx rfl (hb hby at_283) rfl (own_i2l X257.here hx rfl (hb hby at_285) rfl hv259 (own_ladd X257.here hx rfl (hb hby at_286) rfl hv260 (XT.lstore X257.here hx rfl (hb hby at_287) rfl (l' := #[sJ p0, uS, sJ p1, uS, sJ p2, uS, sI p3, sI (3 : Int32), sI y0, sI y1, sI y0, sI y1, sI y4, sI y5, sR a242, sR a243, sR a244, sR a245, sR a246, sR a242, sR a242, sR a242, sR a242, sI (0 : Int32), sI (1 : Int32), sI (0 : Int32), sI (1 : Int32), sD ro0_0z, uS, sD ro0_1z, uS, sD ro0_0z, uS, sD ro0_1z, uS, sJ v260, uS, uU, uU, uU, uU, uU, uU, uU, uU, uU, uU, uU, uU, uU, uU, uU, uU, uU, uU, uU, uU, uU, uU, uU, uU, uU, uU]) rfl (XS.iload X257.here hx rfl (hb hby at_289) rfl (own_i2l X257.here hx rfl (hb hby at_291) rfl hv261 k)))))))) ?_
    show OwnGo _ _ _ _ (T257.setTop (mkF m 292 #[sJ p0, uS, sJ p1, uS, sJ p2, uS, sI p3, sI (3 : Int32), sI y0, sI y1, sI y0, sI y1, sI y4, sI y5, sR a242, sR a243, sR a244, sR a245, sR a246, sR a242, sR a242, sR a242, sR a242, sI (0 : Int32), sI (1 : Int32), sI (0 : Int32), sI (1 : Int32), sD ro0_0z, uS, sD ro0_1z, uS, sD ro0_0z, uS, sD ro0_1z, uS, sJ v260, uS, uU, uU, uU, uU, uU, uU, uU, uU, uU, uU, uU, uU, uU, uU, uU, uU, uU, uU, uU, uU, uU, uU, uU, uU, uU, uU] [(.long v261)]))
    have F261 : v261.toInt = jy1 := by rw [← hv261, Jvm.Kit.i64_of_i32, Fy1]
    obtain ⟨v262, hv262⟩ : ∃ v, y1.toInt64 = v := ⟨_, rfl⟩
    have F262 : v262.toInt = jy1 := by rw [← hv262, Jvm.Kit.i64_of_i32, Fy1]
    obtain ⟨v263, hv263⟩ : ∃ v, v261 - v262 = v := ⟨_, rfl⟩
    obtain ⟨j263, hj263⟩ : ∃ i : Int, i = jy1 - jy1 := ⟨_, rfl⟩
    have B263 : -2097152 ≤ j263 ∧ j263 ≤ 2097152 := by rw [hj263]; exact own_bd_sub by1 by1 (by decide)
    have F263 : v263.toInt = j263 := own_lf_sub hv263 F261 F262 by1 by1 (by decide) hj263
    obtain ⟨v264, hv264⟩ : ∃ v, y0.toInt64 = v := ⟨_, rfl⟩
    have F264 : v264.toInt = jy0 := by rw [← hv264, Jvm.Kit.i64_of_i32, Fy0]
    obtain ⟨v265, hv265⟩ : ∃ v, y0.toInt64 = v := ⟨_, rfl⟩
    refine OwnGo.pre (fun t k => XS.iload X257.here hx rfl (hb hby at_292) rfl (own_i2l X257.here hx rfl (hb hby at_294) rfl hv262 (own_lsub X257.here hx rfl (hb hby at_295) rfl hv263 (XT.lstore X257.here hx rfl (hb hby at_296) rfl (l' := #[sJ p0, uS, sJ p1, uS, sJ p2, uS, sI p3, sI (3 : Int32), sI y0, sI y1, sI y0, sI y1, sI y4, sI y5, sR a242, sR a243, sR a244, sR a245, sR a246, sR a242, sR a242, sR a242, sR a242, sI (0 : Int32), sI (1 : Int32), sI (0 : Int32), sI (1 : Int32), sD ro0_0z, uS, sD ro0_1z, uS, sD ro0_0z, uS, sD ro0_1z, uS, sJ v260, uS, sJ v263, uS, uU, uU, uU, uU, uU, uU, uU, uU, uU, uU, uU, uU, uU, uU, uU, uU, uU, uU, uU, uU, uU, uU, uU, uU]) rfl (XS.iload X257.here hx rfl (hb hby at_298) rfl (own_i2l X257.here hx rfl (hb hby at_300) rfl hv264 (XS.iload X257.here hx rfl (hb hby at_301) rfl (own_i2l X257.here hx rfl (hb hby at_303) rfl hv265 k)))))))) ?_
    show OwnGo _ _ _ _ (T257.setTop (mkF m 304 #[sJ p0, uS, sJ p1, uS, sJ p2, uS, sI p3, sI (3 : Int32), sI y0, sI y1, sI y0, sI y1, sI y4, sI y5, sR a242, sR a243, sR a244, sR a245, sR a246, sR a242, sR a242, sR a242, sR a242, sI (0 : Int32), sI (1 : Int32), sI (0 : Int32), sI (1 : Int32), sD ro0_0z, uS, sD ro0_1z, uS, sD ro0_0z, uS, sD ro0_1z, uS, sJ v260, uS, sJ v263, uS, uU, uU, uU, uU, uU, uU, uU, uU, uU, uU, uU, uU, uU, uU, uU, uU, uU, uU, uU, uU, uU, uU, uU, uU] [(.long v265), (.long v264)]))
    have F265 : v265.toInt = jy0 := by rw [← hv265, Jvm.Kit.i64_of_i32, Fy0]
    obtain ⟨v266, hv266⟩ : ∃ v, v264 - v265 = v := ⟨_, rfl⟩
    obtain ⟨j266, hj266⟩ : ∃ i : Int, i = jy0 - jy0 := ⟨_, rfl⟩
    have B266 : -2097152 ≤ j266 ∧ j266 ≤ 2097152 := by rw [hj266]; exact own_bd_sub by0 by0 (by decide)
    have F266 : v266.toInt = j266 := own_lf_sub hv266 F264 F265 by0 by0 (by decide) hj266
    obtain ⟨v267, hv267⟩ : ∃ v, y1.toInt64 = v := ⟨_, rfl⟩
    have F267 : v267.toInt = jy1 := by rw [← hv267, Jvm.Kit.i64_of_i32, Fy1]
    obtain ⟨v268, hv268⟩ : ∃ v, y1.toInt64 = v := ⟨_, rfl⟩
    have F268 : v268.toInt = jy1 := by rw [← hv268, Jvm.Kit.i64_of_i32, Fy1]
    obtain ⟨v269, hv269⟩ : ∃ v, v267 + v268 = v := ⟨_, rfl⟩
    obtain ⟨j269, hj269⟩ : ∃ i : Int, i = jy1 + jy1 := ⟨_, rfl⟩
    have B269 : -2097152 ≤ j269 ∧ j269 ≤ 2097152 := by rw [hj269]; exact own_bd_add by1 by1 (by decide)
    have F269 : v269.toInt = j269 := own_lf_add hv269 F267 F268 by1 by1 (by decide) hj269
    refine OwnGo.pre (fun t k => own_lsub X257.here hx rfl (hb hby at_304) rfl hv266 (XT.lstore X257.here hx rfl (hb hby at_305) rfl (l' := #[sJ p0, uS, sJ p1, uS, sJ p2, uS, sI p3, sI (3 : Int32), sI y0, sI y1, sI y0, sI y1, sI y4, sI y5, sR a242, sR a243, sR a244, sR a245, sR a246, sR a242, sR a242, sR a242, sR a242, sI (0 : Int32), sI (1 : Int32), sI (0 : Int32), sI (1 : Int32), sD ro0_0z, uS, sD ro0_1z, uS, sD ro0_0z, uS, sD ro0_1z, uS, sJ v260, uS, sJ v263, uS, sJ v266, uS, uU, uU, uU, uU, uU, uU, uU, uU, uU, uU, uU, uU, uU, uU, uU, uU, uU, uU, uU, uU, uU, uU]) rfl (XS.iload X257.here hx rfl (hb hby at_307) rfl (own_i2l X257.here hx rfl (hb hby at_309) rfl hv267 (XS.iload X257.here hx rfl (hb hby at_310) rfl (own_i2l X257.here hx rfl (hb hby at_312) rfl hv268 (own_ladd X257.here hx rfl (hb hby at_313) rfl hv269 (XT.lstore X257.here hx rfl (hb hby at_314) rfl (l' := #[sJ p0, uS, sJ p1, uS, sJ p2, uS, sI p3, sI (3 : Int32), sI y0, sI y1, sI y0, sI y1, sI y4, sI y5, sR a242, sR a243, sR a244, sR a245, sR a246, sR a242, sR a242, sR a242, sR a242, sI (0 : Int32), sI (1 : Int32), sI (0 : Int32), sI (1 : Int32), sD ro0_0z, uS, sD ro0_1z, uS, sD ro0_0z, uS, sD ro0_1z, uS, sJ v260, uS, sJ v263, uS, sJ v266, uS, sJ v269, uS, uU, uU, uU, uU, uU, uU, uU, uU, uU, uU, uU, uU, uU, uU, uU, uU, uU, uU, uU, uU]) rfl k)))))))) ?_
    show OwnGo _ _ _ _ (T257.setTop (mkF m 316 #[sJ p0, uS, sJ p1, uS, sJ p2, uS, sI p3, sI (3 : Int32), sI y0, sI y1, sI y0, sI y1, sI y4, sI y5, sR a242, sR a243, sR a244, sR a245, sR a246, sR a242, sR a242, sR a242, sR a242, sI (0 : Int32), sI (1 : Int32), sI (0 : Int32), sI (1 : Int32), sD ro0_0z, uS, sD ro0_1z, uS, sD ro0_0z, uS, sD ro0_1z, uS, sJ v260, uS, sJ v263, uS, sJ v266, uS, sJ v269, uS, uU, uU, uU, uU, uU, uU, uU, uU, uU, uU, uU, uU, uU, uU, uU, uU, uU, uU, uU, uU] []))
    obtain ⟨v270, hv270⟩ : ∃ v, -v266 = v := ⟨_, rfl⟩
    obtain ⟨j270, hj270⟩ : ∃ i : Int, i = -j266 := ⟨_, rfl⟩
    have B270 : -2097152 ≤ j270 ∧ j270 ≤ 2097152 := by rw [hj270]; exact own_bd_neg B266
    have F270 : v270.toInt = j270 := own_lf_neg hv270 F266 B266 (by decide) hj270
    obtain ⟨v271, hv271⟩ : ∃ v, y4.toInt64 = v := ⟨_, rfl⟩
    have F271 : v271.toInt = jy4 := by rw [← hv271, Jvm.Kit.i64_of_i32, Fy4]
    refine OwnGo.pre (fun t k => XT.lload X257.here hx rfl (hb hby at_316) rfl (XT.lstore X257.here hx rfl (hb hby at_318) rfl (l' := #[sJ p0, uS, sJ p1, uS, sJ p2, uS, sI p3, sI (3 : Int32), sI y0, sI y1, sI y0, sI y1, sI y4, sI y5, sR a242, sR a243, sR a244, sR a245, sR a246, sR a242, sR a242, sR a242, sR a242, sI (0 : Int32), sI (1 : Int32), sI (0 : Int32), sI (1 : Int32), sD ro0_0z, uS, sD ro0_1z, uS, sD ro0_0z, uS, sD ro0_1z, uS, sJ v260, uS, sJ v263, uS, sJ v266, uS, sJ v269, uS, sJ v269, uS, uU, uU, uU, uU, uU, uU, uU, uU, uU, uU, uU, uU, uU, uU, uU, uU, uU, uU]) rfl (XT.lload X257.here hx rfl (hb hby at_320) rfl (own_lneg X257.here hx rfl (hb hby at_322) rfl hv270 (XT.lstore X257.here hx rfl (hb hby at_323) rfl (l' := #[sJ p0, uS, sJ p1, uS, sJ p2, uS, sI p3, sI (3 : Int32), sI y0, sI y1, sI y0, sI y1, sI y4, sI y5, sR a242, sR a243, sR a244, sR a245, sR a246, sR a242, sR a242, sR a242, sR a242, sI (0 : Int32), sI (1 : Int32), sI (0 : Int32), sI (1 : Int32), sD ro0_0z, uS, sD ro0_1z, uS, sD ro0_0z, uS, sD ro0_1z, uS, sJ v260, uS, sJ v263, uS, sJ v266, uS, sJ v269, uS, sJ v269, uS, sJ v270, uS, uU, uU, uU, uU, uU, uU, uU, uU, uU, uU, uU, uU, uU, uU, uU, uU]) rfl (XS.iload X257.here hx rfl (hb hby at_325) rfl (own_i2l X257.here hx rfl (hb hby at_327) rfl hv271 (XT.lstore X257.here hx rfl (hb hby at_328) rfl (l' := #[sJ p0, uS, sJ p1, uS, sJ p2, uS, sI p3, sI (3 : Int32), sI y0, sI y1, sI y0, sI y1, sI y4, sI y5, sR a242, sR a243, sR a244, sR a245, sR a246, sR a242, sR a242, sR a242, sR a242, sI (0 : Int32), sI (1 : Int32), sI (0 : Int32), sI (1 : Int32), sD ro0_0z, uS, sD ro0_1z, uS, sD ro0_0z, uS, sD ro0_1z, uS, sJ v260, uS, sJ v263, uS, sJ v266, uS, sJ v269, uS, sJ v269, uS, sJ v270, uS, sJ v271, uS, uU, uU, uU, uU, uU, uU, uU, uU, uU, uU, uU, uU, uU, uU]) rfl k)))))))) ?_
    show OwnGo _ _ _ _ (T257.setTop (mkF m 330 #[sJ p0, uS, sJ p1, uS, sJ p2, uS, sI p3, sI (3 : Int32), sI y0, sI y1, sI y0, sI y1, sI y4, sI y5, sR a242, sR a243, sR a244, sR a245, sR a246, sR a242, sR a242, sR a242, sR a242, sI (0 : Int32), sI (1 : Int32), sI (0 : Int32), sI (1 : Int32), sD ro0_0z, uS, sD ro0_1z, uS, sD ro0_0z, uS, sD ro0_1z, uS, sJ v260, uS, sJ v263, uS, sJ v266, uS, sJ v269, uS, sJ v269, uS, sJ v270, uS, sJ v271, uS, uU, uU, uU, uU, uU, uU, uU, uU, uU, uU, uU, uU, uU, uU] []))
    obtain ⟨v272, hv272⟩ : ∃ v, y5.toInt64 = v := ⟨_, rfl⟩
    have F272 : v272.toInt = jy5 := by rw [← hv272, Jvm.Kit.i64_of_i32, Fy5]
    obtain ⟨v273, hv273⟩ : ∃ v, -v272 = v := ⟨_, rfl⟩
    obtain ⟨j273, hj273⟩ : ∃ i : Int, i = -jy5 := ⟨_, rfl⟩
    have B273 : -1048576 ≤ j273 ∧ j273 ≤ 1048576 := by rw [hj273]; exact own_bd_neg by5
    have F273 : v273.toInt = j273 := own_lf_neg hv273 F272 by5 (by decide) hj273
    refine OwnGo.pre (fun t k => XS.iload X257.here hx rfl (hb hby at_330) rfl (own_i2l X257.here hx rfl (hb hby at_332) rfl hv272 (own_lneg X257.here hx rfl (hb hby at_333) rfl hv273 (XT.lstore X257.here hx rfl (hb hby at_334) rfl (l' := #[sJ p0, uS, sJ p1, uS, sJ p2, uS, sI p3, sI (3 : Int32), sI y0, sI y1, sI y0, sI y1, sI y4, sI y5, sR a242, sR a243, sR a244, sR a245, sR a246, sR a242, sR a242, sR a242, sR a242, sI (0 : Int32), sI (1 : Int32), sI (0 : Int32), sI (1 : Int32), sD ro0_0z, uS, sD ro0_1z, uS, sD ro0_0z, uS, sD ro0_1z, uS, sJ v260, uS, sJ v263, uS, sJ v266, uS, sJ v269, uS, sJ v269, uS, sJ v270, uS, sJ v271, uS, sJ v273, uS, uU, uU, uU, uU, uU, uU, uU, uU, uU, uU, uU, uU]) rfl (XT.lload X257.here hx rfl (hb hby at_336) rfl (XT.lload X257.here hx rfl (hb hby at_338) rfl (XT.lload X257.here hx rfl (hb hby at_340) rfl (XT.lload X257.here hx rfl (hb hby at_342) rfl k)))))))) ?_
    show OwnGo _ _ _ _ (T257.setTop (mkF m 344 #[sJ p0, uS, sJ p1, uS, sJ p2, uS, sI p3, sI (3 : Int32), sI y0, sI y1, sI y0, sI y1, sI y4, sI y5, sR a242, sR a243, sR a244, sR a245, sR a246, sR a242, sR a242, sR a242, sR a242, sI (0 : Int32), sI (1 : Int32), sI (0 : Int32), sI (1 : Int32), sD ro0_0z, uS, sD ro0_1z, uS, sD ro0_0z, uS, sD ro0_1z, uS, sJ v260, uS, sJ v263, uS, sJ v266, uS, sJ v269, uS, sJ v269, uS, sJ v270, uS, sJ v271, uS, sJ v273, uS, uU, uU, uU, uU, uU, uU, uU, uU, uU, uU, uU, uU] [(.long v270), (.long v269), (.long v273), (.long v271)]))
    obtain ⟨_, _, ⟨T274, L274, k274, n274⟩, -, X274, ⟨Lc274, hQ274, l274, y274, z274⟩, st274⟩ := Jvm.LawKit.callS X257 hx (y := (⟨"com/example/isochron/isochron/dsp/FourierSeparatePinLaw", "mulRe", "(JJJJ)J"⟩ : MethodName)) hown (mvT hZ (hw _ (List.mem_of_getElem? (i := 10) rfl))) (mvT hZ (hw _ (List.mem_of_getElem? (i := 11) rfl))) (mvT hZ (hw _ (List.mem_of_getElem? (i := 2) rfl))) (mvT hZ (hw _ (List.mem_of_getElem? (i := 12) rfl))) (by decide) (backOf (W := 0) (rmRe l Z a0 hw [] v271 v273 v269 v270 jy4 j273 j269 j270 T257.heap n0 Z257 F271 (own_bd_le by4 (by decide)) F273 (own_bd_le B273 (by decide)) F269 (own_bd_le B269 (by decide)) F270 (own_bd_le B270 (by decide))) hZ (hw _ (List.mem_of_getElem? (i := 12) rfl)) (hw _ (List.mem_of_getElem? (i := 2) rfl)) (by decide) (by decide)) (g := (mkF m 344 #[sJ p0, uS, sJ p1, uS, sJ p2, uS, sI p3, sI (3 : Int32), sI y0, sI y1, sI y0, sI y1, sI y4, sI y5, sR a242, sR a243, sR a244, sR a245, sR a246, sR a242, sR a242, sR a242, sR a242, sI (0 : Int32), sI (1 : Int32), sI (0 : Int32), sI (1 : Int32), sD ro0_0z, uS, sD ro0_1z, uS, sD ro0_0z, uS, sD ro0_1z, uS, sJ v260, uS, sJ v263, uS, sJ v266, uS, sJ v269, uS, sJ v269, uS, sJ v270, uS, sJ v271, uS, sJ v273, uS, uU, uU, uU, uU, uU, uU, uU, uU, uU, uU, uU, uU] [(.long v270), (.long v269), (.long v273), (.long v271)])) rfl (by rw [hml]; rfl) (argsL := [(.long v271), (.long v273), (.long v269), (.long v270)]) (rest := []) (lenOf pd_rmRe rfl) rfl (by show 2 * 0 + _ ≤ _; exact Nat.le_of_eq rfl) (hb hby at_344) (fun _ _ => ⟨rfl, rfl, (by decide : 5 + 0 ≤ _), (by decide : 8 + 0 ≤ _)⟩)
    dsimp only [Pt.U, Pt.locs, Pt.cells, Pt.slots] at X274 l274 y274 z274 st274 hQ274
    subst l274 y274 z274
    obtain ⟨wr, rfl, Fwr, N274, e274⟩ := hQ274
    refine OwnGo.pre (fun t k => st274 t k) ?_
    show OwnGo _ _ _ _ (T274.setTop (mkF m 347 #[sJ p0, uS, sJ p1, uS, sJ p2, uS, sI p3, sI (3 : Int32), sI y0, sI y1, sI y0, sI y1, sI y4, sI y5, sR a242, sR a243, sR a244, sR a245, sR a246, sR a242, sR a242, sR a242, sR a242, sI (0 : Int32), sI (1 : Int32), sI (0 : Int32), sI (1 : Int32), sD ro0_0z, uS, sD ro0_1z, uS, sD ro0_0z, uS, sD ro0_1z, uS, sJ v260, uS, sJ v263, uS, sJ v266, uS, sJ v269, uS, sJ v269, uS, sJ v270, uS, sJ v271, uS, sJ v273, uS, uU, uU, uU, uU, uU, uU, uU, uU, uU, uU, uU, uU] [(.long wr)]))
    have M274 := Fr.app M257 N274
    obtain ⟨jwr, hjwr⟩ : ∃ i : Int, i = jy4 * j269 - j273 * j270 := ⟨_, rfl⟩
    rw [← hjwr] at Fwr
    have Bwr : -4398046511104 ≤ jwr ∧ jwr ≤ 4398046511104 := by rw [hjwr]; exact own_bd_sub (own_bd_mul by4 B269 rfl) (own_bd_mul B273 B270 rfl) (by decide)
    refine OwnGo.pre (fun t k => XT.lstore X274.here hx rfl (hb hby at_347) rfl (l' := #[sJ p0, uS, sJ p1, uS, sJ p2, uS, sI p3, sI (3 : Int32), sI y0, sI y1, sI y0, sI y1, sI y4, sI y5, sR a242, sR a243, sR a244, sR a245, sR a246, sR a242, sR a242, sR a242, sR a242, sI (0 : Int32), sI (1 : Int32), sI (0 : Int32), sI (1 : Int32), sD ro0_0z, uS, sD ro0_1z, uS, sD ro0_0z, uS, sD ro0_1z, uS, sJ v260, uS, sJ v263, uS, sJ v266, uS, sJ v269, uS, sJ v269, uS, sJ v270, uS, sJ v271, uS, sJ v273, uS, sJ wr, uS, uU, uU, uU, uU, uU, uU, uU, uU, uU, uU]) rfl (XT.lload X274.here hx rfl (hb hby at_349) rfl (XT.lload X274.here hx rfl (hb hby at_351) rfl (XT.lload X274.here hx rfl (hb hby at_353) rfl (XT.lload X274.here hx rfl (hb hby at_355) rfl k))))) ?_
    show OwnGo _ _ _ _ (T274.setTop (mkF m 357 #[sJ p0, uS, sJ p1, uS, sJ p2, uS, sI p3, sI (3 : Int32), sI y0, sI y1, sI y0, sI y1, sI y4, sI y5, sR a242, sR a243, sR a244, sR a245, sR a246, sR a242, sR a242, sR a242, sR a242, sI (0 : Int32), sI (1 : Int32), sI (0 : Int32), sI (1 : Int32), sD ro0_0z, uS, sD ro0_1z, uS, sD ro0_0z, uS, sD ro0_1z, uS, sJ v260, uS, sJ v263, uS, sJ v266, uS, sJ v269, uS, sJ v269, uS, sJ v270, uS, sJ v271, uS, sJ v273, uS, sJ wr, uS, uU, uU, uU, uU, uU, uU, uU, uU, uU, uU] [(.long v270), (.long v269), (.long v273), (.long v271)]))
    obtain ⟨_, _, ⟨T275, L275, k275, n275⟩, -, X275, ⟨Lc275, hQ275, l275, y275, z275⟩, st275⟩ := Jvm.LawKit.callS X274 hx (y := (⟨"com/example/isochron/isochron/dsp/FourierSeparatePinLaw", "mulIm", "(JJJJ)J"⟩ : MethodName)) hown (mvT hZ (hw _ (List.mem_of_getElem? (i := 13) rfl))) (mvT hZ (hw _ (List.mem_of_getElem? (i := 14) rfl))) (mvT hZ (hw _ (List.mem_of_getElem? (i := 2) rfl))) (mvT hZ (hw _ (List.mem_of_getElem? (i := 15) rfl))) (by decide) (backOf (W := 0) (rmIm l Z a0 hw [] v271 v273 v269 v270 jy4 j273 j269 j270 T257.heap n0 Z257 F271 (own_bd_le by4 (by decide)) F273 (own_bd_le B273 (by decide)) F269 (own_bd_le B269 (by decide)) F270 (own_bd_le B270 (by decide))) hZ (hw _ (List.mem_of_getElem? (i := 15) rfl)) (hw _ (List.mem_of_getElem? (i := 2) rfl)) (by decide) (by decide)) (g := (mkF m 357 #[sJ p0, uS, sJ p1, uS, sJ p2, uS, sI p3, sI (3 : Int32), sI y0, sI y1, sI y0, sI y1, sI y4, sI y5, sR a242, sR a243, sR a244, sR a245, sR a246, sR a242, sR a242, sR a242, sR a242, sI (0 : Int32), sI (1 : Int32), sI (0 : Int32), sI (1 : Int32), sD ro0_0z, uS, sD ro0_1z, uS, sD ro0_0z, uS, sD ro0_1z, uS, sJ v260, uS, sJ v263, uS, sJ v266, uS, sJ v269, uS, sJ v269, uS, sJ v270, uS, sJ v271, uS, sJ v273, uS, sJ wr, uS, uU, uU, uU, uU, uU, uU, uU, uU, uU, uU] [(.long v270), (.long v269), (.long v273), (.long v271)])) rfl (by rw [hml]; rfl) (argsL := [(.long v271), (.long v273), (.long v269), (.long v270)]) (rest := []) (lenOf pd_rmIm rfl) rfl (by show 2 * 0 + _ ≤ _; exact Nat.le_of_eq rfl) (hb hby at_357) (fun _ _ => ⟨rfl, e274, (by decide : 5 + 0 ≤ _), (by decide : 8 + 0 ≤ _)⟩)
    dsimp only [Pt.U, Pt.locs, Pt.cells, Pt.slots] at X275 l275 y275 z275 st275 hQ275
    subst l275 y275 z275
    obtain ⟨wi, rfl, Fwi, N275, e275⟩ := hQ275
    refine OwnGo.pre (fun t k => st275 t k) ?_
    show OwnGo _ _ _ _ (T275.setTop (mkF m 360 #[sJ p0, uS, sJ p1, uS, sJ p2, uS, sI p3, sI (3 : Int32), sI y0, sI y1, sI y0, sI y1, sI y4, sI y5, sR a242, sR a243, sR a244, sR a245, sR a246, sR a242, sR a242, sR a242, sR a242, sI (0 : Int32), sI (1 : Int32), sI (0 : Int32), sI (1 : Int32), sD ro0_0z, uS, sD ro0_1z, uS, sD ro0_0z, uS, sD ro0_1z, uS, sJ v260, uS, sJ v263, uS, sJ v266, uS, sJ v269, uS, sJ v269, uS, sJ v270, uS, sJ v271, uS, sJ v273, uS, sJ wr, uS, uU, uU, uU, uU, uU, uU, uU, uU, uU, uU] [(.long wi)]))
    have M275 := Fr.app M274 N275
    obtain ⟨jwi, hjwi⟩ : ∃ i : Int, i = jy4 * j270 + j273 * j269 := ⟨_, rfl⟩
    rw [← hjwi] at Fwi
    have Bwi : -4398046511104 ≤ jwi ∧ jwi ≤ 4398046511104 := by rw [hjwi]; exact own_bd_add (own_bd_mul by4 B270 rfl) (own_bd_mul B273 B269 rfl) (by decide)
    obtain ⟨v276, hv276⟩ : ∃ v, v260 + wr = v := ⟨_, rfl⟩
    obtain ⟨j276, hj276⟩ : ∃ i : Int, i = j260 + jwr := ⟨_, rfl⟩
    have B276 : -4398048608256 ≤ j276 ∧ j276 ≤ 4398048608256 := by rw [hj276]; exact own_bd_add B260 Bwr (by decide)
    have F276 : v276.toInt = j276 := own_lf_add hv276 F260 Fwr B260 Bwr (by decide) hj276
    obtain ⟨v277, hv277⟩ : ∃ v, v263 + wi = v := ⟨_, rfl⟩
    refine OwnGo.pre (fun t k => XT.lstore X275.here hx rfl (hb hby at_360) rfl (l' := #[sJ p0, uS, sJ p1, uS, sJ p2, uS, sI p3, sI (3 : Int32), sI y0, sI y1, sI y0, sI y1, sI y4, sI y5, sR a242, sR a243, sR a244, sR a245, sR a246, sR a242, sR a242, sR a242, sR a242, sI (0 : Int32), sI (1 : Int32), sI (0 : Int32), sI (1 : Int32), sD ro0_0z, uS, sD ro0_1z, uS, sD ro0_0z, uS, sD ro0_1z, uS, sJ v260, uS, sJ v263, uS, sJ v266, uS, sJ v269, uS, sJ v269, uS, sJ v270, uS, sJ v271, uS, sJ v273, uS, sJ wr, uS, sJ wi, uS, uU, uU, uU, uU, uU, uU, uU, uU]) rfl (XT.lload X275.here hx rfl (hb hby at_362) rfl (XT.lload X275.here hx rfl (hb hby at_364) rfl (own_ladd X275.here hx rfl (hb hby at_366) rfl hv276 (XT.lstore X275.here hx rfl (hb hby at_367) rfl (l' := #[sJ p0, uS, sJ p1, uS, sJ p2, uS, sI p3, sI (3 : Int32), sI y0, sI y1, sI y0, sI y1, sI y4, sI y5, sR a242, sR a243, sR a244, sR a245, sR a246, sR a242, sR a242, sR a242, sR a242, sI (0 : Int32), sI (1 : Int32), sI (0 : Int32), sI (1 : Int32), sD ro0_0z, uS, sD ro0_1z, uS, sD ro0_0z, uS, sD ro0_1z, uS, sJ v260, uS, sJ v263, uS, sJ v266, uS, sJ v269, uS, sJ v269, uS, sJ v270, uS, sJ v271, uS, sJ v273, uS, sJ wr, uS, sJ wi, uS, sJ v276, uS, uU, uU, uU, uU, uU, uU]) rfl (XT.lload X275.here hx rfl (hb hby at_369) rfl (XT.lload X275.here hx rfl (hb hby at_371) rfl (own_ladd X275.here hx rfl (hb hby at_373) rfl hv277 k)))))))) ?_
    show OwnGo _ _ _ _ (T275.setTop (mkF m 374 #[sJ p0, uS, sJ p1, uS, sJ p2, uS, sI p3, sI (3 : Int32), sI y0, sI y1, sI y0, sI y1, sI y4, sI y5, sR a242, sR a243, sR a244, sR a245, sR a246, sR a242, sR a242, sR a242, sR a242, sI (0 : Int32), sI (1 : Int32), sI (0 : Int32), sI (1 : Int32), sD ro0_0z, uS, sD ro0_1z, uS, sD ro0_0z, uS, sD ro0_1z, uS, sJ v260, uS, sJ v263, uS, sJ v266, uS, sJ v269, uS, sJ v269, uS, sJ v270, uS, sJ v271, uS, sJ v273, uS, sJ wr, uS, sJ wi, uS, sJ v276, uS, uU, uU, uU, uU, uU, uU] [(.long v277)]))
    obtain ⟨j277, hj277⟩ : ∃ i : Int, i = j263 + jwi := ⟨_, rfl⟩
    have B277 : -4398048608256 ≤ j277 ∧ j277 ≤ 4398048608256 := by rw [hj277]; exact own_bd_add B263 Bwi (by decide)
    have F277 : v277.toInt = j277 := own_lf_add hv277 F263 Fwi B263 Bwi (by decide) hj277
    obtain ⟨v278, hv278⟩ : ∃ v, v260 - wr = v := ⟨_, rfl⟩
    obtain ⟨j278, hj278⟩ : ∃ i : Int, i = j260 - jwr := ⟨_, rfl⟩
    have B278 : -4398048608256 ≤ j278 ∧ j278 ≤ 4398048608256 := by rw [hj278]; exact own_bd_sub B260 Bwr (by decide)
    have F278 : v278.toInt = j278 := own_lf_sub hv278 F260 Fwr B260 Bwr (by decide) hj278
    obtain ⟨v279, hv279⟩ : ∃ v, v263 - wi = v := ⟨_, rfl⟩
    refine OwnGo.pre (fun t k => XT.lstore X275.here hx rfl (hb hby at_374) rfl (l' := #[sJ p0, uS, sJ p1, uS, sJ p2, uS, sI p3, sI (3 : Int32), sI y0, sI y1, sI y0, sI y1, sI y4, sI y5, sR a242, sR a243, sR a244, sR a245, sR a246, sR a242, sR a242, sR a242, sR a242, sI (0 : Int32), sI (1 : Int32), sI (0 : Int32), sI (1 : Int32), sD ro0_0z, uS, sD ro0_1z, uS, sD ro0_0z, uS, sD ro0_1z, uS, sJ v260, uS, sJ v263, uS, sJ v266, uS, sJ v269, uS, sJ v269, uS, sJ v270, uS, sJ v271, uS, sJ v273, uS, sJ wr, uS, sJ wi, uS, sJ v276, uS, sJ v277, uS, uU, uU, uU, uU]) rfl (XT.lload X275.here hx rfl (hb hby at_376) rfl (XT.lload X275.here hx rfl (hb hby at_378) rfl (own_lsub X275.here hx rfl (hb hby at_380) rfl hv278 (XT.lstore X275.here hx rfl (hb hby at_381) rfl (l' := #[sJ p0, uS, sJ p1, uS, sJ p2, uS, sI p3, sI (3 : Int32), sI y0, sI y1, sI y0, sI y1, sI y4, sI y5, sR a242, sR a243, sR a244, sR a245, sR a246, sR a242, sR a242, sR a242, sR a242, sI (0 : Int32), sI (1 : Int32), sI (0 : Int32), sI (1 : Int32), sD ro0_0z, uS, sD ro0_1z, uS, sD ro0_0z, uS, sD ro0_1z, uS, sJ v260, uS, sJ v263, uS, sJ v266, uS, sJ v269, uS, sJ v269, uS, sJ v270, uS, sJ v271, uS, sJ v273, uS, sJ wr, uS, sJ wi, uS, sJ v276, uS, sJ v277, uS, sJ v278, uS, uU, uU]) rfl (XT.lload X275.here hx rfl (hb hby at_383) rfl (XT.lload X275.here hx rfl (hb hby at_385) rfl (own_lsub X275.here hx rfl (hb hby at_387) rfl hv279 k)))))))) ?_
    show OwnGo _ _ _ _ (T275.setTop (mkF m 388 #[sJ p0, uS, sJ p1, uS, sJ p2, uS, sI p3, sI (3 : Int32), sI y0, sI y1, sI y0, sI y1, sI y4, sI y5, sR a242, sR a243, sR a244, sR a245, sR a246, sR a242, sR a242, sR a242, sR a242, sI (0 : Int32), sI (1 : Int32), sI (0 : Int32), sI (1 : Int32), sD ro0_0z, uS, sD ro0_1z, uS, sD ro0_0z, uS, sD ro0_1z, uS, sJ v260, uS, sJ v263, uS, sJ v266, uS, sJ v269, uS, sJ v269, uS, sJ v270, uS, sJ v271, uS, sJ v273, uS, sJ wr, uS, sJ wi, uS, sJ v276, uS, sJ v277, uS, sJ v278, uS, uU, uU] [(.long v279)]))
    obtain ⟨j279, hj279⟩ : ∃ i : Int, i = j263 - jwi := ⟨_, rfl⟩
    have B279 : -4398048608256 ≤ j279 ∧ j279 ≤ 4398048608256 := by rw [hj279]; exact own_bd_sub B263 Bwi (by decide)
    have F279 : v279.toInt = j279 := own_lf_sub hv279 F263 Fwi B263 Bwi (by decide) hj279
    obtain ⟨v280, hv280⟩ : ∃ v, -v279 = v := ⟨_, rfl⟩
    obtain ⟨j280, hj280⟩ : ∃ i : Int, i = -j279 := ⟨_, rfl⟩
    have B280 : -4398048608256 ≤ j280 ∧ j280 ≤ 4398048608256 := by rw [hj280]; exact own_bd_neg B279
    have F280 : v280.toInt = j280 := own_lf_neg hv280 F279 B279 (by decide) hj280
    obtain ⟨j281, hj281⟩ : ∃ i : Int, i = (1 : Int) * jro0_0z := ⟨_, rfl⟩
    have B281 : -4398048608256 ≤ j281 ∧ j281 ≤ 4398048608256 := by rw [hj281]; exact own_bd_mul own_b1 Bjro0_0z (by decide)
    have Dq281 : OwnDS 0 j281 (FP.dmul (4611686018427387904 : UInt64) ro0_0z) := by rw [hj281]; have q := own_ds_mul (n := 53) own_two Hro0_0z (own_bd_nat (C := 4398048608256) (own_bd_mul own_b1 Bjro0_0z (by decide)) (by decide)); exact q
    obtain ⟨d281, hd281⟩ : ∃ v, FP.dmul (4611686018427387904 : UInt64) ro0_0z = v := ⟨_, rfl⟩
    refine OwnGo.pre (fun t k => own_lneg X275.here hx rfl (hb hby at_388) rfl hv280 (XT.lstore X275.here hx rfl (hb hby at_389) rfl (l' := #[sJ p0, uS, sJ p1, uS, sJ p2, uS, sI p3, sI (3 : Int32), sI y0, sI y1, sI y0, sI y1, sI y4, sI y5, sR a242, sR a243, sR a244, sR a245, sR a246, sR a242, sR a242, sR a242, sR a242, sI (0 : Int32), sI (1 : Int32), sI (0 : Int32), sI (1 : Int32), sD ro0_0z, uS, sD ro0_1z, uS, sD ro0_0z, uS, sD ro0_1z, uS, sJ v260, uS, sJ v263, uS, sJ v266, uS, sJ v269, uS, sJ v269, uS, sJ v270, uS, sJ v271, uS, sJ v273, uS, sJ wr, uS, sJ wi, uS, sJ v276, uS, sJ v277, uS, sJ v278, uS, sJ v280, uS]) rfl (XS.iload X275.here hx rfl (hb hby at_391) rfl (XS.iconst X275.here hx rfl (hb hby at_393) (XS.icmpNo X275.here hx rfl (hb hby at_394) rfl (by decide) (own_ldcD X275 hx hown (mvT hZ (hw _ (List.mem_of_getElem? (i := 16) rfl))) rfl (hb hby at_397) (XS.dload X275.here hx rfl (hb hby at_400) rfl (XS.dmulS X275.here hx rfl (hb hby at_402) rfl (own_nn Dq281) hd281 k)))))))) ?_
    show OwnGo _ _ _ _ (T275.setTop (mkF m 403 #[sJ p0, uS, sJ p1, uS, sJ p2, uS, sI p3, sI (3 : Int32), sI y0, sI y1, sI y0, sI y1, sI y4, sI y5, sR a242, sR a243, sR a244, sR a245, sR a246, sR a242, sR a242, sR a242, sR a242, sI (0 : Int32), sI (1 : Int32), sI (0 : Int32), sI (1 : Int32), sD ro0_0z, uS, sD ro0_1z, uS, sD ro0_0z, uS, sD ro0_1z, uS, sJ v260, uS, sJ v263, uS, sJ v266, uS, sJ v269, uS, sJ v269, uS, sJ v270, uS, sJ v271, uS, sJ v273, uS, sJ wr, uS, sJ wi, uS, sJ v276, uS, sJ v277, uS, sJ v278, uS, sJ v280, uS] [(.double d281)]))
    have D281 : OwnDS 0 j281 d281 := by rw [← hd281]; exact Dq281
    obtain ⟨d282, hd282⟩ : ∃ v, FP.l2d v278 = v := ⟨_, rfl⟩
    have D282 : OwnDS 0 j278 d282 := by rw [← hd282]; exact own_l2db F278 B278 (by decide)
    refine OwnGo.pre (fun t k => XT.lload X275.here hx rfl (hb hby at_403) rfl (XS.l2dS X275.here hx rfl (hb hby at_405) rfl hd282 (XS.dcmpS X275.here hx rfl (hb hby at_406) rfl rfl k))) ?_
    show OwnGo _ _ _ _ (T275.setTop (mkF m 407 #[sJ p0, uS, sJ p1, uS, sJ p2, uS, sI p3, sI (3 : Int32), sI y0, sI y1, sI y0, sI y1, sI y4, sI y5, sR a242, sR a243, sR a244, sR a245, sR a246, sR a242, sR a242, sR a242, sR a242, sI (0 : Int32), sI (1 : Int32), sI (0 : Int32), sI (1 : Int32), sD ro0_0z, uS, sD ro0_1z, uS, sD ro0_0z, uS, sD ro0_1z, uS, sJ v260, uS, sJ v263, uS, sJ v266, uS, sJ v269, uS, sJ v269, uS, sJ v270, uS, sJ v271, uS, sJ v273, uS, sJ wr, uS, sJ wi, uS, sJ v276, uS, sJ v277, uS, sJ v278, uS, sJ v280, uS] [(.int (cmpValue (FP.dcmp d281 d282) .l))]))
    have q407 : j281 = j278 := by simp only [hj281, hjro0_0z, hj278, hj260, hjwr, hj273, hj269, hj270, hj266]; exact own_eq4 jy0 jy4 jy1 jy5
    obtain ⟨j283, hj283⟩ : ∃ i : Int, i = (1 : Int) * jro0_1z := ⟨_, rfl⟩
    have B283 : -4398048608256 ≤ j283 ∧ j283 ≤ 4398048608256 := by rw [hj283]; exact own_bd_mul own_b1 Bjro0_1z (by decide)
    have Dq283 : OwnDS 0 j283 (FP.dmul (4611686018427387904 : UInt64) ro0_1z) := by rw [hj283]; have q := own_ds_mul (n := 53) own_two Hro0_1z (own_bd_nat (C := 4398048608256) (own_bd_mul own_b1 Bjro0_1z (by decide)) (by decide)); exact q
    obtain ⟨d283, hd283⟩ : ∃ v, FP.dmul (4611686018427387904 : UInt64) ro0_1z = v := ⟨_, rfl⟩
    have D283 : OwnDS 0 j283 d283 := by rw [← hd283]; exact Dq283
    obtain ⟨d284, hd284⟩ : ∃ v, FP.l2d v280 = v := ⟨_, rfl⟩
    have D284 : OwnDS 0 j280 d284 := by rw [← hd284]; exact own_l2db F280 B280 (by decide)
    refine OwnGo.pre (fun t k => XS.ifNo X275.here hx rfl (hb hby at_407) rfl ((own_brD .ne D281 D282 _).trans (decide_eq_false (fun q => q q407))) (own_ldcD X275 hx hown (mvT hZ (hw _ (List.mem_of_getElem? (i := 16) rfl))) rfl (hb hby at_410) (XS.dload X275.here hx rfl (hb hby at_413) rfl (XS.dmulS X275.here hx rfl (hb hby at_415) rfl (own_nn Dq283) hd283 (XT.lload X275.here hx rfl (hb hby at_416) rfl (XS.l2dS X275.here hx rfl (hb hby at_418) rfl hd284 (XS.dcmpS X275.here hx rfl (hb hby at_419) rfl rfl k))))))) ?_
    show OwnGo _ _ _ _ (T275.setTop (mkF m 420 #[sJ p0, uS, sJ p1, uS, sJ p2, uS, sI p3, sI (3 : Int32), sI y0, sI y1, sI y0, sI y1, sI y4, sI y5, sR a242, sR a243, sR a244, sR a245, sR a246, sR a242, sR a242, sR a242, sR a242, sI (0 : Int32), sI (1 : Int32), sI (0 : Int32), sI (1 : Int32), sD ro0_0z, uS, sD ro0_1z, uS, sD ro0_0z, uS, sD ro0_1z, uS, sJ v260, uS, sJ v263, uS, sJ v266, uS, sJ v269, uS, sJ v269, uS, sJ v270, uS, sJ v271, uS, sJ v273, uS, sJ wr, uS, sJ wi, uS, sJ v276, uS, sJ v277, uS, sJ v278, uS, sJ v280, uS] [(.int (cmpValue (FP.dcmp d283 d284) .l))]))
    have q420 : j283 = j280 := by simp only [hj283, hjro0_1z, hj280, hj279, hj263, hjwi, hj273, hj269, hj270, hj266]; exact own_eq5 jy4 jy0 jy5 jy1
    refine OwnGo.pre (fun t k => XS.ifNo X275.here hx rfl (hb hby at_420) rfl ((own_brD .ne D283 D284 _).trans (decide_eq_false (fun q => q q420))) (XS.dload X275.here hx rfl (hb hby at_423) rfl (XS.dload X275.here hx rfl (hb hby at_425) rfl (XS.dcmpS X275.here hx rfl (hb hby at_427) rfl rfl (XS.ifNo X275.here hx rfl (hb hby at_428) rfl ((own_brD .ne Hro0_0z Hro0_0z _).trans (decide_eq_false (fun q => q rfl))) (XS.dload X275.here hx rfl (hb hby at_431) rfl (XS.dload X275.here hx rfl (hb hby at_433) rfl (XS.dcmpS X275.here hx rfl (hb hby at_435) rfl rfl k)))))))) ?_
    show OwnGo _ _ _ _ (T275.setTop (mkF m 436 #[sJ p0, uS, sJ p1, uS, sJ p2, uS, sI p3, sI (3 : Int32), sI y0, sI y1, sI y0, sI y1, sI y4, sI y5, sR a242, sR a243, sR a244, sR a245, sR a246, sR a242, sR a242, sR a242, sR a242, sI (0 : Int32), sI (1 : Int32), sI (0 : Int32), sI (1 : Int32), sD ro0_0z, uS, sD ro0_1z, uS, sD ro0_0z, uS, sD ro0_1z, uS, sJ v260, uS, sJ v263, uS, sJ v266, uS, sJ v269, uS, sJ v269, uS, sJ v270, uS, sJ v271, uS, sJ v273, uS, sJ wr, uS, sJ wi, uS, sJ v276, uS, sJ v277, uS, sJ v278, uS, sJ v280, uS] [(.int (cmpValue (FP.dcmp ro0_1z ro0_1z) .l))]))
    refine OwnGo.pre (fun t k => XS.ifNo X275.here hx rfl (hb hby at_436) rfl ((own_brD .ne Hro0_1z Hro0_1z _).trans (decide_eq_false (fun q => q rfl))) (XS.aload X275.here hx rfl (hb hby at_439) rfl rfl (XS.iconst X275.here hx rfl (hb hby at_441) (own_daL X275 hx hZ e275 AFo0z (j := (2 : Int32)) (by decide) (i := 2) (by decide) (x := 0) rfl (g := (mkF m 442 #[sJ p0, uS, sJ p1, uS, sJ p2, uS, sI p3, sI (3 : Int32), sI y0, sI y1, sI y0, sI y1, sI y4, sI y5, sR a242, sR a243, sR a244, sR a245, sR a246, sR a242, sR a242, sR a242, sR a242, sI (0 : Int32), sI (1 : Int32), sI (0 : Int32), sI (1 : Int32), sD ro0_0z, uS, sD ro0_1z, uS, sD ro0_0z, uS, sD ro0_1z, uS, sJ v260, uS, sJ v263, uS, sJ v266, uS, sJ v269, uS, sJ v269, uS, sJ v270, uS, sJ v271, uS, sJ v273, uS, sJ wr, uS, sJ wi, uS, sJ v276, uS, sJ v277, uS, sJ v278, uS, sJ v280, uS] [(.int (2 : Int32)), (.ref a242)])) rfl (rest := []) rfl (hb hby at_442) (XS.dconst0 X275.here hx rfl (hb hby at_443) rfl (XS.dcmpS X275.here hx rfl (hb hby at_444) rfl rfl (XS.ifNo X275.here hx rfl (hb hby at_445) rfl (by decide +kernel) (XS.aload X275.here hx rfl (hb hby at_448) rfl rfl k)))))))) ?_
    show OwnGo _ _ _ _ (T275.setTop (mkF m 450 #[sJ p0, uS, sJ p1, uS, sJ p2, uS, sI p3, sI (3 : Int32), sI y0, sI y1, sI y0, sI y1, sI y4, sI y5, sR a242, sR a243, sR a244, sR a245, sR a246, sR a242, sR a242, sR a242, sR a242, sI (0 : Int32), sI (1 : Int32), sI (0 : Int32), sI (1 : Int32), sD ro0_0z, uS, sD ro0_1z, uS, sD ro0_0z, uS, sD ro0_1z, uS, sJ v260, uS, sJ v263, uS, sJ v266, uS, sJ v269, uS, sJ v269, uS, sJ v270, uS, sJ v271, uS, sJ v273, uS, sJ wr, uS, sJ wi, uS, sJ v276, uS, sJ v277, uS, sJ v278, uS, sJ v280, uS] [(.ref a242)]))
    refine OwnGo.pre (fun t k => XS.iconst X275.here hx rfl (hb hby at_450) (own_daL X275 hx hZ e275 AFo0z (j := (3 : Int32)) (by decide) (i := 3) (by decide) (x := 0) rfl (g := (mkF m 451 #[sJ p0, uS, sJ p1, uS, sJ p2, uS, sI p3, sI (3 : Int32), sI y0, sI y1, sI y0, sI y1, sI y4, sI y5, sR a242, sR a243, sR a244, sR a245, sR a246, sR a242, sR a242, sR a242, sR a242, sI (0 : Int32), sI (1 : Int32), sI (0 : Int32), sI (1 : Int32), sD ro0_0z, uS, sD ro0_1z, uS, sD ro0_0z, uS, sD ro0_1z, uS, sJ v260, uS, sJ v263, uS, sJ v266, uS, sJ v269, uS, sJ v269, uS, sJ v270, uS, sJ v271, uS, sJ v273, uS, sJ wr, uS, sJ wi, uS, sJ v276, uS, sJ v277, uS, sJ v278, uS, sJ v280, uS] [(.int (3 : Int32)), (.ref a242)])) rfl (rest := []) rfl (hb hby at_451) (XS.dconst0 X275.here hx rfl (hb hby at_452) rfl (XS.dcmpS X275.here hx rfl (hb hby at_453) rfl rfl (XS.ifNo X275.here hx rfl (hb hby at_454) rfl (by decide +kernel) (XS.iconst X275.here hx rfl (hb hby at_457) (XS.goto X275.here hx rfl (pc0 := 458) (pc' := 462) rfl (hb hby at_458) (by decide) (by decide) k))))))) ?_
    show OwnGo _ _ _ _ (T275.setTop (mkF m 462 #[sJ p0, uS, sJ p1, uS, sJ p2, uS, sI p3, sI (3 : Int32), sI y0, sI y1, sI y0, sI y1, sI y4, sI y5, sR a242, sR a243, sR a244, sR a245, sR a246, sR a242, sR a242, sR a242, sR a242, sI (0 : Int32), sI (1 : Int32), sI (0 : Int32), sI (1 : Int32), sD ro0_0z, uS, sD ro0_1z, uS, sD ro0_0z, uS, sD ro0_1z, uS, sJ v260, uS, sJ v263, uS, sJ v266, uS, sJ v269, uS, sJ v269, uS, sJ v270, uS, sJ v271, uS, sJ v273, uS, sJ wr, uS, sJ wi, uS, sJ v276, uS, sJ v277, uS, sJ v278, uS, sJ v280, uS] [(.int (1 : Int32))]))
    exact own_retZ X275 hx hk hrt (hb hby at_462) ⟨rfl, M275⟩ (by decide) (by decide)
set_option maxRecDepth 65536 in
set_option maxHeartbeats 40000000 in
theorem comes_1 {Post : Tables → Env → Array Value → State → Outcome → State → Prop} (hpost : ∀ tb e args s v u, (limb_1_1.after args s (.returned v) u = true ∧ limb_1_2.after args s (.returned v) u = true ∧ True) → FrameEnd s (.returned v) u (Jvm.fieldLocs frame_1_writes args s ++ Jvm.arrayLocs frame_1_arrays args s ++ Jvm.staticLocs frame_1_statics s) 24 128 → Post tb e args s (.returned v) u) :
    ArmFor flags0 classFile x code maxLocals ret World_1 tables_1 room_1 Calls_1 rest_1 Pre_1 Post := by
  intro l hfl _ _ p e ha hc hk s m args below hf hA hF happ hP
  obtain ⟨hcalls, hrest, hpre⟩ := hP
  obtain ⟨-, -, -, hnamed, -, -, -, hat⟩ := (Spec.applies_iff hf).mp happ
  obtain ⟨hg, hn⟩ := and_e (Cond.before_iff.mp (show (Jvm.Cond.and given_1 narrow_1).before args s = true from hpre))
  obtain ⟨hcnt, q0⟩ := and_e hg
  obtain ⟨b0, q1⟩ := and_e q0
  obtain ⟨b1, q2⟩ := and_e q1
  obtain ⟨b2, q3⟩ := and_e q2
  have b3 := q3
  obtain ⟨w0, w1, w2, w3, rfl⟩ : ∃ w0 w1 w2 w3 : Value, args = #[w0, w1, w2, w3] := by
    have hs : args.size = 4 := by simpa [Cond.value, given_1] using hcnt
    obtain ⟨L⟩ := args
    match L, hs with
    | [w0, w1, w2, w3], _ => exact ⟨w0, w1, w2, w3, rfl⟩
  have hw := fun d (hd : d ∈ tables_1) => atoms_spec (ws := Jvm.Cond.code x code maxLocals ret :: tables_1) hat d (List.mem_cons_of_mem _ hd)
  have hfit : Fit s := fun {y c} hc i hi => by
    obtain ⟨ha, rfl⟩ := Array.getElem?_eq_some_iff.mp hc
    have q := List.all_eq_true.mp ((Array.all_eq_true_iff_forall_mem.mp hF) _ (Array.getElem_mem ha)) i (List.mem_range.mpr hi)
    simpa [Array.getElem?_eq_getElem hi] using q
  obtain ⟨i0, ei0⟩ := isL_v b0
  obtain rfl : w0 = (.long i0) := Option.some.inj ei0
  obtain ⟨i1, ei1⟩ := isL_v b1
  obtain rfl : w1 = (.long i1) := Option.some.inj ei1
  obtain ⟨i2, ei2⟩ := isL_v b2
  obtain rfl : w2 = (.long i2) := Option.some.inj ei2
  obtain ⟨i3, ei3⟩ := is_v b3
  obtain rfl : w3 = (.int i3) := Option.some.inj ei3
  obtain ⟨n, o, h1, h2, h3, _, L, rfl, ⟨rfl, N⟩, hq⟩ := rmL l s _ hw tables_1 i0 i1 i2 i3  s.heap s.heap.size (Nat.le_refl _)  p e ha hc hk s m _ below hf ((Spec.applies_iff_loose hf).mp happ).1 ⟨rfl, State.Warmed39.refl s, rfl⟩ trivial
  refine ⟨n, _, h1, h2, h3, hpost _ _ _ _ _ _ ⟨Cond.after_iff.mpr rfl, Cond.after_iff.mpr (eq_i res_at (Term.int_eval (1)) rfl), trivial⟩ ⟨hq.1, hq.2.1, (hq.2.2.sift fun y hy => Or.inr (N y hy)).mono (by decide) (by decide)⟩⟩
theorem main_1_1 : Claimed_1_1 := comes_1 fun _ _ _ _ _ _ h hF => ⟨h.1, hF⟩
theorem main_1_2 : Claimed_1_2 := comes_1 fun _ _ _ _ _ _ h hF => ⟨h.2.1, hF⟩
end Jvm.Pilot.@@N@@
namespace Jvm.Pilot.@@N@@
open Jvm Jvm.ClassFile Sem Op Lib Jvm.Free Jvm.Stand Jvm.Pilot.@@N@@.Jvm.D
/-! MADE BY PROGRAM (witnessworld.py) out of the Statement's table words and the real class files: 11 classes; the members and pool entries that the words name. The judged class is class 1, her method 4. -/
namespace start1
open Jvm.ClassFile
def u (s : String) : CpInfo := .utf8 (stringToUtf16 s)
/-- a pool by its gaps: so many unusable entries, then the entry; so many at the end -/
def gap : Nat → List CpInfo → List CpInfo
  | 0, r => r
  | n + 1, r => .unusable :: gap n r
def poolList (es : List (Nat × CpInfo)) (last : Nat) : List CpInfo := es.foldr (fun e r => gap e.1 (e.2 :: r)) (gap last [])
def pool (es : List (Nat × CpInfo)) (last : Nat) : Array CpInfo := ⟨poolList es last⟩
def fileOf (pool : Array CpInfo) (this : Nat) (attrs : Array Attribute := #[]) (ms : Array MethodInfo := #[]) (fl : Nat := 33) (sup : Nat := 0) (ifs : Array Nat := #[]) (fds : Array FieldInfo := #[]) : ClassFile where
  minorVersion := 0
  majorVersion := 65
  constantPool := pool
  accessFlags := fl
  thisClass := this
  superClass := sup
  interfaces := ifs
  fields := fds
  methods := ms
  attributes := attrs
def plain (name : String) (sup : Option ClassId) : Class where
  name := name
  kind := .ordinary
  loader := none
  accessFlags := 33
  super := sup
  interfaces := #[]
  cf := none
  fields := #[]
  methods := #[]
  instanceTypes := #[]
  staticTypes := #[]
  resolved := #[]
  callSites := []
  init := .initialized
  statics := none
  mirror := none

def pool0 : Array CpInfo := pool [(5, u "<init>"), (0, u "()V"), (1, .class_ 10), (1, u "java/lang/Object")] 113

def k0m0 : Method := { name := "<init>", desc := "()V", sig := { parameters := [], returnType := none }, accessFlags := 1, code := none }
/-- java/lang/Object -/
def k0 : Class := { plain "java/lang/Object" none with
  accessFlags := 33
  interfaces := #[]
  cf := some (fileOf pool0 8 #[] #[{ accessFlags := 1, nameIndex := 5, descriptorIndex := 6, attributes := #[] }] 33 0 #[] #[])
  fields := #[]
  methods := #[k0m0]
  instanceTypes := #[]
  staticTypes := #[]
  resolved := Array.replicate 124 none
  statics := none }

def pool1 : Array CpInfo := pool [(2, .class_ 4), (1, u "java/lang/Object"), (0, u "<init>"), (0, u "()V"), (0, .methodref 8 9), (0, .class_ 10), (0, .nameAndType 11 12), (0, u "com/example/isochron/isochron/dsp/FourierSeparatePinLaw"), (0, u "small"), (0, u "(I)I"), (0, .methodref 14 15), (0, .class_ 16), (0, .nameAndType 17 18), (0, u "com/example/isochron/isochron/dsp/Fourier"), (0, u "separate"), (0, u "([DI[DI[DI[DIDD)V"), (0, .methodref 8 20), (0, .nameAndType 21 22), (0, u "mulRe"), (0, u "(JJJJ)J"), (0, .methodref 8 24), (0, .nameAndType 25 22), (0, u "mulIm"), (0, .double 4611686018427387904), (3, u "law"), (0, u "(JJJI)Z")] 5

def k1m0 : Method := { name := "<init>", desc := "()V", sig := { parameters := [], returnType := none }, accessFlags := 2, code := none }
def k1c1 : Code := { maxStack := 2, maxLocals := 1, code := method_2_code, exceptionTable := #[], attributes := #[] }
def k1m1 : Method := { name := "small", desc := "(I)I", sig := { parameters := [.int], returnType := some .int }, accessFlags := 10, code := some k1c1 }
def k1c2 : Code := { maxStack := 6, maxLocals := 8, code := method_3_code, exceptionTable := #[], attributes := #[] }
def k1m2 : Method := { name := "mulRe", desc := "(JJJJ)J", sig := { parameters := [.long, .long, .long, .long], returnType := some .long }, accessFlags := 10, code := some k1c2 }
def k1c3 : Code := { maxStack := 6, maxLocals := 8, code := method_4_code, exceptionTable := #[], attributes := #[] }
def k1m3 : Method := { name := "mulIm", desc := "(JJJJ)J", sig := { parameters := [.long, .long, .long, .long], returnType := some .long }, accessFlags := 10, code := some k1c3 }
def k1c4 : Code := { maxStack := 12, maxLocals := 63, code := code, exceptionTable := #[], attributes := #[] }
def k1m4 : Method := { name := "law", desc := "(JJJI)Z", sig := { parameters := [.long, .long, .long, .int], returnType := some .boolean }, accessFlags := 9, code := some k1c4 }
/-- com/example/isochron/isochron/dsp/FourierSeparatePinLaw -/
def k1 : Class := { plain "com/example/isochron/isochron/dsp/FourierSeparatePinLaw" (some 0) with
  accessFlags := 49
  interfaces := #[]
  cf := some (fileOf pool1 8 #[] #[{ accessFlags := 2, nameIndex := 5, descriptorIndex := 6, attributes := #[] }, { accessFlags := 10, nameIndex := 11, descriptorIndex := 12, attributes := #[] }, { accessFlags := 10, nameIndex := 21, descriptorIndex := 22, attributes := #[] }, { accessFlags := 10, nameIndex := 25, descriptorIndex := 22, attributes := #[] }, { accessFlags := 9, nameIndex := 30, descriptorIndex := 31, attributes := #[] }] 49 2 #[] #[])
  fields := #[]
  methods := #[k1m0, k1m1, k1m2, k1m3, k1m4]
  instanceTypes := #[]
  staticTypes := #[]
  resolved := Array.replicate 37 none
  statics := none }

def pool2 : Array CpInfo := pool [(2, .class_ 4), (1, u "java/lang/Object"), (3, .class_ 10), (1, u "com/example/isochron/isochron/dsp/Fourier"), (0, u "size"), (0, u "I"), (6, u "reversed"), (0, u "[I"), (7, u "[D"), (2, u "passFactors"), (0, u "[[D"), (6, u "pairCos"), (2, u "pairSin"), (123, u "separate"), (0, u "([DI[DI[DI[DIDD)V"), (3, .double 4602678819172646912)] 99

def k2c0 : Code := { maxStack := 6, maxLocals := 32, code := prog_161_method_20_code, exceptionTable := #[], attributes := #[] }
def k2m0 : Method := { name := "separate", desc := "([DI[DI[DI[DIDD)V", sig := { parameters := [(.array .double), .int, (.array .double), .int, (.array .double), .int, (.array .double), .int, .double, .double], returnType := none }, accessFlags := 8, code := some k2c0 }
/-- com/example/isochron/isochron/dsp/Fourier -/
def k2 : Class := { plain "com/example/isochron/isochron/dsp/Fourier" (some 0) with
  accessFlags := 49
  interfaces := #[]
  cf := some (fileOf pool2 8 #[] #[{ accessFlags := 8, nameIndex := 166, descriptorIndex := 167, attributes := #[] }] 49 2 #[] #[{ accessFlags := 18, nameIndex := 11, descriptorIndex := 12, attributes := #[] }, { accessFlags := 18, nameIndex := 19, descriptorIndex := 20, attributes := #[] }, { accessFlags := 18, nameIndex := 31, descriptorIndex := 32, attributes := #[] }, { accessFlags := 18, nameIndex := 39, descriptorIndex := 28, attributes := #[] }, { accessFlags := 18, nameIndex := 42, descriptorIndex := 28, attributes := #[] }])
  fields := #[{ name := "size", type := .int, accessFlags := 18, slot := 0, constantValue := 0 }, { name := "reversed", type := (.array .int), accessFlags := 18, slot := 1, constantValue := 0 }, { name := "passFactors", type := (.array (.array .double)), accessFlags := 18, slot := 2, constantValue := 0 }, { name := "pairCos", type := (.array .double), accessFlags := 18, slot := 3, constantValue := 0 }, { name := "pairSin", type := (.array .double), accessFlags := 18, slot := 4, constantValue := 0 }]
  methods := #[k2m0]
  instanceTypes := #[.int, (.array .int), (.array (.array .double)), (.array .double), (.array .double)]
  staticTypes := #[]
  resolved := Array.replicate 271 none
  statics := none }

def pool3 : Array CpInfo := pool [(1, u "java/lang/Cloneable"), (0, .class_ 1), (0, u "java/lang/Object"), (0, .class_ 3)] 3

/-- java/lang/Cloneable -/
def k3 : Class := { plain "java/lang/Cloneable" (some 0) with
  accessFlags := 1537
  interfaces := #[]
  cf := some (fileOf pool3 2 #[] #[] 1537 4 #[] #[])
  fields := #[]
  methods := #[]
  instanceTypes := #[]
  staticTypes := #[]
  resolved := Array.replicate 8 none
  statics := none }

def pool4 : Array CpInfo := pool [(1, u "java/io/Serializable"), (0, .class_ 1), (0, u "java/lang/Object"), (0, .class_ 3)] 3

/-- java/io/Serializable -/
def k4 : Class := { plain "java/io/Serializable" (some 0) with
  accessFlags := 1537
  interfaces := #[]
  cf := some (fileOf pool4 2 #[] #[] 1537 4 #[] #[])
  fields := #[]
  methods := #[]
  instanceTypes := #[]
  staticTypes := #[]
  resolved := Array.replicate 8 none
  statics := none }

/-- the primitive byte -/
def k5 : Class := { plain "byte" none with kind := .primitive 'B', accessFlags := 0x411 }
/-- [B -/
def k6 : Class := { plain "[B" (some 0) with kind := .array 5 .byte, interfaces := #[3, 4], accessFlags := 1041 }

/-- the primitive double -/
def k7 : Class := { plain "double" none with kind := .primitive 'D', accessFlags := 0x411 }
/-- [D -/
def k8 : Class := { plain "[D" (some 0) with kind := .array 7 .double, interfaces := #[3, 4], accessFlags := 1041 }

/-- the primitive int -/
def k9 : Class := { plain "int" none with kind := .primitive 'I', accessFlags := 0x411 }
/-- [I -/
def k10 : Class := { plain "[I" (some 0) with kind := .array 9 .int, interfaces := #[3, 4], accessFlags := 1041 }

def heap : Heap := #[]
def classes : Array Class := #[k0, k1, k2, k3, k4, k5, k6, k7, k8, k9, k10]
def interned : List (Array UInt16 × Addr) := []
def slotsUsed : Nat := 0
def theMethod : MethodId := ⟨1, 4⟩
def args0 : Array Value := #[.long 5, .long 3, .long 7, .int 1]
def aboutOver (below : List Frame) : State where
  vm := { classes := classes, interned := interned.toArray }
  heap := heap
  slotsUsed := slotsUsed
  threads := #[{ frames := .invoking theMethod args0 :: below }]
def below0 : List Frame := [.native { method := ⟨0, 0⟩, args := #[] }]
def about1 : State := aboutOver below0
def p0 : Program := .bare "" "" ""
def e0 : Env := launch0.env 0 0 0
theorem w_frames : about1.frames = Frame.invoking theMethod args0 :: below0 := rfl
set_option maxRecDepth 65536 in
theorem w_args : argsFit about1.vm theMethod args0 = true := by decide +kernel
set_option maxRecDepth 65536 in
theorem w_heap : heapFits about1 = true := by decide +kernel
set_option maxRecDepth 65536 in
theorem w_runnable : about1.curStatus? = some .runnable := by decide +kernel
set_option maxRecDepth 65536 in
theorem w_alone : about1.alone = true := by decide +kernel
set_option maxRecDepth 65536 in
theorem w_named : about1.methodNamed? x = some theMethod := by decide +kernel
set_option maxRecDepth 65536 in
theorem w_hears : about1.hears theMethod below0 = true := by decide +kernel
set_option maxRecDepth 65536 in
theorem w_ripe : about1.ripe theMethod args0 below0 = true := by decide +kernel
theorem w_running : about1.status = .running := rfl
set_option maxRecDepth 65536 in
theorem w_room : about1.hasRoom e0.platform room_1 = true :=
  launch0.hasRoom_least _ room_1 (by decide +kernel) (by decide +kernel) (by decide +kernel) (by decide +kernel) (by decide +kernel) (by decide +kernel)
theorem allAtoms_all (ts : List Jvm.Cond) (a : Array Jvm.Value) (st : Jvm.State) : (allAtoms ts).before a st = ts.all (fun c => c.before a st) := by
  induction ts with
  | nil => rfl
  | cons c t ih =>
    show (Jvm.Cond.and c (allAtoms t)).before a st = _
    rw [Jvm.Cond.before_and, ih, List.all_cons]
def words1 : List Jvm.Cond := Jvm.Cond.code x code maxLocals ret :: tables_1
/-- a 'code' word, met by the world's own term for the bytes: nothing is compared byte by byte -/
theorem code_word {y : MethodName} {bytes : ByteArray} {mx : Nat} {rt : Option FieldType} {a : Array Value} {s : State} {m : MethodId} {meth : Method} {c : Code} (h1 : s.methodNamed? y = some m) (h2 : s.vm.method? m = some meth) (h3 : meth.code = some c) (h4 : c.code = bytes)
    (h5 : (c.maxLocals == mx && c.exceptionTable.isEmpty && decide (c.maxStack ≤ mostOperands) && decide (meth.sig.returnType = rt) && !meth.locks && decide (parseMethodDescriptor y.desc = some meth.sig)) = true) : (Jvm.Cond.code y bytes mx rt).before a s = true := by
  simp only [Bool.and_eq_true, beq_iff_eq, Bool.not_eq_true', decide_eq_true_eq] at h5
  obtain ⟨⟨⟨⟨⟨g1, g2⟩, g3⟩, g4⟩, g5⟩, g6⟩ := h5
  simp [Cond.before, Cond.holds, Cond.value, h1, h2, h3, h4, g1, g2, g3, g4, g5, g6]
def isCode : Jvm.Cond → Bool
  | .code _ _ _ _ => true
  | _ => false
theorem all_split {L : List Jvm.Cond} {P : Jvm.Cond → Bool} (h1 : L.all (fun c => isCode c || P c) = true) (h2 : ∀ c ∈ L.filter isCode, P c = true) : L.all P = true := by
  refine List.all_eq_true.mpr fun c hc => ?_
  have h := List.all_eq_true.mp h1 c hc
  rcases Bool.eq_false_or_eq_true (isCode c) with hi | hi
  · exact h2 c (List.mem_filter.mpr ⟨hc, hi⟩)
  · simpa [hi] using h
set_option maxRecDepth 65536 in
theorem w_c0 : (Jvm.Cond.code x code maxLocals ret).before args0 about1 = true := code_word (m := ⟨1, 4⟩) (meth := k1m4) (c := k1c4) (by decide +kernel) rfl rfl rfl (by decide +kernel)
set_option maxRecDepth 65536 in
theorem w_c1 : (Jvm.Cond.code ({ cls := "com/example/isochron/isochron/dsp/FourierSeparatePinLaw", name := "small", desc := "(I)I" } : Jvm.MethodName) method_2_code (1 : Nat) (Option.some Jvm.ClassFile.FieldType.int)).before args0 about1 = true := code_word (m := ⟨1, 1⟩) (meth := k1m1) (c := k1c1) (by decide +kernel) rfl rfl rfl (by decide +kernel)
set_option maxRecDepth 65536 in
theorem w_c2 : (Jvm.Cond.code ({ cls := "com/example/isochron/isochron/dsp/Fourier", name := "separate", desc := "([DI[DI[DI[DIDD)V" } : Jvm.MethodName) prog_161_method_20_code (32 : Nat) (Option.none : Option Jvm.ClassFile.FieldType)).before args0 about1 = true := code_word (m := ⟨2, 0⟩) (meth := k2m0) (c := k2c0) (by decide +kernel) rfl rfl rfl (by decide +kernel)
set_option maxRecDepth 65536 in
theorem w_c3 : (Jvm.Cond.code ({ cls := "com/example/isochron/isochron/dsp/FourierSeparatePinLaw", name := "mulRe", desc := "(JJJJ)J" } : Jvm.MethodName) method_3_code (8 : Nat) (Option.some Jvm.ClassFile.FieldType.long)).before args0 about1 = true := code_word (m := ⟨1, 2⟩) (meth := k1m2) (c := k1c2) (by decide +kernel) rfl rfl rfl (by decide +kernel)
set_option maxRecDepth 65536 in
theorem w_c4 : (Jvm.Cond.code ({ cls := "com/example/isochron/isochron/dsp/FourierSeparatePinLaw", name := "mulIm", desc := "(JJJJ)J" } : Jvm.MethodName) method_4_code (8 : Nat) (Option.some Jvm.ClassFile.FieldType.long)).before args0 about1 = true := code_word (m := ⟨1, 3⟩) (meth := k1m3) (c := k1c3) (by decide +kernel) rfl rfl rfl (by decide +kernel)
def codes1 : List Jvm.Cond := [Jvm.Cond.code x code maxLocals ret, Jvm.Cond.code ({ cls := "com/example/isochron/isochron/dsp/FourierSeparatePinLaw", name := "small", desc := "(I)I" } : Jvm.MethodName) method_2_code (1 : Nat) (Option.some Jvm.ClassFile.FieldType.int), Jvm.Cond.code ({ cls := "com/example/isochron/isochron/dsp/Fourier", name := "separate", desc := "([DI[DI[DI[DIDD)V" } : Jvm.MethodName) prog_161_method_20_code (32 : Nat) (Option.none : Option Jvm.ClassFile.FieldType), Jvm.Cond.code ({ cls := "com/example/isochron/isochron/dsp/FourierSeparatePinLaw", name := "mulRe", desc := "(JJJJ)J" } : Jvm.MethodName) method_3_code (8 : Nat) (Option.some Jvm.ClassFile.FieldType.long), Jvm.Cond.code ({ cls := "com/example/isochron/isochron/dsp/FourierSeparatePinLaw", name := "mulIm", desc := "(JJJJ)J" } : Jvm.MethodName) method_4_code (8 : Nat) (Option.some Jvm.ClassFile.FieldType.long)]
set_option maxRecDepth 65536 in
theorem codes_eq : words1.filter isCode = codes1 := rfl
theorem w_codes : ∀ c ∈ words1.filter isCode, c.before args0 about1 = true := by
  rw [codes_eq]
  intro c hc
  simp only [codes1, List.mem_cons, List.not_mem_nil, or_false] at hc
  rcases hc with rfl | rfl | rfl | rfl | rfl
  · exact w_c0
  · exact w_c1
  · exact w_c2
  · exact w_c3
  · exact w_c4
set_option maxRecDepth 65536 in
theorem w_t1 : words1.all (fun c => isCode c || c.before args0 about1) = true := by decide +kernel
theorem w_tables : (allAtoms (Jvm.Cond.code x code maxLocals ret :: tables_1)).before args0 about1 = true := by
  rw [allAtoms_all]
  show words1.all (fun c => c.before args0 about1) = true
  refine all_split ?_ w_codes
  rw [w_t1]
set_option maxRecDepth 65536 in
theorem w_case : (Jvm.Cond.and given_1 narrow_1).before args0 about1 = true := by decide +kernel
theorem w_applies : (headSpec (Jvm.Cond.code x code maxLocals ret :: tables_1) room_1).applies x e0.platform about1 = true :=
  (Spec.applies_iff w_frames).mpr ⟨w_running, w_runnable, w_alone, w_named, w_hears, w_ripe, w_room, w_tables⟩
theorem atStart : AtStart classFile x code maxLocals ret World_1 tables_1 room_1 Calls_1 rest_1 Pre_1 launch0 p0 e0 about1 theMethod args0 below0 :=
  ⟨lists_1, trivial, launch0.admits_env _ _ _, launch0.least_env, fairChoices_fair.cas, fairChoices_fair.clock, w_frames, w_args, w_heap, w_applies, trivial, trivial, w_case⟩
end start1
theorem witness_1 : WitnessClaimed_1 := ⟨start1.p0, start1.e0, start1.about1, start1.theMethod, start1.args0, start1.below0, start1.atStart⟩
end Jvm.Pilot.@@N@@
