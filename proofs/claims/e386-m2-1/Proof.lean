import JvmDerived
import JvmDerived.Pilot.@@N@@Statement
import JvmDerived.Pilot.@@N@@Code
set_option linter.unusedVariables false
set_option linter.unusedSimpArgs false
@@BLOCK:NumsL.lean.txt@@
namespace Jvm.Pilot.@@N@@
open Jvm Jvm.ClassFile Sem Op Lib Jvm.Free Jvm.Stand Jvm.LawKit Jvm.RoadKit Bundle Jvm.Pilot.@@N@@.Jvm.D
section OwnFP
open Jvm.FP.Core
/-- the datum is i * 2^k -/
def OwnSc (k i : Int) : Datum → Prop
  | .fin s c q => Whole i (.fin s c (q - k))
  | _ => False
/-- the double is i * 2^k -/
def OwnDS (k i : Int) (a : UInt64) : Prop := OwnSc k i (val64 a)

theorem own_sc_fin {k i : Int} {d : Datum} (h : OwnSc k i d) : ∃ s c q, d = .fin s c q ∧ Whole i (.fin s c (q - k)) := by
  cases d with
  | nan => exact h.elim
  | inf => exact h.elim
  | fin s c q => exact ⟨s, c, q, rfl, h⟩

theorem own_ds_int {i : Int} {a : UInt64} (h : DInt i a) : OwnDS 0 i a := by
  have h' : Whole i (val64 a) := h
  show OwnSc 0 i (val64 a)
  cases hv : val64 a with
  | nan => rw [hv] at h'; exact h'.elim
  | inf => rw [hv] at h'; exact h'.elim
  | fin s c q => rw [hv] at h'; show Whole i (.fin s c (q - 0)); rw [Int.sub_zero]; exact h'

theorem own_int_ds {i : Int} {a : UInt64} (h : OwnDS 0 i a) : DInt i a := by
  obtain ⟨s, c, q, hv, h'⟩ := own_sc_fin h
  show Whole i (val64 a)
  rw [hv]; rw [Int.sub_zero] at h'; exact h'

theorem own_ds_ne_nan {k i : Int} {a : UInt64} (h : OwnDS k i a) : val64 a ≠ .nan := by
  obtain ⟨s, c, q, hv, -⟩ := own_sc_fin h
  rw [hv]; exact Datum.noConfusion

/-- the numbers i * 2^k with |i| < 2^n are doubles where n ≤ 53, n + k ≤ 1024, -1022 ≤ k -/
theorem own_fitAt (s : Bool) {n m : Nat} {k : Int} (hm : m < 2 ^ n) (hn : n ≤ 53) (h1 : (n : Int) + k ≤ 1024) (h2 : -1022 ≤ k) :
    ∃ c q, Jvm.FP.Core.fits b64 (.fin s c q) ∧ m * 2 ^ (k - q).toNat = c * 1 * 2 ^ (q - k).toNat := by
  have hq1 : b64.qmin = -1074 := by decide
  have hq2 : b64.qmax = 971 := by decide
  by_cases h0 : m = 0
  · subst h0
    exact ⟨0, b64.qmin, zero_fits good_b64 s, by simp⟩
  · have l1 : 2 ^ m.log2 ≤ m := Nat.log2_self_le h0
    have l2 : m < 2 ^ (m.log2 + 1) := Nat.lt_log2_self
    have l3 : m.log2 < n := (Nat.pow_lt_pow_iff_right (by decide : 1 < 2)).mp (Nat.lt_of_le_of_lt l1 hm)
    generalize m.log2 = L at l1 l2 l3
    refine ⟨m * 2 ^ (52 - L), (L : Int) - 52 + k, ⟨?_, by omega, by omega, .inr ?_⟩, ?_⟩
    · calc m * 2 ^ (52 - L) < 2 ^ (L + 1) * 2 ^ (52 - L) := Nat.mul_lt_mul_of_pos_right l2 (Nat.two_pow_pos _)
        _ = 2 ^ b64.p := by rw [← Nat.pow_add]; congr 1; show L + 1 + (52 - L) = 53; omega
    · calc b64.tails = 2 ^ L * 2 ^ (52 - L) := by rw [← Nat.pow_add]; show 2 ^ 52 = _; congr 1; omega
        _ ≤ m * 2 ^ (52 - L) := Nat.mul_le_mul_right _ l1
    · rw [show (k - ((L : Int) - 52 + k)).toNat = 52 - L by omega, show ((L : Int) - 52 + k - k).toNat = 0 by omega]
      simp

theorem own_signed_of {i : Int} {s : Bool} {c : Nat} {q : Int} (h : Whole i (.fin s c q)) : signed s i.natAbs = i := by
  by_cases hi : i = 0
  · rw [hi]; exact signed_zero s
  · rw [whole_sign h hi]
    by_cases h : i < 0
    · rw [decide_eq_true h]; show -(i.natAbs : Int) = i; omega
    · rw [decide_eq_false h]; show (i.natAbs : Int) = i; omega

/-- what roundRatio makes of a ratio that is m * 2^k, m < 2^n -/
theorem own_rr {s : Bool} {A B m n : Nat} {e k i : Int} (hB : 0 < B) (hv : A * 2 ^ (e - k).toNat = m * B * 2 ^ (k - e).toNat)
    (hm : m < 2 ^ n) (hn : n ≤ 53) (h1 : (n : Int) + k ≤ 1024) (h2 : -1022 ≤ k) (hi : signed s m = i) : OwnSc k i (roundRatio b64 s A B e) := by
  obtain ⟨c', q', hfit, hv'⟩ := own_fitAt s hm hn h1 h2
  rw [roundRatio_congr (A' := m) (B' := 1) (e' := k) hB (by decide) (by simpa using hv), roundRatio_exact good_b64 (by decide) hfit hv']
  show signed s (c' * 2 ^ (q' - k).toNat) = i * ((2 ^ (-(q' - k)).toNat : Nat) : Int)
  rw [show (-(q' - k)).toNat = (k - q').toNat by omega, ← hi, ← signed_mul, hv', Nat.mul_one]

theorem own_sc_round {n : Nat} {k i : Int} {d : Datum} (h : OwnSc k i d) (hi : i.natAbs < 2 ^ n) (hn : n ≤ 53) (h1 : (n : Int) + k ≤ 1024) (h2 : -1022 ≤ k) : OwnSc k i (round b64 d) := by
  obtain ⟨s, c, q, rfl, hw⟩ := own_sc_fin h
  refine own_rr (m := i.natAbs) (n := n) (by decide) ?_ hi hn h1 h2 (own_signed_of hw)
  have q1 := whole_natAbs hw
  rw [show (-(q - k)).toNat = (k - q).toNat by omega] at q1
  simpa using q1

theorem own_shift_sum (s : Bool) (c : Nat) (q : Int) (t : Bool) (d : Nat) (r k : Int) :
    ∃ u f w, exactSum (.fin s c q) (.fin t d r) = .fin u f w ∧ exactSum (.fin s c (q - k)) (.fin t d (r - k)) = .fin u f (w - k) := by
  refine ⟨_, _, _, rfl, ?_⟩
  have hmin : min (q - k) (r - k) = min q r - k := by omega
  have hu : sumUnits s c (q - k) t d (r - k) (min (q - k) (r - k)) = sumUnits s c q t d r (min q r) := by
    show signed s (c * 2 ^ (q - k - min (q - k) (r - k)).toNat) + signed t (d * 2 ^ (r - k - min (q - k) (r - k)).toNat) = signed s (c * 2 ^ (q - min q r).toNat) + signed t (d * 2 ^ (r - min q r).toNat)
    rw [hmin, show q - k - (min q r - k) = q - min q r by omega, show r - k - (min q r - k) = r - min q r by omega]
  show Datum.fin (sumSign s t (sumUnits s c (q - k) t d (r - k) (min (q - k) (r - k)))) (sumUnits s c (q - k) t d (r - k) (min (q - k) (r - k))).natAbs (min (q - k) (r - k)) = _
  rw [hu, hmin]

theorem own_sc_sum {k i j : Int} {x y : Datum} (hx : OwnSc k i x) (hy : OwnSc k j y) : OwnSc k (i + j) (exactSum x y) := by
  obtain ⟨s, c, q, rfl, h1⟩ := own_sc_fin hx
  obtain ⟨t, d, r, rfl, h2⟩ := own_sc_fin hy
  obtain ⟨u, f, w, e1, e2⟩ := own_shift_sum s c q t d r k
  have h3 := whole_sum h1 h2
  rw [e2] at h3
  rw [e1]; exact h3

theorem own_sc_neg {k i : Int} {x : Datum} (hx : OwnSc k i x) : OwnSc k (-i) (negate x) := by
  obtain ⟨s, c, q, rfl, h1⟩ := own_sc_fin hx
  exact whole_negate h1

theorem own_sc_mul {k l i j : Int} {x y : Datum} (hx : OwnSc k i x) (hy : OwnSc l j y) : OwnSc (k + l) (i * j) (exactProduct x y) := by
  obtain ⟨s, c, q, rfl, h1⟩ := own_sc_fin hx
  obtain ⟨t, d, r, rfl, h2⟩ := own_sc_fin hy
  have h3 : Whole (i * j) (.fin (s != t) (c * d) (q - k + (r - l))) := whole_product h1 h2
  show Whole (i * j) (.fin (s != t) (c * d) (q + r - (k + l)))
  rw [show q + r - (k + l) = q - k + (r - l) by omega]; exact h3

theorem own_ds_add {n : Nat} {k i j : Int} {a b : UInt64} (ha : OwnDS k i a) (hb : OwnDS k j b) (h : (i + j).natAbs < 2 ^ n) (hn : n ≤ 53 := by decide) (h1 : (n : Int) + k ≤ 1024 := by decide) (h2 : -1022 ≤ k := by decide) : OwnDS k (i + j) (dadd a b) := by
  show OwnSc _ _ _
  rw [val64_dadd]; exact own_sc_round (own_sc_sum ha hb) h hn h1 h2
theorem own_ds_sub {n : Nat} {k i j : Int} {a b : UInt64} (ha : OwnDS k i a) (hb : OwnDS k j b) (h : (i - j).natAbs < 2 ^ n) (hn : n ≤ 53 := by decide) (h1 : (n : Int) + k ≤ 1024 := by decide) (h2 : -1022 ≤ k := by decide) : OwnDS k (i - j) (dsub a b) := by
  show OwnSc _ _ _
  rw [val64_dsub]; exact own_sc_round (own_sc_sum ha (own_sc_neg hb)) h hn h1 h2
theorem own_ds_mul {n : Nat} {k l i j : Int} {a b : UInt64} (ha : OwnDS k i a) (hb : OwnDS l j b) (h : (i * j).natAbs < 2 ^ n) (hn : n ≤ 53 := by decide) (h1 : (n : Int) + (k + l) ≤ 1024 := by decide) (h2 : -1022 ≤ k + l := by decide) : OwnDS (k + l) (i * j) (dmul a b) := by
  show OwnSc _ _ _
  rw [val64_dmul]; exact own_sc_round (own_sc_mul ha hb) h hn h1 h2
theorem own_ds_negC {k i : Int} {a : UInt64} (ha : OwnDS k i a) : OwnDS k (-i) (dneg a) := by
  show OwnSc _ _ _
  rw [val64_dneg]; exact own_sc_neg ha

theorem own_order_shift (s : Bool) (c : Nat) (q : Int) (t : Bool) (d : Nat) (r k : Int) :
    order (.fin s c (q - k)) (.fin t d (r - k)) = order (.fin s c q) (.fin t d r) := by
  have hmin : min (q - k) (r - k) = min q r - k := by omega
  show some (compare (signed s (c * 2 ^ (q - k - min (q - k) (r - k)).toNat)) (signed t (d * 2 ^ (r - k - min (q - k) (r - k)).toNat))) = some (compare (signed s (c * 2 ^ (q - min q r).toNat)) (signed t (d * 2 ^ (r - min q r).toNat)))
  rw [hmin, show q - k - (min q r - k) = q - min q r by omega, show r - k - (min q r - k) = r - min q r by omega]

theorem own_ds_cmp {k i j : Int} {a b : UInt64} (ha : OwnDS k i a) (hb : OwnDS k j b) : dcmp a b = some (compare i j) := by
  obtain ⟨s, c, q, e1, h1⟩ := own_sc_fin ha
  obtain ⟨t, d, r, e2, h2⟩ := own_sc_fin hb
  show order (val64 a) (val64 b) = _
  rw [e1, e2, ← own_order_shift _ _ _ _ _ _ k]
  exact order_whole h1 h2

/-- the number kept, its scale moved down -/
theorem own_ds_down {k i : Int} {a : UInt64} (n : Nat) (h : OwnDS (k + n) i a) : OwnDS k (i * ((2 ^ n : Nat) : Int)) a := by
  obtain ⟨s, c, q, e1, h1⟩ := own_sc_fin h
  show OwnSc _ _ _
  rw [e1]
  have h2 : signed s (c * 2 ^ (q - (k + n)).toNat) = i * ((2 ^ (-(q - (k + n))).toNat : Nat) : Int) := h1
  show signed s (c * 2 ^ (q - k).toNat) = i * ((2 ^ n : Nat) : Int) * ((2 ^ (-(q - k)).toNat : Nat) : Int)
  have p2 : ((2 ^ (-(q - (k + n))).toNat : Nat) : Int) ≠ 0 := by
    have := Nat.two_pow_pos (-(q - (k + n))).toNat; omega
  refine Int.eq_of_mul_eq_mul_right p2 ?_
  have hx : (q - k).toNat + (-(q - (k + n))).toNat = (q - (k + n)).toNat + (n + (-(q - k)).toNat) := by omega
  rw [← signed_mul, Nat.mul_assoc, ← Nat.pow_add, hx, Nat.pow_add, ← Nat.mul_assoc, signed_mul, h2, Nat.pow_add]
  rw [Int.natCast_mul]; ac_rfl
theorem own_ds_up {k i : Int} {a : UInt64} (n : Nat) (h : OwnDS k (i * ((2 ^ n : Nat) : Int)) a) : OwnDS (k + n) i a := by
  obtain ⟨s, c, q, e1, h1⟩ := own_sc_fin h
  show OwnSc _ _ _
  rw [e1]
  have h2 : signed s (c * 2 ^ (q - k).toNat) = i * ((2 ^ n : Nat) : Int) * ((2 ^ (-(q - k)).toNat : Nat) : Int) := h1
  show signed s (c * 2 ^ (q - (k + n)).toNat) = i * ((2 ^ (-(q - (k + n))).toNat : Nat) : Int)
  have p2 : ((2 ^ (n + (-(q - k)).toNat) : Nat) : Int) ≠ 0 := by
    have := Nat.two_pow_pos (n + (-(q - k)).toNat); omega
  refine Int.eq_of_mul_eq_mul_right p2 ?_
  have hx : (q - (k + n)).toNat + (n + (-(q - k)).toNat) = (q - k).toNat + (-(q - (k + n))).toNat := by omega
  rw [← signed_mul, Nat.mul_assoc, ← Nat.pow_add, hx, Nat.pow_add, ← Nat.mul_assoc, signed_mul, h2, Nat.pow_add]
  rw [Int.natCast_mul]; ac_rfl

/-- a quotient that is whole (in its scale) is exact -/
theorem own_ds_div {n : Nat} {k l i j m : Int} {a b : UInt64} (ha : OwnDS k i a) (hb : OwnDS l j b) (hj : j ≠ 0) (hm : i = m * j) (h : m.natAbs < 2 ^ n) (hn : n ≤ 53 := by decide) (h1 : (n : Int) + (k - l) ≤ 1024 := by decide) (h2 : -1022 ≤ k - l := by decide) : OwnDS (k - l) m (ddiv a b) := by
  obtain ⟨s, c, q, e1, w1⟩ := own_sc_fin ha
  obtain ⟨t, d, r, e2, w2⟩ := own_sc_fin hb
  show OwnSc _ _ _
  rw [val64_ddiv, e1, e2]
  have hd : d ≠ 0 := fun h0 => hj ((whole_zero w2).mp h0)
  have hq : quotient b64 (.fin s c q) (.fin t d r) = roundRatio b64 (s != t) c d (q - r) := by
    show (if d = 0 then (if c = 0 then Datum.nan else .inf (s != t)) else roundRatio b64 (s != t) c d (q - r)) = _
    rw [if_neg hd]
  rw [hq]
  have q1 := whole_natAbs w1
  have q2 := whole_natAbs w2
  have hmn : i.natAbs = m.natAbs * j.natAbs := by rw [hm, Int.natAbs_mul]
  refine own_rr (m := m.natAbs) (n := n) (Nat.pos_of_ne_zero hd) ?_ h hn h1 h2 ?_
  · -- c 2^(q-k) = |m| |j| 2^(k-q), d 2^(r-l) = |j| 2^(l-r)
    have hjp : 0 < j.natAbs := Int.natAbs_pos.mpr hj
    rw [hmn] at q1
    generalize j.natAbs = J at q1 q2 hjp
    generalize m.natAbs = M at q1
    have hE : 0 < 2 ^ (-(r - l)).toNat * J * 2 ^ (-(q - k)).toNat * 2 ^ (r - l).toNat := by
      exact Nat.mul_pos (Nat.mul_pos (Nat.mul_pos (Nat.two_pow_pos _) hjp) (Nat.two_pow_pos _)) (Nat.two_pow_pos _)
    refine Nat.eq_of_mul_eq_mul_right hE ?_
    have x1 : (q - r - (k - l)).toNat + (-(q - k)).toNat + (r - l).toNat = (q - k).toNat + (-(r - l)).toNat + (k - l - (q - r)).toNat := by omega
    calc c * 2 ^ (q - r - (k - l)).toNat * (2 ^ (-(r - l)).toNat * J * 2 ^ (-(q - k)).toNat * 2 ^ (r - l).toNat)
        = c * (J * 2 ^ (-(r - l)).toNat) * 2 ^ ((q - r - (k - l)).toNat + (-(q - k)).toNat + (r - l).toNat) := by
          simp only [Nat.pow_add]; ac_rfl
      _ = c * (d * 2 ^ (r - l).toNat) * 2 ^ ((q - k).toNat + (-(r - l)).toNat + (k - l - (q - r)).toNat) := by rw [x1, ← q2]
      _ = (c * 2 ^ (q - k).toNat) * (d * 2 ^ (r - l).toNat) * 2 ^ (-(r - l)).toNat * 2 ^ (k - l - (q - r)).toNat := by
          simp only [Nat.pow_add]; ac_rfl
      _ = (M * J * 2 ^ (-(q - k)).toNat) * (d * 2 ^ (r - l).toNat) * 2 ^ (-(r - l)).toNat * 2 ^ (k - l - (q - r)).toNat := by rw [q1]
      _ = M * d * 2 ^ (k - l - (q - r)).toNat * (2 ^ (-(r - l)).toNat * J * 2 ^ (-(q - k)).toNat * 2 ^ (r - l).toNat) := by ac_rfl
  · have s1 := own_signed_of w1
    have s2 := own_signed_of w2
    have h3 : signed (s != t) (i.natAbs * j.natAbs) = i * j := by rw [signed_xor, s1, s2]
    have h4 : i.natAbs * j.natAbs = m.natAbs * (j.natAbs * j.natAbs) := by rw [hmn, Nat.mul_assoc]
    rw [h4, signed_mul] at h3
    have hjj : ((j.natAbs * j.natAbs : Nat) : Int) = j * j := by rw [Int.natAbs_mul_self]
    rw [hjj, hm, Int.mul_assoc] at h3
    exact Int.eq_of_mul_eq_mul_right (Int.mul_ne_zero hj hj) h3
end OwnFP
/-! own tools: a walk in continuation style, named values, the ends -/
abbrev uU : Slot := .unset
abbrev uS : Slot := .second
abbrev sN : Slot := .val .null
abbrev sI (x : Int32) : Slot := .val (.int x)
abbrev sJ (x : Int64) : Slot := .val (.long x)
abbrev sD (x : UInt64) : Slot := .val (.double x)
abbrev sR (x : Addr) : Slot := .val (.ref x)
def OwnGo (tb : Tables) (e : Env) (below : List Frame) (Q : Outcome → State → Prop) (S : State) : Prop := ∃ s₂ o, Steps tb e below S s₂ ∧ s₂.status = .running ∧ Ended s₂ below o ∧ Q o s₂
theorem OwnGo.pre {tb : Tables} {e : Env} {below : List Frame} {Q : Outcome → State → Prop} {S S' : State} (h : ∀ t, Steps tb e below S' t → Steps tb e below S t) (k : OwnGo tb e below Q S') : OwnGo tb e below Q S := by
  obtain ⟨t, o, h1, h2⟩ := k
  exact ⟨t, o, h t h1, h2⟩
abbrev OwnEnd (s : State) (Q : Option Value → Heap → List Loc → Prop) (kc ks : Nat) : Outcome → State → Prop := fun o s₂ => ∃ v L, o = .returned v ∧ Q v s₂.heap L ∧ FrameEnd s o s₂ L kc ks
section OwnEnds
variable {p : Program} {l : Launch} {e : Env} {R : Room} {s : State} {m : MethodId} {args : Array Value} {below : List Frame} {meth : Method} {c : Code} {T : State} {locs : List Loc} {cells slots : Nat}
theorem own_retZ (X : Stand p l e R s m args below meth c T locs cells slots) (hx : p.tables.exec = Jvm.exec) (hk : meth.locks = false) {pc : Nat} {Ls : Array Slot} {z : Int32} {rest : List Value} (hret : meth.sig.returnType = some .boolean) (hd : decode c.code pc = .ok (.ireturn, 1))
    {Q : Option Value → Heap → List Loc → Prop} {kc ks : Nat} (hq : Q (some (.int (nar .boolean z))) T.heap locs) (hc : cells ≤ kc) (hs : slots ≤ ks) : OwnGo p.tables e below (OwnEnd s Q kc ks) (T.setTop (mkF m pc Ls (.int z :: rest))) := by
  obtain ⟨fs, hr, hrun, hended, hW, hsame⟩ := X.leave (v := some (.int (nar .boolean z))) (fun h => by rw [hret] at h; cases h) hk
  exact ⟨_, _, retN X hx (t := .boolean) hret (by simp) hd hr, hrun, hended, _, _, rfl, hq, ⟨_, rfl⟩, hW, hsame.mono hc hs⟩
theorem own_retI (X : Stand p l e R s m args below meth c T locs cells slots) (hx : p.tables.exec = Jvm.exec) (hk : meth.locks = false) {pc : Nat} {Ls : Array Slot} {z : Int32} {rest : List Value} (hret : meth.sig.returnType = some .int) (hd : decode c.code pc = .ok (.ireturn, 1))
    {Q : Option Value → Heap → List Loc → Prop} {kc ks : Nat} (hq : Q (some (.int z)) T.heap locs) (hc : cells ≤ kc) (hs : slots ≤ ks) : OwnGo p.tables e below (OwnEnd s Q kc ks) (T.setTop (mkF m pc Ls (.int z :: rest))) := by
  obtain ⟨fs, hr, hrun, hended, hW, hsame⟩ := X.leave (v := some (.int z)) (fun h => by rw [hret] at h; cases h) hk
  exact ⟨_, _, retOut X hx hret rfl (Or.inl ⟨rfl, Or.inl rfl, _, rfl⟩) hd hr, hrun, hended, _, _, rfl, hq, ⟨_, rfl⟩, hW, hsame.mono hc hs⟩
theorem own_retJ (X : Stand p l e R s m args below meth c T locs cells slots) (hx : p.tables.exec = Jvm.exec) (hk : meth.locks = false) {pc : Nat} {Ls : Array Slot} {z : Int64} {rest : List Value} (hret : meth.sig.returnType = some .long) (hd : decode c.code pc = .ok (.lreturn, 1))
    {Q : Option Value → Heap → List Loc → Prop} {kc ks : Nat} (hq : Q (some (.long z)) T.heap locs) (hc : cells ≤ kc) (hs : slots ≤ ks) : OwnGo p.tables e below (OwnEnd s Q kc ks) (T.setTop (mkF m pc Ls (.long z :: rest))) := by
  obtain ⟨fs, hr, hrun, hended, hW, hsame⟩ := X.leave (v := some (.long z)) (fun h => by rw [hret] at h; cases h) hk
  exact ⟨_, _, retOut X hx hret rfl (Or.inr (Or.inl ⟨rfl, rfl, _, rfl⟩)) hd hr, hrun, hended, _, _, rfl, hq, ⟨_, rfl⟩, hW, hsame.mono hc hs⟩
theorem own_retD (X : Stand p l e R s m args below meth c T locs cells slots) (hx : p.tables.exec = Jvm.exec) (hk : meth.locks = false) {pc : Nat} {Ls : Array Slot} {z : UInt64} {rest : List Value} (hret : meth.sig.returnType = some .double) (hd : decode c.code pc = .ok (.dreturn, 1))
    {Q : Option Value → Heap → List Loc → Prop} {kc ks : Nat} (hq : Q (some (.double z)) T.heap locs) (hc : cells ≤ kc) (hs : slots ≤ ks) : OwnGo p.tables e below (OwnEnd s Q kc ks) (T.setTop (mkF m pc Ls (.double z :: rest))) := by
  obtain ⟨fs, hr, hrun, hended, hW, hsame⟩ := X.leave (v := some (.double z)) (fun h => by rw [hret] at h; cases h) hk
  exact ⟨_, _, retOut X hx hret rfl (Or.inr (Or.inr (Or.inl ⟨rfl, rfl, _, rfl⟩))) hd hr, hrun, hended, _, _, rfl, hq, ⟨_, rfl⟩, hW, hsame.mono hc hs⟩
theorem own_retA (X : Stand p l e R s m args below meth c T locs cells slots) (hx : p.tables.exec = Jvm.exec) (hk : meth.locks = false) {pc : Nat} {Ls : Array Slot} {C : String} {w : Value} {rest : List Value} (hret : meth.sig.returnType = some (.object C)) (hd : decode c.code pc = .ok (.areturn, 1)) (hw : w.isRef = true)
    {Q : Option Value → Heap → List Loc → Prop} {kc ks : Nat} (hq : Q (some w) T.heap locs) (hc : cells ≤ kc) (hs : slots ≤ ks) : OwnGo p.tables e below (OwnEnd s Q kc ks) (T.setTop (mkF m pc Ls (w :: rest))) := by
  obtain ⟨fs, hr, hrun, hended, hW, hsame⟩ := X.leave (v := some w) (fun h => by rw [hret] at h; cases h) hk
  exact ⟨_, _, retOut X hx hret (by cases w <;> first | rfl | cases hw) (Or.inr (Or.inr (Or.inr (Or.inr ⟨rfl, rfl, hw⟩)))) hd hr, hrun, hended, _, _, rfl, hq, ⟨_, rfl⟩, hW, hsame.mono hc hs⟩
theorem own_ret0 (X : Stand p l e R s m args below meth c T locs cells slots) (hx : p.tables.exec = Jvm.exec) (hk : meth.locks = false) {pc : Nat} {Ls : Array Slot} (hret : meth.sig.returnType = none) (hd : decode c.code pc = .ok (.return_, 1))
    {Q : Option Value → Heap → List Loc → Prop} {kc ks : Nat} (hq : Q none T.heap locs) (hc : cells ≤ kc) (hs : slots ≤ ks) : OwnGo p.tables e below (OwnEnd s Q kc ks) (T.setTop (mkF m pc Ls [])) := by
  obtain ⟨fs, hr, hrun, hended, hW, hsame⟩ := X.leave (v := none) (fun _ => rfl) hk
  exact ⟨_, _, X.returnOut hx hret hd hr, hrun, hended, _, _, rfl, hq, ⟨_, rfl⟩, hW, hsame.mono hc hs⟩
theorem own_ldcD (X : Stand p l e R s m args below meth c T locs cells slots) (hx : p.tables.exec = Jvm.exec) {own : String} {index : Nat} {b : UInt64} (hown : s.vm.findClass own = some m.cls) (hconst : (Cond.constantDouble own index b).before args s = true) {g : JFrame} {target : State} (hg : g.method = m) (hd : decode c.code g.pc = .ok (.ldc2_w index, 3))
    (hr : Steps p.tables e below (T.setTop { g with pc := g.pc + 3, stack := .double b :: g.stack }) target) : Steps p.tables e below (T.setTop g) target := X.ldc2DoubleC hx hown hconst hg hd target hr
theorem own_ldcJ (X : Stand p l e R s m args below meth c T locs cells slots) (hx : p.tables.exec = Jvm.exec) {own : String} {index : Nat} {b : Int64} (hown : s.vm.findClass own = some m.cls) (hconst : (Cond.constantLong own index b).before args s = true) {g : JFrame} {target : State} (hg : g.method = m) (hd : decode c.code g.pc = .ok (.ldc2_w index, 3))
    (hr : Steps p.tables e below (T.setTop { g with pc := g.pc + 3, stack := .long b :: g.stack }) target) : Steps p.tables e below (T.setTop g) target := X.ldc2Long hx hown hconst hg hd target hr
theorem own_ldcI (X : Stand p l e R s m args below meth c T locs cells slots) (hx : p.tables.exec = Jvm.exec) {own : String} {index : Nat} {b : Int32} (hown : s.vm.findClass own = some m.cls) (hconst : (Cond.constant own index b).before args s = true) {g : JFrame} {target : State} (hg : g.method = m) (hd : decode c.code g.pc = .ok (.ldc index, 2))
    (hr : Steps p.tables e below (T.setTop { g with pc := g.pc + 2, stack := .int b :: g.stack }) target) : Steps p.tables e below (T.setTop g) target := X.ldcInt hx hown hconst hg hd target hr
end OwnEnds
theorem own_iadd {tb : Tables} [Ours tb] {e : Env} {below : List Frame} {T target : State} {m : MethodId} {c : Code} {g : JFrame} (h : At T m c below) (hx : tb.exec = Jvm.exec) (hg : g.method = m) {x : Int32} {y : Int32} {v : Int32} {rest : List Value} (hd : decode c.code g.pc = .ok (.iadd, 1)) (hs : g.stack = .int y :: .int x :: rest) (hv : x + y = v)
    (hr : Steps tb e below (T.setTop { g with pc := g.pc + 1, stack := .int v :: rest }) target) : Steps tb e below (T.setTop g) target := by subst hv; exact XS.iadd h hx hg hd hs hr
theorem own_isub {tb : Tables} [Ours tb] {e : Env} {below : List Frame} {T target : State} {m : MethodId} {c : Code} {g : JFrame} (h : At T m c below) (hx : tb.exec = Jvm.exec) (hg : g.method = m) {x : Int32} {y : Int32} {v : Int32} {rest : List Value} (hd : decode c.code g.pc = .ok (.isub, 1)) (hs : g.stack = .int y :: .int x :: rest) (hv : x - y = v)
    (hr : Steps tb e below (T.setTop { g with pc := g.pc + 1, stack := .int v :: rest }) target) : Steps tb e below (T.setTop g) target := by subst hv; exact XS.isub h hx hg hd hs hr
theorem own_iand {tb : Tables} [Ours tb] {e : Env} {below : List Frame} {T target : State} {m : MethodId} {c : Code} {g : JFrame} (h : At T m c below) (hx : tb.exec = Jvm.exec) (hg : g.method = m) {x : Int32} {y : Int32} {v : Int32} {rest : List Value} (hd : decode c.code g.pc = .ok (.iand, 1)) (hs : g.stack = .int y :: .int x :: rest) (hv : x &&& y = v)
    (hr : Steps tb e below (T.setTop { g with pc := g.pc + 1, stack := .int v :: rest }) target) : Steps tb e below (T.setTop g) target := by subst hv; exact XS.iand h hx hg hd hs hr
theorem own_ishl {tb : Tables} [Ours tb] {e : Env} {below : List Frame} {T target : State} {m : MethodId} {c : Code} {g : JFrame} (h : At T m c below) (hx : tb.exec = Jvm.exec) (hg : g.method = m) {x : Int32} {y : Int32} {v : Int32} {rest : List Value} (hd : decode c.code g.pc = .ok (.ishl, 1)) (hs : g.stack = .int y :: .int x :: rest) (hv : x <<< (y &&& 31) = v)
    (hr : Steps tb e below (T.setTop { g with pc := g.pc + 1, stack := .int v :: rest }) target) : Steps tb e below (T.setTop g) target := by subst hv; exact XT.ishl h hx hg hd hs hr
theorem own_ishr {tb : Tables} [Ours tb] {e : Env} {below : List Frame} {T target : State} {m : MethodId} {c : Code} {g : JFrame} (h : At T m c below) (hx : tb.exec = Jvm.exec) (hg : g.method = m) {x : Int32} {y : Int32} {v : Int32} {rest : List Value} (hd : decode c.code g.pc = .ok (.ishr, 1)) (hs : g.stack = .int y :: .int x :: rest) (hv : x >>> (y &&& 31) = v)
    (hr : Steps tb e below (T.setTop { g with pc := g.pc + 1, stack := .int v :: rest }) target) : Steps tb e below (T.setTop g) target := by subst hv; exact XT.ishr h hx hg hd hs hr
theorem own_iushr {tb : Tables} [Ours tb] {e : Env} {below : List Frame} {T target : State} {m : MethodId} {c : Code} {g : JFrame} (h : At T m c below) (hx : tb.exec = Jvm.exec) (hg : g.method = m) {x : Int32} {y : Int32} {v : Int32} {rest : List Value} (hd : decode c.code g.pc = .ok (.iushr, 1)) (hs : g.stack = .int y :: .int x :: rest) (hv : XT.ushr x y = v)
    (hr : Steps tb e below (T.setTop { g with pc := g.pc + 1, stack := .int v :: rest }) target) : Steps tb e below (T.setTop g) target := by subst hv; exact XT.iushr h hx hg hd hs hr
theorem own_irem {tb : Tables} [Ours tb] {e : Env} {below : List Frame} {T target : State} {m : MethodId} {c : Code} {g : JFrame} (h : At T m c below) (hx : tb.exec = Jvm.exec) (hg : g.method = m) {x : Int32} {y : Int32} {v : Int32} {rest : List Value} (hd : decode c.code g.pc = .ok (.irem, 1)) (hs : g.stack = .int y :: .int x :: rest) (hy : y ≠ 0) (hv : x - x / y * y = v)
    (hr : Steps tb e below (T.setTop { g with pc := g.pc + 1, stack := .int v :: rest }) target) : Steps tb e below (T.setTop g) target := by subst hv; exact XS.irem h hx hg hd hs hy hr
theorem own_ladd {tb : Tables} [Ours tb] {e : Env} {below : List Frame} {T target : State} {m : MethodId} {c : Code} {g : JFrame} (h : At T m c below) (hx : tb.exec = Jvm.exec) (hg : g.method = m) {x : Int64} {y : Int64} {v : Int64} {rest : List Value} (hd : decode c.code g.pc = .ok (.ladd, 1)) (hs : g.stack = .long y :: .long x :: rest) (hv : x + y = v)
    (hr : Steps tb e below (T.setTop { g with pc := g.pc + 1, stack := .long v :: rest }) target) : Steps tb e below (T.setTop g) target := by subst hv; exact XT.ladd h hx hg hd hs hr
theorem own_lsub {tb : Tables} [Ours tb] {e : Env} {below : List Frame} {T target : State} {m : MethodId} {c : Code} {g : JFrame} (h : At T m c below) (hx : tb.exec = Jvm.exec) (hg : g.method = m) {x : Int64} {y : Int64} {v : Int64} {rest : List Value} (hd : decode c.code g.pc = .ok (.lsub, 1)) (hs : g.stack = .long y :: .long x :: rest) (hv : x - y = v)
    (hr : Steps tb e below (T.setTop { g with pc := g.pc + 1, stack := .long v :: rest }) target) : Steps tb e below (T.setTop g) target := by subst hv; exact XT.lsub h hx hg hd hs hr
theorem own_lmul {tb : Tables} [Ours tb] {e : Env} {below : List Frame} {T target : State} {m : MethodId} {c : Code} {g : JFrame} (h : At T m c below) (hx : tb.exec = Jvm.exec) (hg : g.method = m) {x : Int64} {y : Int64} {v : Int64} {rest : List Value} (hd : decode c.code g.pc = .ok (.lmul, 1)) (hs : g.stack = .long y :: .long x :: rest) (hv : x * y = v)
    (hr : Steps tb e below (T.setTop { g with pc := g.pc + 1, stack := .long v :: rest }) target) : Steps tb e below (T.setTop g) target := by subst hv; exact XT.lmul h hx hg hd hs hr
theorem own_land {tb : Tables} [Ours tb] {e : Env} {below : List Frame} {T target : State} {m : MethodId} {c : Code} {g : JFrame} (h : At T m c below) (hx : tb.exec = Jvm.exec) (hg : g.method = m) {x : Int64} {y : Int64} {v : Int64} {rest : List Value} (hd : decode c.code g.pc = .ok (.land, 1)) (hs : g.stack = .long y :: .long x :: rest) (hv : x &&& y = v)
    (hr : Steps tb e below (T.setTop { g with pc := g.pc + 1, stack := .long v :: rest }) target) : Steps tb e below (T.setTop g) target := by subst hv; exact XT.land h hx hg hd hs hr
theorem own_lshl {tb : Tables} [Ours tb] {e : Env} {below : List Frame} {T target : State} {m : MethodId} {c : Code} {g : JFrame} (h : At T m c below) (hx : tb.exec = Jvm.exec) (hg : g.method = m) {x : Int64} {y : Int32} {v : Int64} {rest : List Value} (hd : decode c.code g.pc = .ok (.lshl, 1)) (hs : g.stack = .int y :: .long x :: rest) (hv : x <<< (y.toInt64 &&& 63) = v)
    (hr : Steps tb e below (T.setTop { g with pc := g.pc + 1, stack := .long v :: rest }) target) : Steps tb e below (T.setTop g) target := by subst hv; exact XT.lshl h hx hg hd hs hr
theorem own_lshr {tb : Tables} [Ours tb] {e : Env} {below : List Frame} {T target : State} {m : MethodId} {c : Code} {g : JFrame} (h : At T m c below) (hx : tb.exec = Jvm.exec) (hg : g.method = m) {x : Int64} {y : Int32} {v : Int64} {rest : List Value} (hd : decode c.code g.pc = .ok (.lshr, 1)) (hs : g.stack = .int y :: .long x :: rest) (hv : x >>> (y.toInt64 &&& 63) = v)
    (hr : Steps tb e below (T.setTop { g with pc := g.pc + 1, stack := .long v :: rest }) target) : Steps tb e below (T.setTop g) target := by subst hv; exact XT.lshr h hx hg hd hs hr
theorem own_lushr {tb : Tables} [Ours tb] {e : Env} {below : List Frame} {T target : State} {m : MethodId} {c : Code} {g : JFrame} (h : At T m c below) (hx : tb.exec = Jvm.exec) (hg : g.method = m) {x : Int64} {y : Int32} {v : Int64} {rest : List Value} (hd : decode c.code g.pc = .ok (.lushr, 1)) (hs : g.stack = .int y :: .long x :: rest) (hv : XT.ushrL x y = v)
    (hr : Steps tb e below (T.setTop { g with pc := g.pc + 1, stack := .long v :: rest }) target) : Steps tb e below (T.setTop g) target := by subst hv; exact XT.lushr h hx hg hd hs hr
theorem own_lrem {tb : Tables} [Ours tb] {e : Env} {below : List Frame} {T target : State} {m : MethodId} {c : Code} {g : JFrame} (h : At T m c below) (hx : tb.exec = Jvm.exec) (hg : g.method = m) {x : Int64} {y : Int64} {v : Int64} {rest : List Value} (hd : decode c.code g.pc = .ok (.lrem, 1)) (hs : g.stack = .long y :: .long x :: rest) (hy : y ≠ 0) (hv : x - (x / y) * y = v)
    (hr : Steps tb e below (T.setTop { g with pc := g.pc + 1, stack := .long v :: rest }) target) : Steps tb e below (T.setTop g) target := by subst hv; exact XT.lrem h hx hg hd hs hy hr
theorem own_lcmp {tb : Tables} [Ours tb] {e : Env} {below : List Frame} {T target : State} {m : MethodId} {c : Code} {g : JFrame} (h : At T m c below) (hx : tb.exec = Jvm.exec) (hg : g.method = m) {x : Int64} {y : Int64} {v : Int32} {rest : List Value} (hd : decode c.code g.pc = .ok (.lcmp, 1)) (hs : g.stack = .long y :: .long x :: rest) (hv : XT.cmpL x y = v)
    (hr : Steps tb e below (T.setTop { g with pc := g.pc + 1, stack := .int v :: rest }) target) : Steps tb e below (T.setTop g) target := by subst hv; exact XT.lcmp h hx hg hd hs hr
theorem own_lneg {tb : Tables} [Ours tb] {e : Env} {below : List Frame} {T target : State} {m : MethodId} {c : Code} {g : JFrame} (h : At T m c below) (hx : tb.exec = Jvm.exec) (hg : g.method = m) {x : Int64} {v : Int64} {rest : List Value} (hd : decode c.code g.pc = .ok (.lneg, 1)) (hs : g.stack = .long x :: rest) (hv : -x = v)
    (hr : Steps tb e below (T.setTop { g with pc := g.pc + 1, stack := .long v :: rest }) target) : Steps tb e below (T.setTop g) target := by subst hv; exact XT.lneg h hx hg hd hs hr
theorem own_i2l {tb : Tables} [Ours tb] {e : Env} {below : List Frame} {T target : State} {m : MethodId} {c : Code} {g : JFrame} (h : At T m c below) (hx : tb.exec = Jvm.exec) (hg : g.method = m) {x : Int32} {v : Int64} {rest : List Value} (hd : decode c.code g.pc = .ok (.i2l, 1)) (hs : g.stack = .int x :: rest) (hv : x.toInt64 = v)
    (hr : Steps tb e below (T.setTop { g with pc := g.pc + 1, stack := .long v :: rest }) target) : Steps tb e below (T.setTop g) target := by subst hv; exact XT.i2l h hx hg hd hs hr
theorem own_l2i {tb : Tables} [Ours tb] {e : Env} {below : List Frame} {T target : State} {m : MethodId} {c : Code} {g : JFrame} (h : At T m c below) (hx : tb.exec = Jvm.exec) (hg : g.method = m) {x : Int64} {v : Int32} {rest : List Value} (hd : decode c.code g.pc = .ok (.l2i, 1)) (hs : g.stack = .long x :: rest) (hv : x.toInt32 = v)
    (hr : Steps tb e below (T.setTop { g with pc := g.pc + 1, stack := .int v :: rest }) target) : Steps tb e below (T.setTop g) target := by subst hv; exact XT.l2i h hx hg hd hs hr
theorem own_ineg {tb : Tables} [Ours tb] {e : Env} {below : List Frame} {T target : State} {m : MethodId} {c : Code} {g : JFrame} (h : At T m c below) (hx : tb.exec = Jvm.exec) (hg : g.method = m) {x : Int32} {v : Int32} {rest : List Value} (hd : decode c.code g.pc = .ok (.ineg, 1)) (hs : g.stack = .int x :: rest) (hv : -x = v)
    (hr : Steps tb e below (T.setTop { g with pc := g.pc + 1, stack := .int v :: rest }) target) : Steps tb e below (T.setTop g) target := by subst hv; exact XS.ineg h hx hg hd hs hr
section OwnFP2
open Jvm.FP.Core
/-- what a condition asks of two whole numbers -/
def own_rel : ClassFile.Cond → Int → Int → Bool
  | .eq, i, j => decide (i = j)
  | .ne, i, j => decide (i ≠ j)
  | .lt, i, j => decide (i < j)
  | .ge, i, j => decide (j ≤ i)
  | .gt, i, j => decide (j < i)
  | .le, i, j => decide (i ≤ j)
theorem own_br2 (cd : ClassFile.Cond) (x y : Int32) : if_icmp.holds cd x y = own_rel cd x.toInt y.toInt := by
  cases cd
  · show (x == y) = decide (x.toInt = y.toInt)
    by_cases h : x = y
    · subst h; simp
    · rw [beq_eq_false_iff_ne.mpr h, decide_eq_false (fun q => h (Int32.toInt_inj.mp q))]
  · show (x != y) = decide (x.toInt ≠ y.toInt)
    by_cases h : x = y
    · subst h; simp
    · rw [bne_iff_ne.mpr h]; exact (decide_eq_true (p := x.toInt ≠ y.toInt) (fun q => h (Int32.toInt_inj.mp q))).symm
  · exact decide_eq_decide.mpr Int32.lt_iff_toInt_lt
  · exact decide_eq_decide.mpr Int32.le_iff_toInt_le
  · exact decide_eq_decide.mpr Int32.lt_iff_toInt_lt
  · exact decide_eq_decide.mpr Int32.le_iff_toInt_le
theorem own_br0 (cd : ClassFile.Cond) (x : Int32) : ifCond.holds cd x = own_rel cd x.toInt 0 := by
  have h : ifCond.holds cd x = if_icmp.holds cd x 0 := by cases cd <;> rfl
  rw [h, own_br2]; rfl
theorem own_rel_iff (cd : ClassFile.Cond) {i j i' j' : Int} (h1 : i < j ↔ i' < j') (h2 : i = j ↔ i' = j') : own_rel cd i j = own_rel cd i' j' := by
  cases cd
  · exact decide_eq_decide.mpr h2
  · exact decide_eq_decide.mpr (not_congr h2)
  · exact decide_eq_decide.mpr h1
  · exact decide_eq_decide.mpr (by omega)
  · exact decide_eq_decide.mpr (by omega)
  · exact decide_eq_decide.mpr (by omega)
theorem own_sgn3 (cd : ClassFile.Cond) {z : Int32} {i j : Int} (h : (i < j ∧ z = -1) ∨ (i = j ∧ z = 0) ∨ (j < i ∧ z = 1)) : ifCond.holds cd z = own_rel cd i j := by
  rw [own_br0]
  refine own_rel_iff cd ?_ ?_ <;> rcases h with ⟨h1, rfl⟩ | ⟨h1, rfl⟩ | ⟨h1, rfl⟩
  · have e1 : (-1 : Int32).toInt = -1 := rfl
    omega
  · have e1 : (0 : Int32).toInt = 0 := rfl
    omega
  · have e1 : (1 : Int32).toInt = 1 := rfl
    omega
  · have e1 : (-1 : Int32).toInt = -1 := rfl
    omega
  · have e1 : (0 : Int32).toInt = 0 := rfl
    omega
  · have e1 : (1 : Int32).toInt = 1 := rfl
    omega
theorem own_brL (cd : ClassFile.Cond) (x y : Int64) : ifCond.holds cd (XT.cmpL x y) = own_rel cd x.toInt y.toInt := by
  refine own_sgn3 cd ?_
  have h := @Int64.toInt_inj x y
  by_cases h1 : y < x
  · refine Or.inr (Or.inr ⟨Int64.lt_iff_toInt_lt.mp h1, ?_⟩)
    show (if y < x then (1 : Int32) else if x = y then 0 else -1) = 1
    rw [if_pos h1]
  · by_cases h2 : x = y
    · refine Or.inr (Or.inl ⟨h.mpr h2, ?_⟩)
      show (if y < x then (1 : Int32) else if x = y then 0 else -1) = 0
      rw [if_neg h1, if_pos h2]
    · refine Or.inl ⟨?_, ?_⟩
      · rw [Int64.lt_iff_toInt_lt] at h1
        have : x.toInt ≠ y.toInt := fun q => h2 (h.mp q)
        omega
      · show (if y < x then (1 : Int32) else if x = y then 0 else -1) = -1
        rw [if_neg h1, if_neg h2]
theorem own_brD (cd : ClassFile.Cond) {k i j : Int} {a b : UInt64} (ha : OwnDS k i a) (hb : OwnDS k j b) (o : CmpOp) : ifCond.holds cd (cmpValue (FP.dcmp a b) o) = own_rel cd i j := by
  have hc : FP.dcmp a b = some (compare i j) := own_ds_cmp ha hb
  rw [hc]
  refine own_sgn3 cd ?_
  rcases Int.lt_trichotomy i j with q | q | q
  · refine Or.inl ⟨q, ?_⟩
    rw [show compare i j = .lt from Int.compare_eq_lt.mpr q]; rfl
  · refine Or.inr (Or.inl ⟨q, ?_⟩)
    rw [show compare i j = .eq from Int.compare_eq_eq.mpr q]; rfl
  · refine Or.inr (Or.inr ⟨q, ?_⟩)
    rw [show compare i j = .gt from Int.compare_eq_gt.mpr q]; rfl
theorem own_nn {k i : Int} {a : UInt64} (h : OwnDS k i a) : Jvm.Free.Fl.NoNaN64 a := Jvm.Free.Fl.val64_no.mpr (own_ds_ne_nan h)
theorem own_i2d (x : Int32) : OwnDS 0 x.toInt (FP.i2d x) := own_ds_int (i2d_int x)
theorem own_l2d {x : Int64} {i : Int} (h : x.toInt = i) (hb : i.natAbs ≤ 9007199254740992) : OwnDS 0 i (FP.l2d x) := by
  subst h; exact own_ds_int (l2d_int (by omega))
theorem own_i32 (x : Int32) : -2147483648 ≤ x.toInt ∧ x.toInt ≤ 2147483648 := by
  have h1 := x.toInt_lt
  have h2 := x.le_toInt
  omega
theorem own_mul_bd {i j A B : Int} (h1 : -A ≤ i ∧ i ≤ A) (h2 : -B ≤ j ∧ j ≤ B) : -(A * B) ≤ i * j ∧ i * j ≤ A * B := by
  have ha : i.natAbs ≤ A.toNat := by omega
  have hb : j.natAbs ≤ B.toNat := by omega
  have h := Nat.mul_le_mul ha hb
  rw [← Int.natAbs_mul] at h
  have e : ((A.toNat * B.toNat : Nat) : Int) = A * B := by
    rw [Int.natCast_mul, Int.toNat_of_nonneg (by omega), Int.toNat_of_nonneg (by omega)]
  generalize A.toNat * B.toNat = n at h e
  omega
theorem own_d2l {i : Int} {a : UInt64} (h : OwnDS 0 i a) (hb : i.natAbs ≤ 9007199254740992) : (FP.d2l a).toInt = i := by
  have e : (Int64.ofInt i).toInt = i := by rw [Int64.toInt_ofInt]; exact Jvm.Kit.bmod64 (by omega) (by omega)
  have q : FP.d2l a = Int64.ofInt i := d2l_int (a := Int64.ofInt i) (b := a) (by rw [e]; exact own_int_ds h)
  rw [q, e]
theorem own_ds_neg {k i : Int} {a : UInt64} (h : OwnDS k i a) : OwnDS k (-i) (FP.dneg a) := by
  show OwnSc _ _ _
  rw [Jvm.FP.val64_dneg]; exact own_sc_neg h
theorem own_fin {k i : Int} {a : UInt64} (h : OwnDS k i a) : DFin a := by
  obtain ⟨s, c, q, hv, -⟩ := own_sc_fin h
  exact ⟨s, c, q, hv⟩
theorem own_isfin {a : UInt64} (h : DFin a) : ifCond.holds .gt (cmpValue (FP.dcmp (a &&& 0x7fffffffffffffff) 9218868437227405311) .g) = false := by
  have hn : dIsNaN a = false := (notNaN_iff a).mpr (by obtain ⟨s, c, q, hv⟩ := h; rw [hv]; exact Datum.noConfusion)
  have q : FP.dcmp (a &&& 0x7fffffffffffffff) 9218868437227405311 = some .lt ∨ FP.dcmp (a &&& 0x7fffffffffffffff) 9218868437227405311 = some .eq := (le_max hn).mpr h
  rcases q with q | q <;> rw [q] <;> rfl
theorem own_bd_add {i j A B C : Int} (h1 : -A ≤ i ∧ i ≤ A) (h2 : -B ≤ j ∧ j ≤ B) (hC : A + B = C) : -C ≤ i + j ∧ i + j ≤ C := by omega
theorem own_bd_sub {i j A B C : Int} (h1 : -A ≤ i ∧ i ≤ A) (h2 : -B ≤ j ∧ j ≤ B) (hC : A + B = C) : -C ≤ i - j ∧ i - j ≤ C := by omega
theorem own_bd_mul {i j A B C : Int} (h1 : -A ≤ i ∧ i ≤ A) (h2 : -B ≤ j ∧ j ≤ B) (hC : A * B = C) : -C ≤ i * j ∧ i * j ≤ C := hC ▸ own_mul_bd h1 h2
theorem own_bd_neg {i A : Int} (h1 : -A ≤ i ∧ i ≤ A) : -A ≤ -i ∧ -i ≤ A := by omega
theorem own_bd_nat {i C : Int} {n : Nat} (h : -C ≤ i ∧ i ≤ C) (hC : C < ((2 ^ n : Nat) : Int)) : i.natAbs < 2 ^ n := by
  generalize 2 ^ n = N at hC
  omega
theorem own_bd_le {i A C : Int} (h : -A ≤ i ∧ i ≤ A) (hC : A ≤ C) : -C ≤ i ∧ i ≤ C := by omega
theorem own_lf_add {x y v : Int64} {i j A B k : Int} (hv : x + y = v) (Fx : x.toInt = i) (Fy : y.toInt = j) (b1 : -A ≤ i ∧ i ≤ A) (b2 : -B ≤ j ∧ j ≤ B) (hC : A + B < 9223372036854775808) (hk : k = i + j) : v.toInt = k := by
  subst hv hk; rw [Jvm.Kit.i64_add (by rw [Fx, Fy]; omega) (by rw [Fx, Fy]; omega), Fx, Fy]
theorem own_lf_sub {x y v : Int64} {i j A B k : Int} (hv : x - y = v) (Fx : x.toInt = i) (Fy : y.toInt = j) (b1 : -A ≤ i ∧ i ≤ A) (b2 : -B ≤ j ∧ j ≤ B) (hC : A + B < 9223372036854775808) (hk : k = i - j) : v.toInt = k := by
  subst hv hk; rw [Jvm.Kit.i64_sub (by rw [Fx, Fy]; omega) (by rw [Fx, Fy]; omega), Fx, Fy]
theorem own_lf_mul {x y v : Int64} {i j A B k : Int} (hv : x * y = v) (Fx : x.toInt = i) (Fy : y.toInt = j) (b1 : -A ≤ i ∧ i ≤ A) (b2 : -B ≤ j ∧ j ≤ B) (hC : A * B < 9223372036854775808) (hk : k = i * j) : v.toInt = k := by
  have q := own_mul_bd b1 b2
  subst hv hk; rw [Jvm.Kit.i64_mul (by rw [Fx, Fy]; omega) (by rw [Fx, Fy]; omega), Fx, Fy]
theorem own_lf_neg {x v : Int64} {i A k : Int} (hv : -x = v) (Fx : x.toInt = i) (b1 : -A ≤ i ∧ i ≤ A) (hC : A < 9223372036854775808) (hk : k = -i) : v.toInt = k := by
  subst hv hk; rw [Jvm.Kit.i64_neg (by omega), Fx]
theorem own_l2db {x : Int64} {i A : Int} (h : x.toInt = i) (b1 : -A ≤ i ∧ i ≤ A) (hC : A ≤ 9007199254740992) : OwnDS 0 i (FP.l2d x) := own_l2d h (by omega)
theorem own_d2lb {i A : Int} {a : UInt64} (h : OwnDS 0 i a) (b1 : -A ≤ i ∧ i ≤ A) (hC : A ≤ 9007199254740992) : (FP.d2l a).toInt = i := own_d2l h (by omega)
end OwnFP2
/-- an array of doubles by its list -/
def OwnDA (Z : State) (h : Heap) (o : Addr) (vs : List UInt64) : Prop := ∃ c : Cell, Jvm.RoadKit.Arr Z h o c .double ∧ c.slots = (vs.map Value.double).toArray
section OwnDAs
variable {Z : State} {h h' : Heap} {o b : Addr} {vs : List UInt64} {sl : Nat} {w : Value} {ws : List Addr}
theorem OwnDA.lt (A : OwnDA Z h o vs) : o < h.size := by obtain ⟨c, A, -⟩ := A; exact A.lt
theorem OwnDA.ex (A : OwnDA Z h o vs) (E : Ext h h') : OwnDA Z h' o vs := by obtain ⟨c, A, q⟩ := A; exact ⟨c, A.ext E, q⟩
theorem OwnDA.ot (A : OwnDA Z h o vs) (W : Wr h h' b sl w) (q : o ≠ b) : OwnDA Z h' o vs := by obtain ⟨c, A, r⟩ := A; exact ⟨c, A.other W q, r⟩
theorem OwnDA.kp (A : OwnDA Z h o vs) (K : Keep h h' ws) (q : o ∉ ws) : OwnDA Z h' o vs := by obtain ⟨c, A, r⟩ := A; exact ⟨c, ⟨K.2.1 o c A.1 q, A.2⟩, r⟩
theorem OwnDA.nw {k : ClassId} {z : Int32} (A : Jvm.RoadKit.Arr Z h o (newA k .double z) .double) (n : Nat) (hn : z.toNatClampNeg = n) : OwnDA Z h o (List.replicate n 0) := by
  refine ⟨_, A, ?_⟩
  show Array.replicate z.toNatClampNeg (Value.double 0) = _
  rw [hn]; simp
theorem OwnDA.st {x : UInt64} {i : Nat} (A : OwnDA Z h o vs) (W : Wr h h' o i (.double x)) : OwnDA Z h' o (vs.set i x) := by
  obtain ⟨c, A, r⟩ := A
  refine ⟨_, A.same W, ?_⟩
  show c.slots.setIfInBounds i (.double x) = _
  rw [r]; simp [List.map_set]
variable {p : Program} {l : Launch} {e : Env} {R : Room} {s : State} {m : MethodId} {args : Array Value} {below : List Frame} {meth : Method} {c : Code} {T : State} {locs : List Loc} {cells slots : Nat}
theorem own_daS (X : Stand p l e R s m args below meth c T locs cells slots) (hx : p.tables.exec = Jvm.exec) (hZ : Z.Warmed39 s.vm) (eT : T.heap = h) (A : OwnDA Z h o vs) {j : Int32} {x : UInt64} {i : Nat} (hj : ¬ j < 0) (hji : j.toNatClampNeg = i) (hi : i < vs.length) {g : JFrame} (hg : g.method = m) {rest : List Value} (hs : g.stack = .double x :: .int j :: .ref o :: rest) (hd : decode c.code g.pc = .ok (.dastore, 1)) :
    ∃ T' h', Stand p l e R s m args below meth c T' (locs ++ [⟨o, i⟩]) cells slots ∧ T'.heap = h' ∧ Wr h h' o i (.double x) ∧ OwnDA Z h' o (vs.set i x) ∧ ∀ target, Steps p.tables e below (T'.setTop { g with pc := g.pc + 1, stack := rest }) target → Steps p.tables e below (T.setTop g) target := by
  subst hji
  obtain ⟨cl, A', r⟩ := A
  have hz : cl.slots.size = vs.length := by rw [r]; simp
  obtain ⟨T', h', X', e', W, st⟩ := stD X hx hZ eT A' (j := j) (x := x) (fun q => q.elim hj (fun q => by omega)) hg hs hd
  exact ⟨T', h', X', e', W, OwnDA.st ⟨cl, A', r⟩ W, st⟩
theorem own_daL (X : Stand p l e R s m args below meth c T locs cells slots) (hx : p.tables.exec = Jvm.exec) (hZ : Z.Warmed39 s.vm) (eT : T.heap = h) (A : OwnDA Z h o vs) {j : Int32} {x : UInt64} {i : Nat} (hj : ¬ j < 0) (hji : j.toNatClampNeg = i) (hv : vs[i]? = some x) {g : JFrame} (hg : g.method = m) {rest : List Value} (hs : g.stack = .int j :: .ref o :: rest) (hd : decode c.code g.pc = .ok (.daload, 1)) {target : State}
    (hr : Steps p.tables e below (T.setTop { g with pc := g.pc + 1, stack := .double x :: rest }) target) : Steps p.tables e below (T.setTop g) target := by
  subst hji
  obtain ⟨cl, A', r⟩ := A
  have hz : cl.slots.size = vs.length := by rw [r]; simp
  have hi : j.toNatClampNeg < vs.length := (List.getElem?_eq_some_iff.mp hv).1
  exact X.daload hx (j := j) (v := .double x) (by rw [eT]; exact A'.1) (State.isArrayOf_alike hZ.alike A'.2.1) A'.2.2 (fun q => q.elim hj (fun q => by omega)) (by rw [r]; simp [hv]) hg hs hd target hr
theorem own_newD (X : Stand p l e R s m args below meth c T locs cells slots) (hx : p.tables.exec = Jvm.exec) (hZ : Z.Warmed39 s.vm) {a0 : Array Value} (w : (Cond.arrayClass .double).before a0 Z = true) (eT : T.heap = h) {g : JFrame} (hg : g.method = m) (hd : decode c.code g.pc = .ok (.newarray .double, 2)) {z : Int32} {n : Nat} {rest : List Value} (hs : g.stack = .int z :: rest) (hz : ¬ z < 0) (hn : z.toNatClampNeg = n) (hb : n * 8 ≤ 536870912) (hc : cells + 1 ≤ R.cells) (hl : slots + n ≤ R.slots) :
    ∃ T' h', Stand p l e R s m args below meth c T' locs (cells + 1) (slots + n) ∧ T'.heap = h' ∧ Ext h h' ∧ OwnDA Z h' h.size (List.replicate n 0) ∧ ∀ target, Steps p.tables e below (T'.setTop { g with pc := g.pc + 2, stack := .ref h.size :: rest }) target → Steps p.tables e below (T.setTop g) target := by
  obtain ⟨T', h', cA, X', e', E, A, st⟩ := newP X hx hZ (aty := .double) w eT hg hd hs hz (cap := n) (Nat.le_of_eq hn) hb hc hl
  exact ⟨T', h', X', e', E, OwnDA.nw A n hn, st⟩
end OwnDAs
theorem own_and3 (x : Int32) : x &&& 3 = 0 ∨ x &&& 3 = 1 ∨ x &&& 3 = 2 ∨ x &&& 3 = 3 := by
  have q := Jvm.Kit.i32_mask x 3 (k := 2) (by decide) (by decide)
  have h0 : (0 : Int32).toInt = 0 := rfl
  have h1 : (1 : Int32).toInt = 1 := rfl
  have h2 : (2 : Int32).toInt = 2 := rfl
  have h3 : (3 : Int32).toInt = 3 := rfl
  rw [← Int32.toInt_inj, ← Int32.toInt_inj, ← Int32.toInt_inj, ← Int32.toInt_inj, h0, h1, h2, h3]
  omega
theorem own_half : OwnDS (-1) 1 4602678819172646912 := by
  show OwnSc (-1) 1 (Jvm.FP.Core.val64 4602678819172646912)
  rw [show Jvm.FP.Core.val64 4602678819172646912 = .fin false 4503599627370496 (-53) from by decide +kernel]
  show Jvm.FP.Core.signed false _ = _
  decide +kernel
theorem own_two : OwnDS 1 1 4611686018427387904 := by
  show OwnSc 1 1 (Jvm.FP.Core.val64 4611686018427387904)
  rw [show Jvm.FP.Core.val64 4611686018427387904 = .fin false 4503599627370496 (-51) from by decide +kernel]
  show Jvm.FP.Core.signed false _ = _
  decide +kernel
theorem own_b1 : -1 ≤ (1 : Int) ∧ (1 : Int) ≤ 1 := by omega
theorem d1_0 : decode method_2_code 0 = .ok (.iload_n 0, 1) := by decide +kernel
theorem d1_1 : decode method_2_code 1 = .ok (.bipush 8, 2) := by decide +kernel
theorem d1_3 : decode method_2_code 3 = .ok (.ishl, 1) := by decide +kernel
theorem d1_4 : decode method_2_code 4 = .ok (.bipush 8, 2) := by decide +kernel
theorem d1_6 : decode method_2_code 6 = .ok (.ishr, 1) := by decide +kernel
theorem d1_7 : decode method_2_code 7 = .ok (.i2l, 1) := by decide +kernel
theorem d1_8 : decode method_2_code 8 = .ok (.lreturn, 1) := by decide +kernel
theorem pn_rmS : plainName "com/example/isochron/isochron/dsp/FourierJoinPinLaw" = true := by first | (simp [plainName, overriddenIn]; done) | decide +kernel
theorem pd_rmS : parseMethodDescriptor "(I)J" = some ⟨[.int], (some .long)⟩ := by decide +kernel
theorem ef_rmS (m : MethodId) (y : Int32) : entryFrame m #[(.int y)] 1 = (mkF m 0 #[sI y] []) := by first | (simp [entryFrame, mkF, argsToLocals, Value.category, maxLocals]; done) | rfl
def Q_rmS (Z : State) (y : Int32) (h0 : Heap) (n0 : Nat) (v : Option Value) (h : Heap) (L : List Loc) : Prop := ∃ r, v = some (.long r) ∧ (-8388608 ≤ r.toInt ∧ r.toInt ≤ 8388608) ∧ Fr n0 L ∧ h = h0
set_option maxRecDepth 65536 in
set_option maxHeartbeats 40000000 in
theorem rmS (l : Launch) (Z : State) (a0 : Array Value) (hw : ∀ d ∈ tables_1, d.before a0 Z = true) (ws : List Jvm.Cond) (y : Int32) (h0 : Heap) (n0 : Nat) (Z0 : n0 ≤ h0.size)  :
    MetFree l (⟨"com/example/isochron/isochron/dsp/FourierJoinPinLaw", "sext", "(I)J"⟩ : MethodName) (head1 (Jvm.Cond.code (⟨"com/example/isochron/isochron/dsp/FourierJoinPinLaw", "sext", "(I)J"⟩ : MethodName) method_2_code 1 (some .long) :: ws) ({ frames := 0, cells := 0, slots := 0, locals := 0 } : Room)) (fun a U => a = #[(.int y)] ∧ Z.Warmed39 U.vm ∧ U.heap = h0) (fun _ _ _ _ _ => True) (fun _ U oO U' => ∃ v L, oO = .returned v ∧ Q_rmS Z y h0 n0 v U'.heap L ∧ FrameEnd U oO U' L ({ frames := 0, cells := 0, slots := 0, locals := 0 } : Room).cells ({ frames := 0, cells := 0, slots := 0, locals := 0 } : Room).slots) := by
  refine MetFree.of_bodySF (plainFor_of_name pn_rmS) hisR ?_
  intro p e s m args below meth c s₁ Bd hml0 hP hK
  obtain ⟨rfl, hZ, hh⟩ := hP
  have hx := Bd.exec
  have hby := Bd.bytes
  have hml : c.maxLocals = 1 := hml0
  have hown : s.vm.findClass "com/example/isochron/isochron/dsp/FourierJoinPinLaw" = some m.cls := findClass_of_methodNamed Bd.named
  have hnm := (name_of_methodNamed Bd.named Bd.method).1
  have hk := Bd.notSynchronized
  have hrt := Bd.returns
  have X0 : Stand p l e ({ frames := 0, cells := 0, slots := 0, locals := 0 } : Room) s m #[(.int y)] below meth c s₁ [] 0 0 := Stand.of_body Bd
  have e0 : s₁.heap = h0 := by rw [← hh, Bd.state]; rfl
  have N0 := Fr.nil n0
  show OwnGo p.tables e below (OwnEnd s (Q_rmS Z y h0 n0) ({ frames := 0, cells := 0, slots := 0, locals := 0 } : Room).cells ({ frames := 0, cells := 0, slots := 0, locals := 0 } : Room).slots) _
  refine OwnGo.pre (fun t k => castTop (ef_rmS m y) k) ?_
  show OwnGo _ _ _ _ (s₁.setTop (mkF m 0 #[sI y] []))
  obtain ⟨sl, hsl⟩ : ∃ v, y <<< ((8 : Int32) &&& 31) = v := ⟨_, rfl⟩
  obtain ⟨rr, hrr⟩ : ∃ v, sl >>> ((8 : Int32) &&& 31) = v := ⟨_, rfl⟩
  obtain ⟨rl, hrl⟩ : ∃ v, rr.toInt64 = v := ⟨_, rfl⟩
  have bb : -8388608 ≤ rl.toInt ∧ rl.toInt ≤ 8388608 := by have q := Jvm.Kit.i32_shr sl ((8 : Int32) &&& 31) (k := 8) (by decide); have q1 := sl.toInt_lt; have q2 := sl.le_toInt; have q3 := Jvm.Kit.i64_of_i32 rr; rw [hrr] at q; rw [hrl] at q3; omega
  refine OwnGo.pre (fun t k => XS.iloadN X0.here hx rfl (hb hby d1_0) rfl (XS.bipush X0.here hx rfl (hb hby d1_1) (own_ishl X0.here hx rfl (hb hby d1_3) rfl hsl (XS.bipush X0.here hx rfl (hb hby d1_4) (own_ishr X0.here hx rfl (hb hby d1_6) rfl hrr (own_i2l X0.here hx rfl (hb hby d1_7) rfl hrl k)))))) ?_
  show OwnGo _ _ _ _ (s₁.setTop (mkF m 8 #[sI y] [(.long rl)]))
  exact own_retJ X0 hx hk hrt (hb hby d1_8) ⟨_, rfl, bb, N0, e0⟩ (by decide) (by decide)
theorem d3_0 : decode method_4_code 0 = .ok (.lload_n 0, 1) := by decide +kernel
theorem d3_1 : decode method_4_code 1 = .ok (.lload 4, 2) := by decide +kernel
theorem d3_3 : decode method_4_code 3 = .ok (.lmul, 1) := by decide +kernel
theorem d3_4 : decode method_4_code 4 = .ok (.lload_n 2, 1) := by decide +kernel
theorem d3_5 : decode method_4_code 5 = .ok (.lload 6, 2) := by decide +kernel
theorem d3_7 : decode method_4_code 7 = .ok (.lmul, 1) := by decide +kernel
theorem d3_8 : decode method_4_code 8 = .ok (.lsub, 1) := by decide +kernel
theorem d3_9 : decode method_4_code 9 = .ok (.lreturn, 1) := by decide +kernel
theorem pn_rmRe : plainName "com/example/isochron/isochron/dsp/FourierJoinPinLaw" = true := by first | (simp [plainName, overriddenIn]; done) | decide +kernel
theorem pd_rmRe : parseMethodDescriptor "(JJJJ)J" = some ⟨[.long, .long, .long, .long], (some .long)⟩ := by decide +kernel
theorem ef_rmRe (m : MethodId) (qa qb qc qd : Int64) (ia ib ic id : Int) : entryFrame m #[(.long qa), (.long qb), (.long qc), (.long qd)] 8 = (mkF m 0 #[sJ qa, uS, sJ qb, uS, sJ qc, uS, sJ qd, uS] []) := by first | (simp [entryFrame, mkF, argsToLocals, Value.category, maxLocals]; done) | rfl
def Q_rmRe (Z : State) (qa qb qc qd : Int64) (ia ib ic id : Int) (h0 : Heap) (n0 : Nat) (v : Option Value) (h : Heap) (L : List Loc) : Prop := ∃ r, v = some (.long r) ∧ r.toInt = ia * ic - ib * id ∧ Fr n0 L ∧ h = h0
set_option maxRecDepth 65536 in
set_option maxHeartbeats 40000000 in
theorem rmRe (l : Launch) (Z : State) (a0 : Array Value) (hw : ∀ d ∈ tables_1, d.before a0 Z = true) (ws : List Jvm.Cond) (qa qb qc qd : Int64) (ia ib ic id : Int) (h0 : Heap) (n0 : Nat) (Z0 : n0 ≤ h0.size) (Fa : qa.toInt = ia) (Ya : -16777216 ≤ ia ∧ ia ≤ 16777216) (Fb : qb.toInt = ib) (Yb : -16777216 ≤ ib ∧ ib ≤ 16777216) (Fc : qc.toInt = ic) (Yc : -16777216 ≤ ic ∧ ic ≤ 16777216) (Fd : qd.toInt = id) (Yd : -16777216 ≤ id ∧ id ≤ 16777216) :
    MetFree l (⟨"com/example/isochron/isochron/dsp/FourierJoinPinLaw", "mulRe", "(JJJJ)J"⟩ : MethodName) (head1 (Jvm.Cond.code (⟨"com/example/isochron/isochron/dsp/FourierJoinPinLaw", "mulRe", "(JJJJ)J"⟩ : MethodName) method_4_code 8 (some .long) :: ws) ({ frames := 0, cells := 0, slots := 0, locals := 0 } : Room)) (fun a U => a = #[(.long qa), (.long qb), (.long qc), (.long qd)] ∧ Z.Warmed39 U.vm ∧ U.heap = h0) (fun _ _ _ _ _ => True) (fun _ U oO U' => ∃ v L, oO = .returned v ∧ Q_rmRe Z qa qb qc qd ia ib ic id h0 n0 v U'.heap L ∧ FrameEnd U oO U' L ({ frames := 0, cells := 0, slots := 0, locals := 0 } : Room).cells ({ frames := 0, cells := 0, slots := 0, locals := 0 } : Room).slots) := by
  refine MetFree.of_bodySF (plainFor_of_name pn_rmRe) hisR ?_
  intro p e s m args below meth c s₁ Bd hml0 hP hK
  obtain ⟨rfl, hZ, hh⟩ := hP
  have hx := Bd.exec
  have hby := Bd.bytes
  have hml : c.maxLocals = 8 := hml0
  have hown : s.vm.findClass "com/example/isochron/isochron/dsp/FourierJoinPinLaw" = some m.cls := findClass_of_methodNamed Bd.named
  have hnm := (name_of_methodNamed Bd.named Bd.method).1
  have hk := Bd.notSynchronized
  have hrt := Bd.returns
  have X0 : Stand p l e ({ frames := 0, cells := 0, slots := 0, locals := 0 } : Room) s m #[(.long qa), (.long qb), (.long qc), (.long qd)] below meth c s₁ [] 0 0 := Stand.of_body Bd
  have e0 : s₁.heap = h0 := by rw [← hh, Bd.state]; rfl
  have N0 := Fr.nil n0
  show OwnGo p.tables e below (OwnEnd s (Q_rmRe Z qa qb qc qd ia ib ic id h0 n0) ({ frames := 0, cells := 0, slots := 0, locals := 0 } : Room).cells ({ frames := 0, cells := 0, slots := 0, locals := 0 } : Room).slots) _
  refine OwnGo.pre (fun t k => castTop (ef_rmRe m qa qb qc qd ia ib ic id) k) ?_
  show OwnGo _ _ _ _ (s₁.setTop (mkF m 0 #[sJ qa, uS, sJ qb, uS, sJ qc, uS, sJ qd, uS] []))
  obtain ⟨v1, hv1⟩ : ∃ v, qa * qc = v := ⟨_, rfl⟩
  obtain ⟨j1, hj1⟩ : ∃ i : Int, i = ia * ic := ⟨_, rfl⟩
  have B1 : -281474976710656 ≤ j1 ∧ j1 ≤ 281474976710656 := by rw [hj1]; exact own_bd_mul Ya Yc (by decide)
  have F1 : v1.toInt = j1 := own_lf_mul hv1 Fa Fc Ya Yc (by decide) hj1
  obtain ⟨v2, hv2⟩ : ∃ v, qb * qd = v := ⟨_, rfl⟩
  obtain ⟨j2, hj2⟩ : ∃ i : Int, i = ib * id := ⟨_, rfl⟩
  have B2 : -281474976710656 ≤ j2 ∧ j2 ≤ 281474976710656 := by rw [hj2]; exact own_bd_mul Yb Yd (by decide)
  have F2 : v2.toInt = j2 := own_lf_mul hv2 Fb Fd Yb Yd (by decide) hj2
  obtain ⟨v3, hv3⟩ : ∃ v, v1 - v2 = v := ⟨_, rfl⟩
  obtain ⟨j3, hj3⟩ : ∃ i : Int, i = j1 - j2 := ⟨_, rfl⟩
  have B3 : -562949953421312 ≤ j3 ∧ j3 ≤ 562949953421312 := by rw [hj3]; exact own_bd_sub B1 B2 (by decide)
  have F3 : v3.toInt = j3 := own_lf_sub hv3 F1 F2 B1 B2 (by decide) hj3
  refine OwnGo.pre (fun t k => XT.lloadN X0.here hx rfl (hb hby d3_0) rfl (XT.lload X0.here hx rfl (hb hby d3_1) rfl (own_lmul X0.here hx rfl (hb hby d3_3) rfl hv1 (XT.lloadN X0.here hx rfl (hb hby d3_4) rfl (XT.lload X0.here hx rfl (hb hby d3_5) rfl (own_lmul X0.here hx rfl (hb hby d3_7) rfl hv2 (own_lsub X0.here hx rfl (hb hby d3_8) rfl hv3 k))))))) ?_
  show OwnGo _ _ _ _ (s₁.setTop (mkF m 9 #[sJ qa, uS, sJ qb, uS, sJ qc, uS, sJ qd, uS] [(.long v3)]))
  exact own_retJ X0 hx hk hrt (hb hby d3_9) ⟨_, rfl, by rw [F3]; simp only [hj3, hj1, hj2], N0, e0⟩ (by decide) (by decide)
theorem d4_0 : decode method_5_code 0 = .ok (.lload_n 0, 1) := by decide +kernel
theorem d4_1 : decode method_5_code 1 = .ok (.lload 6, 2) := by decide +kernel
theorem d4_3 : decode method_5_code 3 = .ok (.lmul, 1) := by decide +kernel
theorem d4_4 : decode method_5_code 4 = .ok (.lload_n 2, 1) := by decide +kernel
theorem d4_5 : decode method_5_code 5 = .ok (.lload 4, 2) := by decide +kernel
theorem d4_7 : decode method_5_code 7 = .ok (.lmul, 1) := by decide +kernel
theorem d4_8 : decode method_5_code 8 = .ok (.ladd, 1) := by decide +kernel
theorem d4_9 : decode method_5_code 9 = .ok (.lreturn, 1) := by decide +kernel
theorem pn_rmIm : plainName "com/example/isochron/isochron/dsp/FourierJoinPinLaw" = true := by first | (simp [plainName, overriddenIn]; done) | decide +kernel
theorem pd_rmIm : parseMethodDescriptor "(JJJJ)J" = some ⟨[.long, .long, .long, .long], (some .long)⟩ := by decide +kernel
theorem ef_rmIm (m : MethodId) (qa qb qc qd : Int64) (ia ib ic id : Int) : entryFrame m #[(.long qa), (.long qb), (.long qc), (.long qd)] 8 = (mkF m 0 #[sJ qa, uS, sJ qb, uS, sJ qc, uS, sJ qd, uS] []) := by first | (simp [entryFrame, mkF, argsToLocals, Value.category, maxLocals]; done) | rfl
def Q_rmIm (Z : State) (qa qb qc qd : Int64) (ia ib ic id : Int) (h0 : Heap) (n0 : Nat) (v : Option Value) (h : Heap) (L : List Loc) : Prop := ∃ r, v = some (.long r) ∧ r.toInt = ia * id + ib * ic ∧ Fr n0 L ∧ h = h0
set_option maxRecDepth 65536 in
set_option maxHeartbeats 40000000 in
theorem rmIm (l : Launch) (Z : State) (a0 : Array Value) (hw : ∀ d ∈ tables_1, d.before a0 Z = true) (ws : List Jvm.Cond) (qa qb qc qd : Int64) (ia ib ic id : Int) (h0 : Heap) (n0 : Nat) (Z0 : n0 ≤ h0.size) (Fa : qa.toInt = ia) (Ya : -16777216 ≤ ia ∧ ia ≤ 16777216) (Fb : qb.toInt = ib) (Yb : -16777216 ≤ ib ∧ ib ≤ 16777216) (Fc : qc.toInt = ic) (Yc : -16777216 ≤ ic ∧ ic ≤ 16777216) (Fd : qd.toInt = id) (Yd : -16777216 ≤ id ∧ id ≤ 16777216) :
    MetFree l (⟨"com/example/isochron/isochron/dsp/FourierJoinPinLaw", "mulIm", "(JJJJ)J"⟩ : MethodName) (head1 (Jvm.Cond.code (⟨"com/example/isochron/isochron/dsp/FourierJoinPinLaw", "mulIm", "(JJJJ)J"⟩ : MethodName) method_5_code 8 (some .long) :: ws) ({ frames := 0, cells := 0, slots := 0, locals := 0 } : Room)) (fun a U => a = #[(.long qa), (.long qb), (.long qc), (.long qd)] ∧ Z.Warmed39 U.vm ∧ U.heap = h0) (fun _ _ _ _ _ => True) (fun _ U oO U' => ∃ v L, oO = .returned v ∧ Q_rmIm Z qa qb qc qd ia ib ic id h0 n0 v U'.heap L ∧ FrameEnd U oO U' L ({ frames := 0, cells := 0, slots := 0, locals := 0 } : Room).cells ({ frames := 0, cells := 0, slots := 0, locals := 0 } : Room).slots) := by
  refine MetFree.of_bodySF (plainFor_of_name pn_rmIm) hisR ?_
  intro p e s m args below meth c s₁ Bd hml0 hP hK
  obtain ⟨rfl, hZ, hh⟩ := hP
  have hx := Bd.exec
  have hby := Bd.bytes
  have hml : c.maxLocals = 8 := hml0
  have hown : s.vm.findClass "com/example/isochron/isochron/dsp/FourierJoinPinLaw" = some m.cls := findClass_of_methodNamed Bd.named
  have hnm := (name_of_methodNamed Bd.named Bd.method).1
  have hk := Bd.notSynchronized
  have hrt := Bd.returns
  have X0 : Stand p l e ({ frames := 0, cells := 0, slots := 0, locals := 0 } : Room) s m #[(.long qa), (.long qb), (.long qc), (.long qd)] below meth c s₁ [] 0 0 := Stand.of_body Bd
  have e0 : s₁.heap = h0 := by rw [← hh, Bd.state]; rfl
  have N0 := Fr.nil n0
  show OwnGo p.tables e below (OwnEnd s (Q_rmIm Z qa qb qc qd ia ib ic id h0 n0) ({ frames := 0, cells := 0, slots := 0, locals := 0 } : Room).cells ({ frames := 0, cells := 0, slots := 0, locals := 0 } : Room).slots) _
  refine OwnGo.pre (fun t k => castTop (ef_rmIm m qa qb qc qd ia ib ic id) k) ?_
  show OwnGo _ _ _ _ (s₁.setTop (mkF m 0 #[sJ qa, uS, sJ qb, uS, sJ qc, uS, sJ qd, uS] []))
  obtain ⟨v4, hv4⟩ : ∃ v, qa * qd = v := ⟨_, rfl⟩
  obtain ⟨j4, hj4⟩ : ∃ i : Int, i = ia * id := ⟨_, rfl⟩
  have B4 : -281474976710656 ≤ j4 ∧ j4 ≤ 281474976710656 := by rw [hj4]; exact own_bd_mul Ya Yd (by decide)
  have F4 : v4.toInt = j4 := own_lf_mul hv4 Fa Fd Ya Yd (by decide) hj4
  obtain ⟨v5, hv5⟩ : ∃ v, qb * qc = v := ⟨_, rfl⟩
  obtain ⟨j5, hj5⟩ : ∃ i : Int, i = ib * ic := ⟨_, rfl⟩
  have B5 : -281474976710656 ≤ j5 ∧ j5 ≤ 281474976710656 := by rw [hj5]; exact own_bd_mul Yb Yc (by decide)
  have F5 : v5.toInt = j5 := own_lf_mul hv5 Fb Fc Yb Yc (by decide) hj5
  obtain ⟨v6, hv6⟩ : ∃ v, v4 + v5 = v := ⟨_, rfl⟩
  obtain ⟨j6, hj6⟩ : ∃ i : Int, i = j4 + j5 := ⟨_, rfl⟩
  have B6 : -562949953421312 ≤ j6 ∧ j6 ≤ 562949953421312 := by rw [hj6]; exact own_bd_add B4 B5 (by decide)
  have F6 : v6.toInt = j6 := own_lf_add hv6 F4 F5 B4 B5 (by decide) hj6
  refine OwnGo.pre (fun t k => XT.lloadN X0.here hx rfl (hb hby d4_0) rfl (XT.lload X0.here hx rfl (hb hby d4_1) rfl (own_lmul X0.here hx rfl (hb hby d4_3) rfl hv4 (XT.lloadN X0.here hx rfl (hb hby d4_4) rfl (XT.lload X0.here hx rfl (hb hby d4_5) rfl (own_lmul X0.here hx rfl (hb hby d4_7) rfl hv5 (own_ladd X0.here hx rfl (hb hby d4_8) rfl hv6 k))))))) ?_
  show OwnGo _ _ _ _ (s₁.setTop (mkF m 9 #[sJ qa, uS, sJ qb, uS, sJ qc, uS, sJ qd, uS] [(.long v6)]))
  exact own_retJ X0 hx hk hrt (hb hby d4_9) ⟨_, rfl, by rw [F6]; simp only [hj6, hj4, hj5], N0, e0⟩ (by decide) (by decide)
theorem d5_0 : decode method_3_code 0 = .ok (.dload_n 0, 1) := by decide +kernel
theorem d5_1 : decode method_3_code 1 = .ok (.d2l, 1) := by decide +kernel
theorem d5_2 : decode method_3_code 2 = .ok (.l2d, 1) := by decide +kernel
theorem d5_3 : decode method_3_code 3 = .ok (.dload_n 0, 1) := by decide +kernel
theorem d5_4 : decode method_3_code 4 = .ok (.dcmp .l, 1) := by decide +kernel
theorem d5_5 : decode method_3_code 5 = .ok (.ifCond .ne 7, 3) := by decide +kernel
theorem d5_8 : decode method_3_code 8 = .ok (.iconst 1, 1) := by decide +kernel
theorem d5_9 : decode method_3_code 9 = .ok (.goto 4, 3) := by decide +kernel
theorem d5_12 : decode method_3_code 12 = .ok (.iconst 0, 1) := by decide +kernel
theorem d5_13 : decode method_3_code 13 = .ok (.ireturn, 1) := by decide +kernel
theorem pn_rmW : plainName "com/example/isochron/isochron/dsp/FourierJoinPinLaw" = true := by first | (simp [plainName, overriddenIn]; done) | decide +kernel
theorem pd_rmW : parseMethodDescriptor "(D)Z" = some ⟨[.double], (some .boolean)⟩ := by decide +kernel
theorem ef_rmW (m : MethodId) (ud : UInt64) (iv : Int) : entryFrame m #[(.double ud)] 2 = (mkF m 0 #[sD ud, uS] []) := by first | (simp [entryFrame, mkF, argsToLocals, Value.category, maxLocals]; done) | rfl
def Q_rmW (Z : State) (ud : UInt64) (iv : Int) (h0 : Heap) (n0 : Nat) (v : Option Value) (h : Heap) (L : List Loc) : Prop := v = some (.int 1) ∧ Fr n0 L ∧ h = h0
set_option maxRecDepth 65536 in
set_option maxHeartbeats 40000000 in
theorem rmW (l : Launch) (Z : State) (a0 : Array Value) (hw : ∀ d ∈ tables_1, d.before a0 Z = true) (ws : List Jvm.Cond) (ud : UInt64) (iv : Int) (h0 : Heap) (n0 : Nat) (Z0 : n0 ≤ h0.size) (Dd : OwnDS 0 iv ud) (Bd0 : -4503599627370496 ≤ iv ∧ iv ≤ 4503599627370496) :
    MetFree l (⟨"com/example/isochron/isochron/dsp/FourierJoinPinLaw", "whole", "(D)Z"⟩ : MethodName) (head1 (Jvm.Cond.code (⟨"com/example/isochron/isochron/dsp/FourierJoinPinLaw", "whole", "(D)Z"⟩ : MethodName) method_3_code 2 (some .boolean) :: ws) ({ frames := 0, cells := 0, slots := 0, locals := 0 } : Room)) (fun a U => a = #[(.double ud)] ∧ Z.Warmed39 U.vm ∧ U.heap = h0) (fun _ _ _ _ _ => True) (fun _ U oO U' => ∃ v L, oO = .returned v ∧ Q_rmW Z ud iv h0 n0 v U'.heap L ∧ FrameEnd U oO U' L ({ frames := 0, cells := 0, slots := 0, locals := 0 } : Room).cells ({ frames := 0, cells := 0, slots := 0, locals := 0 } : Room).slots) := by
  refine MetFree.of_bodySF (plainFor_of_name pn_rmW) hisR ?_
  intro p e s m args below meth c s₁ Bd hml0 hP hK
  obtain ⟨rfl, hZ, hh⟩ := hP
  have hx := Bd.exec
  have hby := Bd.bytes
  have hml : c.maxLocals = 2 := hml0
  have hown : s.vm.findClass "com/example/isochron/isochron/dsp/FourierJoinPinLaw" = some m.cls := findClass_of_methodNamed Bd.named
  have hnm := (name_of_methodNamed Bd.named Bd.method).1
  have hk := Bd.notSynchronized
  have hrt := Bd.returns
  have X0 : Stand p l e ({ frames := 0, cells := 0, slots := 0, locals := 0 } : Room) s m #[(.double ud)] below meth c s₁ [] 0 0 := Stand.of_body Bd
  have e0 : s₁.heap = h0 := by rw [← hh, Bd.state]; rfl
  have N0 := Fr.nil n0
  show OwnGo p.tables e below (OwnEnd s (Q_rmW Z ud iv h0 n0) ({ frames := 0, cells := 0, slots := 0, locals := 0 } : Room).cells ({ frames := 0, cells := 0, slots := 0, locals := 0 } : Room).slots) _
  refine OwnGo.pre (fun t k => castTop (ef_rmW m ud iv) k) ?_
  show OwnGo _ _ _ _ (s₁.setTop (mkF m 0 #[sD ud, uS] []))
  obtain ⟨v7, hv7⟩ : ∃ v, FP.d2l ud = v := ⟨_, rfl⟩
  have F7 : v7.toInt = iv := by rw [← hv7]; exact own_d2lb Dd Bd0 (by decide)
  obtain ⟨d8, hd8⟩ : ∃ v, FP.l2d v7 = v := ⟨_, rfl⟩
  have D8 : OwnDS 0 iv d8 := by rw [← hd8]; exact own_l2db F7 Bd0 (by decide)
  refine OwnGo.pre (fun t k => XS.dloadN X0.here hx rfl (hb hby d5_0) rfl (XS.d2lS X0.here hx rfl (hb hby d5_1) rfl hv7 (XS.l2dS X0.here hx rfl (hb hby d5_2) rfl hd8 (XS.dloadN X0.here hx rfl (hb hby d5_3) rfl (XS.dcmpS X0.here hx rfl (hb hby d5_4) rfl rfl (XS.ifNo X0.here hx rfl (hb hby d5_5) rfl ((own_brD .ne D8 Dd _).trans (decide_eq_false (fun q => q rfl))) (XS.iconst X0.here hx rfl (hb hby d5_8) (XS.goto X0.here hx rfl (pc0 := 9) (pc' := 13) rfl (hb hby d5_9) (by decide) (by decide) k)))))))) ?_
  show OwnGo _ _ _ _ (s₁.setTop (mkF m 13 #[sD ud, uS] [(.int (1 : Int32))]))
  exact own_retZ X0 hx hk hrt (hb hby d5_13) ⟨rfl, N0, e0⟩ (by decide) (by decide)
theorem d2_0 : decode prog_161_method_21_code 0 = .ok (.aload_n 0, 1) := by decide +kernel
theorem d2_1 : decode prog_161_method_21_code 1 = .ok (.iload_n 1, 1) := by decide +kernel
theorem d2_2 : decode prog_161_method_21_code 2 = .ok (.daload, 1) := by decide +kernel
theorem d2_3 : decode prog_161_method_21_code 3 = .ok (.dstore 12, 2) := by decide +kernel
theorem d2_5 : decode prog_161_method_21_code 5 = .ok (.aload_n 2, 1) := by decide +kernel
theorem d2_6 : decode prog_161_method_21_code 6 = .ok (.iload_n 3, 1) := by decide +kernel
theorem d2_7 : decode prog_161_method_21_code 7 = .ok (.daload, 1) := by decide +kernel
theorem d2_8 : decode prog_161_method_21_code 8 = .ok (.dstore 14, 2) := by decide +kernel
theorem d2_10 : decode prog_161_method_21_code 10 = .ok (.aload 4, 2) := by decide +kernel
theorem d2_12 : decode prog_161_method_21_code 12 = .ok (.iload 5, 2) := by decide +kernel
theorem d2_14 : decode prog_161_method_21_code 14 = .ok (.daload, 1) := by decide +kernel
theorem d2_15 : decode prog_161_method_21_code 15 = .ok (.dstore 16, 2) := by decide +kernel
theorem d2_17 : decode prog_161_method_21_code 17 = .ok (.aload 6, 2) := by decide +kernel
theorem d2_19 : decode prog_161_method_21_code 19 = .ok (.iload 7, 2) := by decide +kernel
theorem d2_21 : decode prog_161_method_21_code 21 = .ok (.daload, 1) := by decide +kernel
theorem d2_22 : decode prog_161_method_21_code 22 = .ok (.dstore 18, 2) := by decide +kernel
theorem d2_24 : decode prog_161_method_21_code 24 = .ok (.dload 12, 2) := by decide +kernel
theorem d2_26 : decode prog_161_method_21_code 26 = .ok (.dload 16, 2) := by decide +kernel
theorem d2_28 : decode prog_161_method_21_code 28 = .ok (.dadd, 1) := by decide +kernel
theorem d2_29 : decode prog_161_method_21_code 29 = .ok (.dstore 20, 2) := by decide +kernel
theorem d2_31 : decode prog_161_method_21_code 31 = .ok (.dload 14, 2) := by decide +kernel
theorem d2_33 : decode prog_161_method_21_code 33 = .ok (.dload 18, 2) := by decide +kernel
theorem d2_35 : decode prog_161_method_21_code 35 = .ok (.dsub, 1) := by decide +kernel
theorem d2_36 : decode prog_161_method_21_code 36 = .ok (.dstore 22, 2) := by decide +kernel
theorem d2_38 : decode prog_161_method_21_code 38 = .ok (.dload 12, 2) := by decide +kernel
theorem d2_40 : decode prog_161_method_21_code 40 = .ok (.dload 16, 2) := by decide +kernel
theorem d2_42 : decode prog_161_method_21_code 42 = .ok (.dsub, 1) := by decide +kernel
theorem d2_43 : decode prog_161_method_21_code 43 = .ok (.dstore 24, 2) := by decide +kernel
theorem d2_45 : decode prog_161_method_21_code 45 = .ok (.dload 14, 2) := by decide +kernel
theorem d2_47 : decode prog_161_method_21_code 47 = .ok (.dload 18, 2) := by decide +kernel
theorem d2_49 : decode prog_161_method_21_code 49 = .ok (.dadd, 1) := by decide +kernel
theorem d2_50 : decode prog_161_method_21_code 50 = .ok (.dstore 26, 2) := by decide +kernel
theorem d2_52 : decode prog_161_method_21_code 52 = .ok (.dload 24, 2) := by decide +kernel
theorem d2_54 : decode prog_161_method_21_code 54 = .ok (.dload 8, 2) := by decide +kernel
theorem d2_56 : decode prog_161_method_21_code 56 = .ok (.dmul, 1) := by decide +kernel
theorem d2_57 : decode prog_161_method_21_code 57 = .ok (.dload 26, 2) := by decide +kernel
theorem d2_59 : decode prog_161_method_21_code 59 = .ok (.dload 10, 2) := by decide +kernel
theorem d2_61 : decode prog_161_method_21_code 61 = .ok (.dmul, 1) := by decide +kernel
theorem d2_62 : decode prog_161_method_21_code 62 = .ok (.dsub, 1) := by decide +kernel
theorem d2_63 : decode prog_161_method_21_code 63 = .ok (.dstore 28, 2) := by decide +kernel
theorem d2_65 : decode prog_161_method_21_code 65 = .ok (.dload 24, 2) := by decide +kernel
theorem d2_67 : decode prog_161_method_21_code 67 = .ok (.dload 10, 2) := by decide +kernel
theorem d2_69 : decode prog_161_method_21_code 69 = .ok (.dmul, 1) := by decide +kernel
theorem d2_70 : decode prog_161_method_21_code 70 = .ok (.dload 26, 2) := by decide +kernel
theorem d2_72 : decode prog_161_method_21_code 72 = .ok (.dload 8, 2) := by decide +kernel
theorem d2_74 : decode prog_161_method_21_code 74 = .ok (.dmul, 1) := by decide +kernel
theorem d2_75 : decode prog_161_method_21_code 75 = .ok (.dadd, 1) := by decide +kernel
theorem d2_76 : decode prog_161_method_21_code 76 = .ok (.dstore 30, 2) := by decide +kernel
theorem d2_78 : decode prog_161_method_21_code 78 = .ok (.aload_n 0, 1) := by decide +kernel
theorem d2_79 : decode prog_161_method_21_code 79 = .ok (.iload_n 1, 1) := by decide +kernel
theorem d2_80 : decode prog_161_method_21_code 80 = .ok (.dload 20, 2) := by decide +kernel
theorem d2_82 : decode prog_161_method_21_code 82 = .ok (.dload 30, 2) := by decide +kernel
theorem d2_84 : decode prog_161_method_21_code 84 = .ok (.dsub, 1) := by decide +kernel
theorem d2_85 : decode prog_161_method_21_code 85 = .ok (.dastore, 1) := by decide +kernel
theorem d2_86 : decode prog_161_method_21_code 86 = .ok (.aload_n 2, 1) := by decide +kernel
theorem d2_87 : decode prog_161_method_21_code 87 = .ok (.iload_n 3, 1) := by decide +kernel
theorem d2_88 : decode prog_161_method_21_code 88 = .ok (.dload 22, 2) := by decide +kernel
theorem d2_90 : decode prog_161_method_21_code 90 = .ok (.dload 28, 2) := by decide +kernel
theorem d2_92 : decode prog_161_method_21_code 92 = .ok (.dadd, 1) := by decide +kernel
theorem d2_93 : decode prog_161_method_21_code 93 = .ok (.dastore, 1) := by decide +kernel
theorem d2_94 : decode prog_161_method_21_code 94 = .ok (.aload 4, 2) := by decide +kernel
theorem d2_96 : decode prog_161_method_21_code 96 = .ok (.iload 5, 2) := by decide +kernel
theorem d2_98 : decode prog_161_method_21_code 98 = .ok (.dload 20, 2) := by decide +kernel
theorem d2_100 : decode prog_161_method_21_code 100 = .ok (.dload 30, 2) := by decide +kernel
theorem d2_102 : decode prog_161_method_21_code 102 = .ok (.dadd, 1) := by decide +kernel
theorem d2_103 : decode prog_161_method_21_code 103 = .ok (.dastore, 1) := by decide +kernel
theorem d2_104 : decode prog_161_method_21_code 104 = .ok (.aload 6, 2) := by decide +kernel
theorem d2_106 : decode prog_161_method_21_code 106 = .ok (.iload 7, 2) := by decide +kernel
theorem d2_108 : decode prog_161_method_21_code 108 = .ok (.dload 28, 2) := by decide +kernel
theorem d2_110 : decode prog_161_method_21_code 110 = .ok (.dload 22, 2) := by decide +kernel
theorem d2_112 : decode prog_161_method_21_code 112 = .ok (.dsub, 1) := by decide +kernel
theorem d2_113 : decode prog_161_method_21_code 113 = .ok (.dastore, 1) := by decide +kernel
theorem d2_114 : decode prog_161_method_21_code 114 = .ok (.return_, 1) := by decide +kernel
theorem pn_rmK0 : plainName "com/example/isochron/isochron/dsp/Fourier" = true := by first | (simp [plainName, overriddenIn]; done) | decide +kernel
theorem pd_rmK0 : parseMethodDescriptor "([DI[DI[DI[DIDD)V" = some ⟨[(.array .double), .int, (.array .double), .int, (.array .double), .int, (.array .double), .int, .double, .double], none⟩ := by decide +kernel
theorem ef_rmK0 (m : MethodId) (o0 : Addr) (u0_0 u0_1 u0_2 u0_3 u0_4 u0_5 u0_6 u0_7 uc us : UInt64) (i0_0 i0_1 i0_2 i0_3 ic is : Int) : entryFrame m #[(.ref o0), (.int (0 : Int32)), (.ref o0), (.int (1 : Int32)), (.ref o0), (.int (2 : Int32)), (.ref o0), (.int (3 : Int32)), (.double uc), (.double us)] 32 = (mkF m 0 #[sR o0, sI (0 : Int32), sR o0, sI (1 : Int32), sR o0, sI (2 : Int32), sR o0, sI (3 : Int32), sD uc, uS, sD us, uS, uU, uU, uU, uU, uU, uU, uU, uU, uU, uU, uU, uU, uU, uU, uU, uU, uU, uU, uU, uU] []) := by first | (simp [entryFrame, mkF, argsToLocals, Value.category, maxLocals]; done) | rfl
def Q_rmK0 (Z : State) (o0 : Addr) (u0_0 u0_1 u0_2 u0_3 u0_4 u0_5 u0_6 u0_7 uc us : UInt64) (i0_0 i0_1 i0_2 i0_3 ic is : Int) (h0 : Heap) (n0 : Nat) (v : Option Value) (h : Heap) (L : List Loc) : Prop := ∃ ro0_0 ro0_1 ro0_2 ro0_3 : UInt64, v = none ∧ OwnDS 0 ((i0_0 + i0_2) - (((i0_0 - i0_2) * is) + ((i0_1 + i0_3) * ic))) ro0_0 ∧ (-281474993487872 ≤ ((i0_0 + i0_2) - (((i0_0 - i0_2) * is) + ((i0_1 + i0_3) * ic))) ∧ ((i0_0 + i0_2) - (((i0_0 - i0_2) * is) + ((i0_1 + i0_3) * ic))) ≤ 281474993487872) ∧ OwnDS 0 ((i0_1 - i0_3) + (((i0_0 - i0_2) * ic) - ((i0_1 + i0_3) * is))) ro0_1 ∧ (-281474993487872 ≤ ((i0_1 - i0_3) + (((i0_0 - i0_2) * ic) - ((i0_1 + i0_3) * is))) ∧ ((i0_1 - i0_3) + (((i0_0 - i0_2) * ic) - ((i0_1 + i0_3) * is))) ≤ 281474993487872) ∧ OwnDS 0 ((i0_0 + i0_2) + (((i0_0 - i0_2) * is) + ((i0_1 + i0_3) * ic))) ro0_2 ∧ (-281474993487872 ≤ ((i0_0 + i0_2) + (((i0_0 - i0_2) * is) + ((i0_1 + i0_3) * ic))) ∧ ((i0_0 + i0_2) + (((i0_0 - i0_2) * is) + ((i0_1 + i0_3) * ic))) ≤ 281474993487872) ∧ OwnDS 0 ((((i0_0 - i0_2) * ic) - ((i0_1 + i0_3) * is)) - (i0_1 - i0_3)) ro0_3 ∧ (-281474993487872 ≤ ((((i0_0 - i0_2) * ic) - ((i0_1 + i0_3) * is)) - (i0_1 - i0_3)) ∧ ((((i0_0 - i0_2) * ic) - ((i0_1 + i0_3) * is)) - (i0_1 - i0_3)) ≤ 281474993487872) ∧ OwnDA Z h o0 [ro0_0, ro0_1, ro0_2, ro0_3, u0_4, u0_5, u0_6, u0_7] ∧ Keep h0 h [o0] ∧ Fr n0 L ∧ n0 ≤ h.size
set_option maxRecDepth 65536 in
set_option maxHeartbeats 40000000 in
theorem rmK0 (l : Launch) (Z : State) (a0 : Array Value) (hw : ∀ d ∈ tables_1, d.before a0 Z = true) (ws : List Jvm.Cond) (o0 : Addr) (u0_0 u0_1 u0_2 u0_3 u0_4 u0_5 u0_6 u0_7 uc us : UInt64) (i0_0 i0_1 i0_2 i0_3 ic is : Int) (h0 : Heap) (n0 : Nat) (Z0 : n0 ≤ h0.size) (Ao0 : OwnDA Z h0 o0 [u0_0, u0_1, u0_2, u0_3, u0_4, u0_5, u0_6, u0_7])  (go0 : n0 ≤ o0) (Du0_0 : OwnDS 0 i0_0 u0_0) (Bu0_0 : -8388608 ≤ i0_0 ∧ i0_0 ≤ 8388608) (Du0_1 : OwnDS 0 i0_1 u0_1) (Bu0_1 : -8388608 ≤ i0_1 ∧ i0_1 ≤ 8388608) (Du0_2 : OwnDS 0 i0_2 u0_2) (Bu0_2 : -8388608 ≤ i0_2 ∧ i0_2 ≤ 8388608) (Du0_3 : OwnDS 0 i0_3 u0_3) (Bu0_3 : -8388608 ≤ i0_3 ∧ i0_3 ≤ 8388608) (Duc : OwnDS 0 ic uc) (Buc : -8388608 ≤ ic ∧ ic ≤ 8388608) (Dus : OwnDS 0 is us) (Bus : -8388608 ≤ is ∧ is ≤ 8388608) :
    MetFree l (⟨"com/example/isochron/isochron/dsp/Fourier", "join", "([DI[DI[DI[DIDD)V"⟩ : MethodName) (head1 (Jvm.Cond.code (⟨"com/example/isochron/isochron/dsp/Fourier", "join", "([DI[DI[DI[DIDD)V"⟩ : MethodName) prog_161_method_21_code 32 none :: ws) ({ frames := 0, cells := 0, slots := 0, locals := 0 } : Room)) (fun a U => a = #[(.ref o0), (.int (0 : Int32)), (.ref o0), (.int (1 : Int32)), (.ref o0), (.int (2 : Int32)), (.ref o0), (.int (3 : Int32)), (.double uc), (.double us)] ∧ Z.Warmed39 U.vm ∧ U.heap = h0) (fun _ _ _ _ _ => True) (fun _ U oO U' => ∃ v L, oO = .returned v ∧ Q_rmK0 Z o0 u0_0 u0_1 u0_2 u0_3 u0_4 u0_5 u0_6 u0_7 uc us i0_0 i0_1 i0_2 i0_3 ic is h0 n0 v U'.heap L ∧ FrameEnd U oO U' L ({ frames := 0, cells := 0, slots := 0, locals := 0 } : Room).cells ({ frames := 0, cells := 0, slots := 0, locals := 0 } : Room).slots) := by
  refine MetFree.of_bodySF (plainFor_of_name pn_rmK0) hisR ?_
  intro p e s m args below meth c s₁ Bd hml0 hP hK
  obtain ⟨rfl, hZ, hh⟩ := hP
  have hx := Bd.exec
  have hby := Bd.bytes
  have hml : c.maxLocals = 32 := hml0
  have hown : s.vm.findClass "com/example/isochron/isochron/dsp/Fourier" = some m.cls := findClass_of_methodNamed Bd.named
  have hnm := (name_of_methodNamed Bd.named Bd.method).1
  have hk := Bd.notSynchronized
  have hrt := Bd.returns
  have X0 : Stand p l e ({ frames := 0, cells := 0, slots := 0, locals := 0 } : Room) s m #[(.ref o0), (.int (0 : Int32)), (.ref o0), (.int (1 : Int32)), (.ref o0), (.int (2 : Int32)), (.ref o0), (.int (3 : Int32)), (.double uc), (.double us)] below meth c s₁ [] 0 0 := Stand.of_body Bd
  have e0 : s₁.heap = h0 := by rw [← hh, Bd.state]; rfl
  have N0 := Fr.nil n0
  show OwnGo p.tables e below (OwnEnd s (Q_rmK0 Z o0 u0_0 u0_1 u0_2 u0_3 u0_4 u0_5 u0_6 u0_7 uc us i0_0 i0_1 i0_2 i0_3 ic is h0 n0) ({ frames := 0, cells := 0, slots := 0, locals := 0 } : Room).cells ({ frames := 0, cells := 0, slots := 0, locals := 0 } : Room).slots) _
  refine OwnGo.pre (fun t k => castTop (ef_rmK0 m o0 u0_0 u0_1 u0_2 u0_3 u0_4 u0_5 u0_6 u0_7 uc us i0_0 i0_1 i0_2 i0_3 ic is) k) ?_
  show OwnGo _ _ _ _ (s₁.setTop (mkF m 0 #[sR o0, sI (0 : Int32), sR o0, sI (1 : Int32), sR o0, sI (2 : Int32), sR o0, sI (3 : Int32), sD uc, uS, sD us, uS, uU, uU, uU, uU, uU, uU, uU, uU, uU, uU, uU, uU, uU, uU, uU, uU, uU, uU, uU, uU] []))
  refine OwnGo.pre (fun t k => XS.aloadN X0.here hx rfl (hb hby d2_0) rfl rfl (XS.iloadN X0.here hx rfl (hb hby d2_1) rfl (own_daL X0 hx hZ e0 Ao0 (j := (0 : Int32)) (by decide) (i := 0) (by decide) (x := u0_0) rfl (g := (mkF m 2 #[sR o0, sI (0 : Int32), sR o0, sI (1 : Int32), sR o0, sI (2 : Int32), sR o0, sI (3 : Int32), sD uc, uS, sD us, uS, uU, uU, uU, uU, uU, uU, uU, uU, uU, uU, uU, uU, uU, uU, uU, uU, uU, uU, uU, uU] [(.int (0 : Int32)), (.ref o0)])) rfl (rest := []) rfl (hb hby d2_2) (XS.dstore X0.here hx rfl (hb hby d2_3) rfl (l' := #[sR o0, sI (0 : Int32), sR o0, sI (1 : Int32), sR o0, sI (2 : Int32), sR o0, sI (3 : Int32), sD uc, uS, sD us, uS, sD u0_0, uS, uU, uU, uU, uU, uU, uU, uU, uU, uU, uU, uU, uU, uU, uU, uU, uU, uU, uU]) rfl (XS.aloadN X0.here hx rfl (hb hby d2_5) rfl rfl (XS.iloadN X0.here hx rfl (hb hby d2_6) rfl (own_daL X0 hx hZ e0 Ao0 (j := (1 : Int32)) (by decide) (i := 1) (by decide) (x := u0_1) rfl (g := (mkF m 7 #[sR o0, sI (0 : Int32), sR o0, sI (1 : Int32), sR o0, sI (2 : Int32), sR o0, sI (3 : Int32), sD uc, uS, sD us, uS, sD u0_0, uS, uU, uU, uU, uU, uU, uU, uU, uU, uU, uU, uU, uU, uU, uU, uU, uU, uU, uU] [(.int (1 : Int32)), (.ref o0)])) rfl (rest := []) rfl (hb hby d2_7) (XS.dstore X0.here hx rfl (hb hby d2_8) rfl (l' := #[sR o0, sI (0 : Int32), sR o0, sI (1 : Int32), sR o0, sI (2 : Int32), sR o0, sI (3 : Int32), sD uc, uS, sD us, uS, sD u0_0, uS, sD u0_1, uS, uU, uU, uU, uU, uU, uU, uU, uU, uU, uU, uU, uU, uU, uU, uU, uU]) rfl k)))))))) ?_
  show OwnGo _ _ _ _ (s₁.setTop (mkF m 10 #[sR o0, sI (0 : Int32), sR o0, sI (1 : Int32), sR o0, sI (2 : Int32), sR o0, sI (3 : Int32), sD uc, uS, sD us, uS, sD u0_0, uS, sD u0_1, uS, uU, uU, uU, uU, uU, uU, uU, uU, uU, uU, uU, uU, uU, uU, uU, uU] []))
  refine OwnGo.pre (fun t k => XS.aload X0.here hx rfl (hb hby d2_10) rfl rfl (XS.iload X0.here hx rfl (hb hby d2_12) rfl (own_daL X0 hx hZ e0 Ao0 (j := (2 : Int32)) (by decide) (i := 2) (by decide) (x := u0_2) rfl (g := (mkF m 14 #[sR o0, sI (0 : Int32), sR o0, sI (1 : Int32), sR o0, sI (2 : Int32), sR o0, sI (3 : Int32), sD uc, uS, sD us, uS, sD u0_0, uS, sD u0_1, uS, uU, uU, uU, uU, uU, uU, uU, uU, uU, uU, uU, uU, uU, uU, uU, uU] [(.int (2 : Int32)), (.ref o0)])) rfl (rest := []) rfl (hb hby d2_14) (XS.dstore X0.here hx rfl (hb hby d2_15) rfl (l' := #[sR o0, sI (0 : Int32), sR o0, sI (1 : Int32), sR o0, sI (2 : Int32), sR o0, sI (3 : Int32), sD uc, uS, sD us, uS, sD u0_0, uS, sD u0_1, uS, sD u0_2, uS, uU, uU, uU, uU, uU, uU, uU, uU, uU, uU, uU, uU, uU, uU]) rfl (XS.aload X0.here hx rfl (hb hby d2_17) rfl rfl (XS.iload X0.here hx rfl (hb hby d2_19) rfl (own_daL X0 hx hZ e0 Ao0 (j := (3 : Int32)) (by decide) (i := 3) (by decide) (x := u0_3) rfl (g := (mkF m 21 #[sR o0, sI (0 : Int32), sR o0, sI (1 : Int32), sR o0, sI (2 : Int32), sR o0, sI (3 : Int32), sD uc, uS, sD us, uS, sD u0_0, uS, sD u0_1, uS, sD u0_2, uS, uU, uU, uU, uU, uU, uU, uU, uU, uU, uU, uU, uU, uU, uU] [(.int (3 : Int32)), (.ref o0)])) rfl (rest := []) rfl (hb hby d2_21) (XS.dstore X0.here hx rfl (hb hby d2_22) rfl (l' := #[sR o0, sI (0 : Int32), sR o0, sI (1 : Int32), sR o0, sI (2 : Int32), sR o0, sI (3 : Int32), sD uc, uS, sD us, uS, sD u0_0, uS, sD u0_1, uS, sD u0_2, uS, sD u0_3, uS, uU, uU, uU, uU, uU, uU, uU, uU, uU, uU, uU, uU]) rfl k)))))))) ?_
  show OwnGo _ _ _ _ (s₁.setTop (mkF m 24 #[sR o0, sI (0 : Int32), sR o0, sI (1 : Int32), sR o0, sI (2 : Int32), sR o0, sI (3 : Int32), sD uc, uS, sD us, uS, sD u0_0, uS, sD u0_1, uS, sD u0_2, uS, sD u0_3, uS, uU, uU, uU, uU, uU, uU, uU, uU, uU, uU, uU, uU] []))
  have Dq9 : OwnDS 0 (i0_0 + i0_2) (FP.dadd u0_0 u0_2) := own_ds_add (n := 53) Du0_0 Du0_2 (own_bd_nat (C := 16777216) (own_bd_add Bu0_0 Bu0_2 (by decide)) (by decide))
  obtain ⟨d9, hd9⟩ : ∃ v, FP.dadd u0_0 u0_2 = v := ⟨_, rfl⟩
  obtain ⟨j9, hj9⟩ : ∃ i : Int, i = i0_0 + i0_2 := ⟨_, rfl⟩
  have B9 : -16777216 ≤ j9 ∧ j9 ≤ 16777216 := by rw [hj9]; exact own_bd_add Bu0_0 Bu0_2 (by decide)
  have D9 : OwnDS 0 j9 d9 := by rw [hj9, ← hd9]; exact Dq9
  have Dq10 : OwnDS 0 (i0_1 - i0_3) (FP.dsub u0_1 u0_3) := own_ds_sub (n := 53) Du0_1 Du0_3 (own_bd_nat (C := 16777216) (own_bd_sub Bu0_1 Bu0_3 (by decide)) (by decide))
  obtain ⟨d10, hd10⟩ : ∃ v, FP.dsub u0_1 u0_3 = v := ⟨_, rfl⟩
  obtain ⟨j10, hj10⟩ : ∃ i : Int, i = i0_1 - i0_3 := ⟨_, rfl⟩
  have B10 : -16777216 ≤ j10 ∧ j10 ≤ 16777216 := by rw [hj10]; exact own_bd_sub Bu0_1 Bu0_3 (by decide)
  have D10 : OwnDS 0 j10 d10 := by rw [hj10, ← hd10]; exact Dq10
  refine OwnGo.pre (fun t k => XS.dload X0.here hx rfl (hb hby d2_24) rfl (XS.dload X0.here hx rfl (hb hby d2_26) rfl (XS.daddS X0.here hx rfl (hb hby d2_28) rfl (own_nn Dq9) hd9 (XS.dstore X0.here hx rfl (hb hby d2_29) rfl (l' := #[sR o0, sI (0 : Int32), sR o0, sI (1 : Int32), sR o0, sI (2 : Int32), sR o0, sI (3 : Int32), sD uc, uS, sD us, uS, sD u0_0, uS, sD u0_1, uS, sD u0_2, uS, sD u0_3, uS, sD d9, uS, uU, uU, uU, uU, uU, uU, uU, uU, uU, uU]) rfl (XS.dload X0.here hx rfl (hb hby d2_31) rfl (XS.dload X0.here hx rfl (hb hby d2_33) rfl (XS.dsubS X0.here hx rfl (hb hby d2_35) rfl (own_nn Dq10) hd10 (XS.dstore X0.here hx rfl (hb hby d2_36) rfl (l' := #[sR o0, sI (0 : Int32), sR o0, sI (1 : Int32), sR o0, sI (2 : Int32), sR o0, sI (3 : Int32), sD uc, uS, sD us, uS, sD u0_0, uS, sD u0_1, uS, sD u0_2, uS, sD u0_3, uS, sD d9, uS, sD d10, uS, uU, uU, uU, uU, uU, uU, uU, uU]) rfl k)))))))) ?_
  show OwnGo _ _ _ _ (s₁.setTop (mkF m 38 #[sR o0, sI (0 : Int32), sR o0, sI (1 : Int32), sR o0, sI (2 : Int32), sR o0, sI (3 : Int32), sD uc, uS, sD us, uS, sD u0_0, uS, sD u0_1, uS, sD u0_2, uS, sD u0_3, uS, sD d9, uS, sD d10, uS, uU, uU, uU, uU, uU, uU, uU, uU] []))
  have Dq11 : OwnDS 0 (i0_0 - i0_2) (FP.dsub u0_0 u0_2) := own_ds_sub (n := 53) Du0_0 Du0_2 (own_bd_nat (C := 16777216) (own_bd_sub Bu0_0 Bu0_2 (by decide)) (by decide))
  obtain ⟨d11, hd11⟩ : ∃ v, FP.dsub u0_0 u0_2 = v := ⟨_, rfl⟩
  obtain ⟨j11, hj11⟩ : ∃ i : Int, i = i0_0 - i0_2 := ⟨_, rfl⟩
  have B11 : -16777216 ≤ j11 ∧ j11 ≤ 16777216 := by rw [hj11]; exact own_bd_sub Bu0_0 Bu0_2 (by decide)
  have D11 : OwnDS 0 j11 d11 := by rw [hj11, ← hd11]; exact Dq11
  have Dq12 : OwnDS 0 (i0_1 + i0_3) (FP.dadd u0_1 u0_3) := own_ds_add (n := 53) Du0_1 Du0_3 (own_bd_nat (C := 16777216) (own_bd_add Bu0_1 Bu0_3 (by decide)) (by decide))
  obtain ⟨d12, hd12⟩ : ∃ v, FP.dadd u0_1 u0_3 = v := ⟨_, rfl⟩
  obtain ⟨j12, hj12⟩ : ∃ i : Int, i = i0_1 + i0_3 := ⟨_, rfl⟩
  have B12 : -16777216 ≤ j12 ∧ j12 ≤ 16777216 := by rw [hj12]; exact own_bd_add Bu0_1 Bu0_3 (by decide)
  have D12 : OwnDS 0 j12 d12 := by rw [hj12, ← hd12]; exact Dq12
  refine OwnGo.pre (fun t k => XS.dload X0.here hx rfl (hb hby d2_38) rfl (XS.dload X0.here hx rfl (hb hby d2_40) rfl (XS.dsubS X0.here hx rfl (hb hby d2_42) rfl (own_nn Dq11) hd11 (XS.dstore X0.here hx rfl (hb hby d2_43) rfl (l' := #[sR o0, sI (0 : Int32), sR o0, sI (1 : Int32), sR o0, sI (2 : Int32), sR o0, sI (3 : Int32), sD uc, uS, sD us, uS, sD u0_0, uS, sD u0_1, uS, sD u0_2, uS, sD u0_3, uS, sD d9, uS, sD d10, uS, sD d11, uS, uU, uU, uU, uU, uU, uU]) rfl (XS.dload X0.here hx rfl (hb hby d2_45) rfl (XS.dload X0.here hx rfl (hb hby d2_47) rfl (XS.daddS X0.here hx rfl (hb hby d2_49) rfl (own_nn Dq12) hd12 (XS.dstore X0.here hx rfl (hb hby d2_50) rfl (l' := #[sR o0, sI (0 : Int32), sR o0, sI (1 : Int32), sR o0, sI (2 : Int32), sR o0, sI (3 : Int32), sD uc, uS, sD us, uS, sD u0_0, uS, sD u0_1, uS, sD u0_2, uS, sD u0_3, uS, sD d9, uS, sD d10, uS, sD d11, uS, sD d12, uS, uU, uU, uU, uU]) rfl k)))))))) ?_
  show OwnGo _ _ _ _ (s₁.setTop (mkF m 52 #[sR o0, sI (0 : Int32), sR o0, sI (1 : Int32), sR o0, sI (2 : Int32), sR o0, sI (3 : Int32), sD uc, uS, sD us, uS, sD u0_0, uS, sD u0_1, uS, sD u0_2, uS, sD u0_3, uS, sD d9, uS, sD d10, uS, sD d11, uS, sD d12, uS, uU, uU, uU, uU] []))
  obtain ⟨j13, hj13⟩ : ∃ i : Int, i = j11 * ic := ⟨_, rfl⟩
  have B13 : -140737488355328 ≤ j13 ∧ j13 ≤ 140737488355328 := by rw [hj13]; exact own_bd_mul B11 Buc (by decide)
  have Dq13 : OwnDS 0 j13 (FP.dmul d11 uc) := by rw [hj13]; have q := own_ds_mul (n := 53) D11 Duc (own_bd_nat (C := 140737488355328) (own_bd_mul B11 Buc (by decide)) (by decide)); exact q
  obtain ⟨d13, hd13⟩ : ∃ v, FP.dmul d11 uc = v := ⟨_, rfl⟩
  have D13 : OwnDS 0 j13 d13 := by rw [← hd13]; exact Dq13
  obtain ⟨j14, hj14⟩ : ∃ i : Int, i = j12 * is := ⟨_, rfl⟩
  have B14 : -140737488355328 ≤ j14 ∧ j14 ≤ 140737488355328 := by rw [hj14]; exact own_bd_mul B12 Bus (by decide)
  have Dq14 : OwnDS 0 j14 (FP.dmul d12 us) := by rw [hj14]; have q := own_ds_mul (n := 53) D12 Dus (own_bd_nat (C := 140737488355328) (own_bd_mul B12 Bus (by decide)) (by decide)); exact q
  obtain ⟨d14, hd14⟩ : ∃ v, FP.dmul d12 us = v := ⟨_, rfl⟩
  have D14 : OwnDS 0 j14 d14 := by rw [← hd14]; exact Dq14
  have Dq15 : OwnDS 0 (j13 - j14) (FP.dsub d13 d14) := own_ds_sub (n := 53) D13 D14 (own_bd_nat (C := 281474976710656) (own_bd_sub B13 B14 (by decide)) (by decide))
  obtain ⟨d15, hd15⟩ : ∃ v, FP.dsub d13 d14 = v := ⟨_, rfl⟩
  obtain ⟨j15, hj15⟩ : ∃ i : Int, i = j13 - j14 := ⟨_, rfl⟩
  have B15 : -281474976710656 ≤ j15 ∧ j15 ≤ 281474976710656 := by rw [hj15]; exact own_bd_sub B13 B14 (by decide)
  have D15 : OwnDS 0 j15 d15 := by rw [hj15, ← hd15]; exact Dq15
  refine OwnGo.pre (fun t k => XS.dload X0.here hx rfl (hb hby d2_52) rfl (XS.dload X0.here hx rfl (hb hby d2_54) rfl (XS.dmulS X0.here hx rfl (hb hby d2_56) rfl (own_nn Dq13) hd13 (XS.dload X0.here hx rfl (hb hby d2_57) rfl (XS.dload X0.here hx rfl (hb hby d2_59) rfl (XS.dmulS X0.here hx rfl (hb hby d2_61) rfl (own_nn Dq14) hd14 (XS.dsubS X0.here hx rfl (hb hby d2_62) rfl (own_nn Dq15) hd15 (XS.dstore X0.here hx rfl (hb hby d2_63) rfl (l' := #[sR o0, sI (0 : Int32), sR o0, sI (1 : Int32), sR o0, sI (2 : Int32), sR o0, sI (3 : Int32), sD uc, uS, sD us, uS, sD u0_0, uS, sD u0_1, uS, sD u0_2, uS, sD u0_3, uS, sD d9, uS, sD d10, uS, sD d11, uS, sD d12, uS, sD d15, uS, uU, uU]) rfl k)))))))) ?_
  show OwnGo _ _ _ _ (s₁.setTop (mkF m 65 #[sR o0, sI (0 : Int32), sR o0, sI (1 : Int32), sR o0, sI (2 : Int32), sR o0, sI (3 : Int32), sD uc, uS, sD us, uS, sD u0_0, uS, sD u0_1, uS, sD u0_2, uS, sD u0_3, uS, sD d9, uS, sD d10, uS, sD d11, uS, sD d12, uS, sD d15, uS, uU, uU] []))
  obtain ⟨j16, hj16⟩ : ∃ i : Int, i = j11 * is := ⟨_, rfl⟩
  have B16 : -140737488355328 ≤ j16 ∧ j16 ≤ 140737488355328 := by rw [hj16]; exact own_bd_mul B11 Bus (by decide)
  have Dq16 : OwnDS 0 j16 (FP.dmul d11 us) := by rw [hj16]; have q := own_ds_mul (n := 53) D11 Dus (own_bd_nat (C := 140737488355328) (own_bd_mul B11 Bus (by decide)) (by decide)); exact q
  obtain ⟨d16, hd16⟩ : ∃ v, FP.dmul d11 us = v := ⟨_, rfl⟩
  have D16 : OwnDS 0 j16 d16 := by rw [← hd16]; exact Dq16
  obtain ⟨j17, hj17⟩ : ∃ i : Int, i = j12 * ic := ⟨_, rfl⟩
  have B17 : -140737488355328 ≤ j17 ∧ j17 ≤ 140737488355328 := by rw [hj17]; exact own_bd_mul B12 Buc (by decide)
  have Dq17 : OwnDS 0 j17 (FP.dmul d12 uc) := by rw [hj17]; have q := own_ds_mul (n := 53) D12 Duc (own_bd_nat (C := 140737488355328) (own_bd_mul B12 Buc (by decide)) (by decide)); exact q
  obtain ⟨d17, hd17⟩ : ∃ v, FP.dmul d12 uc = v := ⟨_, rfl⟩
  have D17 : OwnDS 0 j17 d17 := by rw [← hd17]; exact Dq17
  have Dq18 : OwnDS 0 (j16 + j17) (FP.dadd d16 d17) := own_ds_add (n := 53) D16 D17 (own_bd_nat (C := 281474976710656) (own_bd_add B16 B17 (by decide)) (by decide))
  obtain ⟨d18, hd18⟩ : ∃ v, FP.dadd d16 d17 = v := ⟨_, rfl⟩
  obtain ⟨j18, hj18⟩ : ∃ i : Int, i = j16 + j17 := ⟨_, rfl⟩
  have B18 : -281474976710656 ≤ j18 ∧ j18 ≤ 281474976710656 := by rw [hj18]; exact own_bd_add B16 B17 (by decide)
  have D18 : OwnDS 0 j18 d18 := by rw [hj18, ← hd18]; exact Dq18
  refine OwnGo.pre (fun t k => XS.dload X0.here hx rfl (hb hby d2_65) rfl (XS.dload X0.here hx rfl (hb hby d2_67) rfl (XS.dmulS X0.here hx rfl (hb hby d2_69) rfl (own_nn Dq16) hd16 (XS.dload X0.here hx rfl (hb hby d2_70) rfl (XS.dload X0.here hx rfl (hb hby d2_72) rfl (XS.dmulS X0.here hx rfl (hb hby d2_74) rfl (own_nn Dq17) hd17 (XS.daddS X0.here hx rfl (hb hby d2_75) rfl (own_nn Dq18) hd18 (XS.dstore X0.here hx rfl (hb hby d2_76) rfl (l' := #[sR o0, sI (0 : Int32), sR o0, sI (1 : Int32), sR o0, sI (2 : Int32), sR o0, sI (3 : Int32), sD uc, uS, sD us, uS, sD u0_0, uS, sD u0_1, uS, sD u0_2, uS, sD u0_3, uS, sD d9, uS, sD d10, uS, sD d11, uS, sD d12, uS, sD d15, uS, sD d18, uS]) rfl k)))))))) ?_
  show OwnGo _ _ _ _ (s₁.setTop (mkF m 78 #[sR o0, sI (0 : Int32), sR o0, sI (1 : Int32), sR o0, sI (2 : Int32), sR o0, sI (3 : Int32), sD uc, uS, sD us, uS, sD u0_0, uS, sD u0_1, uS, sD u0_2, uS, sD u0_3, uS, sD d9, uS, sD d10, uS, sD d11, uS, sD d12, uS, sD d15, uS, sD d18, uS] []))
  have Dq19 : OwnDS 0 (j9 - j18) (FP.dsub d9 d18) := own_ds_sub (n := 53) D9 D18 (own_bd_nat (C := 281474993487872) (own_bd_sub B9 B18 (by decide)) (by decide))
  obtain ⟨d19, hd19⟩ : ∃ v, FP.dsub d9 d18 = v := ⟨_, rfl⟩
  obtain ⟨j19, hj19⟩ : ∃ i : Int, i = j9 - j18 := ⟨_, rfl⟩
  have B19 : -281474993487872 ≤ j19 ∧ j19 ≤ 281474993487872 := by rw [hj19]; exact own_bd_sub B9 B18 (by decide)
  have D19 : OwnDS 0 j19 d19 := by rw [hj19, ← hd19]; exact Dq19
  refine OwnGo.pre (fun t k => XS.aloadN X0.here hx rfl (hb hby d2_78) rfl rfl (XS.iloadN X0.here hx rfl (hb hby d2_79) rfl (XS.dload X0.here hx rfl (hb hby d2_80) rfl (XS.dload X0.here hx rfl (hb hby d2_82) rfl (XS.dsubS X0.here hx rfl (hb hby d2_84) rfl (own_nn Dq19) hd19 k))))) ?_
  show OwnGo _ _ _ _ (s₁.setTop (mkF m 85 #[sR o0, sI (0 : Int32), sR o0, sI (1 : Int32), sR o0, sI (2 : Int32), sR o0, sI (3 : Int32), sD uc, uS, sD us, uS, sD u0_0, uS, sD u0_1, uS, sD u0_2, uS, sD u0_3, uS, sD d9, uS, sD d10, uS, sD d11, uS, sD d12, uS, sD d15, uS, sD d18, uS] [(.double d19), (.int (0 : Int32)), (.ref o0)]))
  obtain ⟨T20, h20, X20, e20, W20, A20, st20⟩ := own_daS X0 hx hZ e0 Ao0 (by decide) (i := 0) (by decide) (by show 0 < 8; decide) (g := (mkF m 85 #[sR o0, sI (0 : Int32), sR o0, sI (1 : Int32), sR o0, sI (2 : Int32), sR o0, sI (3 : Int32), sD uc, uS, sD us, uS, sD u0_0, uS, sD u0_1, uS, sD u0_2, uS, sD u0_3, uS, sD d9, uS, sD d10, uS, sD d11, uS, sD d12, uS, sD d15, uS, sD d18, uS] [(.double d19), (.int (0 : Int32)), (.ref o0)])) rfl rfl (hb hby d2_85)
  have A20n : OwnDA Z h20 o0 [d19, u0_1, u0_2, u0_3, u0_4, u0_5, u0_6, u0_7] := A20
  have N20 := Fr.snoc X20 N0 go0
  have P20 := (Keep.refl h0 [o0]).wr W20 (Or.inl (List.mem_of_getElem? (i := 0) rfl))
  have Z20 : n0 ≤ h20.size := by rw [W20.size]; exact Z0
  refine OwnGo.pre (fun t k => st20 t k) ?_
  show OwnGo _ _ _ _ (T20.setTop (mkF m 86 #[sR o0, sI (0 : Int32), sR o0, sI (1 : Int32), sR o0, sI (2 : Int32), sR o0, sI (3 : Int32), sD uc, uS, sD us, uS, sD u0_0, uS, sD u0_1, uS, sD u0_2, uS, sD u0_3, uS, sD d9, uS, sD d10, uS, sD d11, uS, sD d12, uS, sD d15, uS, sD d18, uS] []))
  have Dq21 : OwnDS 0 (j10 + j15) (FP.dadd d10 d15) := own_ds_add (n := 53) D10 D15 (own_bd_nat (C := 281474993487872) (own_bd_add B10 B15 (by decide)) (by decide))
  obtain ⟨d21, hd21⟩ : ∃ v, FP.dadd d10 d15 = v := ⟨_, rfl⟩
  obtain ⟨j21, hj21⟩ : ∃ i : Int, i = j10 + j15 := ⟨_, rfl⟩
  have B21 : -281474993487872 ≤ j21 ∧ j21 ≤ 281474993487872 := by rw [hj21]; exact own_bd_add B10 B15 (by decide)
  have D21 : OwnDS 0 j21 d21 := by rw [hj21, ← hd21]; exact Dq21
  refine OwnGo.pre (fun t k => XS.aloadN X20.here hx rfl (hb hby d2_86) rfl rfl (XS.iloadN X20.here hx rfl (hb hby d2_87) rfl (XS.dload X20.here hx rfl (hb hby d2_88) rfl (XS.dload X20.here hx rfl (hb hby d2_90) rfl (XS.daddS X20.here hx rfl (hb hby d2_92) rfl (own_nn Dq21) hd21 k))))) ?_
  show OwnGo _ _ _ _ (T20.setTop (mkF m 93 #[sR o0, sI (0 : Int32), sR o0, sI (1 : Int32), sR o0, sI (2 : Int32), sR o0, sI (3 : Int32), sD uc, uS, sD us, uS, sD u0_0, uS, sD u0_1, uS, sD u0_2, uS, sD u0_3, uS, sD d9, uS, sD d10, uS, sD d11, uS, sD d12, uS, sD d15, uS, sD d18, uS] [(.double d21), (.int (1 : Int32)), (.ref o0)]))
  obtain ⟨T22, h22, X22, e22, W22, A22, st22⟩ := own_daS X20 hx hZ e20 A20n (by decide) (i := 1) (by decide) (by show 1 < 8; decide) (g := (mkF m 93 #[sR o0, sI (0 : Int32), sR o0, sI (1 : Int32), sR o0, sI (2 : Int32), sR o0, sI (3 : Int32), sD uc, uS, sD us, uS, sD u0_0, uS, sD u0_1, uS, sD u0_2, uS, sD u0_3, uS, sD d9, uS, sD d10, uS, sD d11, uS, sD d12, uS, sD d15, uS, sD d18, uS] [(.double d21), (.int (1 : Int32)), (.ref o0)])) rfl rfl (hb hby d2_93)
  have A22n : OwnDA Z h22 o0 [d19, d21, u0_2, u0_3, u0_4, u0_5, u0_6, u0_7] := A22
  have N22 := Fr.snoc X22 N20 go0
  have P22 := P20.wr W22 (Or.inl (List.mem_of_getElem? (i := 0) rfl))
  have Z22 : n0 ≤ h22.size := by rw [W22.size]; exact Z20
  refine OwnGo.pre (fun t k => st22 t k) ?_
  show OwnGo _ _ _ _ (T22.setTop (mkF m 94 #[sR o0, sI (0 : Int32), sR o0, sI (1 : Int32), sR o0, sI (2 : Int32), sR o0, sI (3 : Int32), sD uc, uS, sD us, uS, sD u0_0, uS, sD u0_1, uS, sD u0_2, uS, sD u0_3, uS, sD d9, uS, sD d10, uS, sD d11, uS, sD d12, uS, sD d15, uS, sD d18, uS] []))
  have Dq23 : OwnDS 0 (j9 + j18) (FP.dadd d9 d18) := own_ds_add (n := 53) D9 D18 (own_bd_nat (C := 281474993487872) (own_bd_add B9 B18 (by decide)) (by decide))
  obtain ⟨d23, hd23⟩ : ∃ v, FP.dadd d9 d18 = v := ⟨_, rfl⟩
  obtain ⟨j23, hj23⟩ : ∃ i : Int, i = j9 + j18 := ⟨_, rfl⟩
  have B23 : -281474993487872 ≤ j23 ∧ j23 ≤ 281474993487872 := by rw [hj23]; exact own_bd_add B9 B18 (by decide)
  have D23 : OwnDS 0 j23 d23 := by rw [hj23, ← hd23]; exact Dq23
  refine OwnGo.pre (fun t k => XS.aload X22.here hx rfl (hb hby d2_94) rfl rfl (XS.iload X22.here hx rfl (hb hby d2_96) rfl (XS.dload X22.here hx rfl (hb hby d2_98) rfl (XS.dload X22.here hx rfl (hb hby d2_100) rfl (XS.daddS X22.here hx rfl (hb hby d2_102) rfl (own_nn Dq23) hd23 k))))) ?_
  show OwnGo _ _ _ _ (T22.setTop (mkF m 103 #[sR o0, sI (0 : Int32), sR o0, sI (1 : Int32), sR o0, sI (2 : Int32), sR o0, sI (3 : Int32), sD uc, uS, sD us, uS, sD u0_0, uS, sD u0_1, uS, sD u0_2, uS, sD u0_3, uS, sD d9, uS, sD d10, uS, sD d11, uS, sD d12, uS, sD d15, uS, sD d18, uS] [(.double d23), (.int (2 : Int32)), (.ref o0)]))
  obtain ⟨T24, h24, X24, e24, W24, A24, st24⟩ := own_daS X22 hx hZ e22 A22n (by decide) (i := 2) (by decide) (by show 2 < 8; decide) (g := (mkF m 103 #[sR o0, sI (0 : Int32), sR o0, sI (1 : Int32), sR o0, sI (2 : Int32), sR o0, sI (3 : Int32), sD uc, uS, sD us, uS, sD u0_0, uS, sD u0_1, uS, sD u0_2, uS, sD u0_3, uS, sD d9, uS, sD d10, uS, sD d11, uS, sD d12, uS, sD d15, uS, sD d18, uS] [(.double d23), (.int (2 : Int32)), (.ref o0)])) rfl rfl (hb hby d2_103)
  have A24n : OwnDA Z h24 o0 [d19, d21, d23, u0_3, u0_4, u0_5, u0_6, u0_7] := A24
  have N24 := Fr.snoc X24 N22 go0
  have P24 := P22.wr W24 (Or.inl (List.mem_of_getElem? (i := 0) rfl))
  have Z24 : n0 ≤ h24.size := by rw [W24.size]; exact Z22
  refine OwnGo.pre (fun t k => st24 t k) ?_
  show OwnGo _ _ _ _ (T24.setTop (mkF m 104 #[sR o0, sI (0 : Int32), sR o0, sI (1 : Int32), sR o0, sI (2 : Int32), sR o0, sI (3 : Int32), sD uc, uS, sD us, uS, sD u0_0, uS, sD u0_1, uS, sD u0_2, uS, sD u0_3, uS, sD d9, uS, sD d10, uS, sD d11, uS, sD d12, uS, sD d15, uS, sD d18, uS] []))
  have Dq25 : OwnDS 0 (j15 - j10) (FP.dsub d15 d10) := own_ds_sub (n := 53) D15 D10 (own_bd_nat (C := 281474993487872) (own_bd_sub B15 B10 (by decide)) (by decide))
  obtain ⟨d25, hd25⟩ : ∃ v, FP.dsub d15 d10 = v := ⟨_, rfl⟩
  obtain ⟨j25, hj25⟩ : ∃ i : Int, i = j15 - j10 := ⟨_, rfl⟩
  have B25 : -281474993487872 ≤ j25 ∧ j25 ≤ 281474993487872 := by rw [hj25]; exact own_bd_sub B15 B10 (by decide)
  have D25 : OwnDS 0 j25 d25 := by rw [hj25, ← hd25]; exact Dq25
  refine OwnGo.pre (fun t k => XS.aload X24.here hx rfl (hb hby d2_104) rfl rfl (XS.iload X24.here hx rfl (hb hby d2_106) rfl (XS.dload X24.here hx rfl (hb hby d2_108) rfl (XS.dload X24.here hx rfl (hb hby d2_110) rfl (XS.dsubS X24.here hx rfl (hb hby d2_112) rfl (own_nn Dq25) hd25 k))))) ?_
  show OwnGo _ _ _ _ (T24.setTop (mkF m 113 #[sR o0, sI (0 : Int32), sR o0, sI (1 : Int32), sR o0, sI (2 : Int32), sR o0, sI (3 : Int32), sD uc, uS, sD us, uS, sD u0_0, uS, sD u0_1, uS, sD u0_2, uS, sD u0_3, uS, sD d9, uS, sD d10, uS, sD d11, uS, sD d12, uS, sD d15, uS, sD d18, uS] [(.double d25), (.int (3 : Int32)), (.ref o0)]))
  obtain ⟨T26, h26, X26, e26, W26, A26, st26⟩ := own_daS X24 hx hZ e24 A24n (by decide) (i := 3) (by decide) (by show 3 < 8; decide) (g := (mkF m 113 #[sR o0, sI (0 : Int32), sR o0, sI (1 : Int32), sR o0, sI (2 : Int32), sR o0, sI (3 : Int32), sD uc, uS, sD us, uS, sD u0_0, uS, sD u0_1, uS, sD u0_2, uS, sD u0_3, uS, sD d9, uS, sD d10, uS, sD d11, uS, sD d12, uS, sD d15, uS, sD d18, uS] [(.double d25), (.int (3 : Int32)), (.ref o0)])) rfl rfl (hb hby d2_113)
  have A26n : OwnDA Z h26 o0 [d19, d21, d23, d25, u0_4, u0_5, u0_6, u0_7] := A26
  have N26 := Fr.snoc X26 N24 go0
  have P26 := P24.wr W26 (Or.inl (List.mem_of_getElem? (i := 0) rfl))
  have Z26 : n0 ≤ h26.size := by rw [W26.size]; exact Z24
  refine OwnGo.pre (fun t k => st26 t k) ?_
  show OwnGo _ _ _ _ (T26.setTop (mkF m 114 #[sR o0, sI (0 : Int32), sR o0, sI (1 : Int32), sR o0, sI (2 : Int32), sR o0, sI (3 : Int32), sD uc, uS, sD us, uS, sD u0_0, uS, sD u0_1, uS, sD u0_2, uS, sD u0_3, uS, sD d9, uS, sD d10, uS, sD d11, uS, sD d12, uS, sD d15, uS, sD d18, uS] []))
  rw [← e26] at A26n Z26 P26
  exact own_ret0 X26 hx hk hrt (hb hby d2_114) ⟨_, _, _, _, rfl, ((by simp only [hj19, hj9, hj18, hj16, hj11, hj17, hj12] : j19 = ((i0_0 + i0_2) - (((i0_0 - i0_2) * is) + ((i0_1 + i0_3) * ic)))) ▸ D19), ((by simp only [hj19, hj9, hj18, hj16, hj11, hj17, hj12] : j19 = ((i0_0 + i0_2) - (((i0_0 - i0_2) * is) + ((i0_1 + i0_3) * ic)))) ▸ B19), ((by simp only [hj21, hj10, hj15, hj13, hj11, hj14, hj12] : j21 = ((i0_1 - i0_3) + (((i0_0 - i0_2) * ic) - ((i0_1 + i0_3) * is)))) ▸ D21), ((by simp only [hj21, hj10, hj15, hj13, hj11, hj14, hj12] : j21 = ((i0_1 - i0_3) + (((i0_0 - i0_2) * ic) - ((i0_1 + i0_3) * is)))) ▸ B21), ((by simp only [hj23, hj9, hj18, hj16, hj11, hj17, hj12] : j23 = ((i0_0 + i0_2) + (((i0_0 - i0_2) * is) + ((i0_1 + i0_3) * ic)))) ▸ D23), ((by simp only [hj23, hj9, hj18, hj16, hj11, hj17, hj12] : j23 = ((i0_0 + i0_2) + (((i0_0 - i0_2) * is) + ((i0_1 + i0_3) * ic)))) ▸ B23), ((by simp only [hj25, hj15, hj13, hj11, hj14, hj12, hj10] : j25 = ((((i0_0 - i0_2) * ic) - ((i0_1 + i0_3) * is)) - (i0_1 - i0_3))) ▸ D25), ((by simp only [hj25, hj15, hj13, hj11, hj14, hj12, hj10] : j25 = ((((i0_0 - i0_2) * ic) - ((i0_1 + i0_3) * is)) - (i0_1 - i0_3))) ▸ B25), A26n, P26, N26, Z26⟩ (by decide) (by decide)
theorem pn_rmK1 : plainName "com/example/isochron/isochron/dsp/Fourier" = true := by first | (simp [plainName, overriddenIn]; done) | decide +kernel
theorem pd_rmK1 : parseMethodDescriptor "([DI[DI[DI[DIDD)V" = some ⟨[(.array .double), .int, (.array .double), .int, (.array .double), .int, (.array .double), .int, .double, .double], none⟩ := by decide +kernel
theorem ef_rmK1 (m : MethodId) (o0 : Addr) (u0_0 u0_1 u0_2 u0_3 u0_4 u0_5 u0_6 u0_7 uc us : UInt64) (i0_0 i0_1 ic is : Int) : entryFrame m #[(.ref o0), (.int (0 : Int32)), (.ref o0), (.int (1 : Int32)), (.ref o0), (.int (0 : Int32)), (.ref o0), (.int (1 : Int32)), (.double uc), (.double us)] 32 = (mkF m 0 #[sR o0, sI (0 : Int32), sR o0, sI (1 : Int32), sR o0, sI (0 : Int32), sR o0, sI (1 : Int32), sD uc, uS, sD us, uS, uU, uU, uU, uU, uU, uU, uU, uU, uU, uU, uU, uU, uU, uU, uU, uU, uU, uU, uU, uU] []) := by first | (simp [entryFrame, mkF, argsToLocals, Value.category, maxLocals]; done) | rfl
def Q_rmK1 (Z : State) (o0 : Addr) (u0_0 u0_1 u0_2 u0_3 u0_4 u0_5 u0_6 u0_7 uc us : UInt64) (i0_0 i0_1 ic is : Int) (h0 : Heap) (n0 : Nat) (v : Option Value) (h : Heap) (L : List Loc) : Prop := ∃ ro0_0 ro0_1 : UInt64, v = none ∧ OwnDS 0 ((i0_0 + i0_0) + (((i0_0 - i0_0) * is) + ((i0_1 + i0_1) * ic))) ro0_0 ∧ (-281474993487872 ≤ ((i0_0 + i0_0) + (((i0_0 - i0_0) * is) + ((i0_1 + i0_1) * ic))) ∧ ((i0_0 + i0_0) + (((i0_0 - i0_0) * is) + ((i0_1 + i0_1) * ic))) ≤ 281474993487872) ∧ OwnDS 0 ((((i0_0 - i0_0) * ic) - ((i0_1 + i0_1) * is)) - (i0_1 - i0_1)) ro0_1 ∧ (-281474993487872 ≤ ((((i0_0 - i0_0) * ic) - ((i0_1 + i0_1) * is)) - (i0_1 - i0_1)) ∧ ((((i0_0 - i0_0) * ic) - ((i0_1 + i0_1) * is)) - (i0_1 - i0_1)) ≤ 281474993487872) ∧ OwnDA Z h o0 [ro0_0, ro0_1, u0_2, u0_3, u0_4, u0_5, u0_6, u0_7] ∧ Keep h0 h [o0] ∧ Fr n0 L ∧ n0 ≤ h.size
set_option maxRecDepth 65536 in
set_option maxHeartbeats 40000000 in
theorem rmK1 (l : Launch) (Z : State) (a0 : Array Value) (hw : ∀ d ∈ tables_1, d.before a0 Z = true) (ws : List Jvm.Cond) (o0 : Addr) (u0_0 u0_1 u0_2 u0_3 u0_4 u0_5 u0_6 u0_7 uc us : UInt64) (i0_0 i0_1 ic is : Int) (h0 : Heap) (n0 : Nat) (Z0 : n0 ≤ h0.size) (Ao0 : OwnDA Z h0 o0 [u0_0, u0_1, u0_2, u0_3, u0_4, u0_5, u0_6, u0_7])  (go0 : n0 ≤ o0) (Du0_0 : OwnDS 0 i0_0 u0_0) (Bu0_0 : -8388608 ≤ i0_0 ∧ i0_0 ≤ 8388608) (Du0_1 : OwnDS 0 i0_1 u0_1) (Bu0_1 : -8388608 ≤ i0_1 ∧ i0_1 ≤ 8388608) (Duc : OwnDS 0 ic uc) (Buc : -8388608 ≤ ic ∧ ic ≤ 8388608) (Dus : OwnDS 0 is us) (Bus : -8388608 ≤ is ∧ is ≤ 8388608) :
    MetFree l (⟨"com/example/isochron/isochron/dsp/Fourier", "join", "([DI[DI[DI[DIDD)V"⟩ : MethodName) (head1 (Jvm.Cond.code (⟨"com/example/isochron/isochron/dsp/Fourier", "join", "([DI[DI[DI[DIDD)V"⟩ : MethodName) prog_161_method_21_code 32 none :: ws) ({ frames := 0, cells := 0, slots := 0, locals := 0 } : Room)) (fun a U => a = #[(.ref o0), (.int (0 : Int32)), (.ref o0), (.int (1 : Int32)), (.ref o0), (.int (0 : Int32)), (.ref o0), (.int (1 : Int32)), (.double uc), (.double us)] ∧ Z.Warmed39 U.vm ∧ U.heap = h0) (fun _ _ _ _ _ => True) (fun _ U oO U' => ∃ v L, oO = .returned v ∧ Q_rmK1 Z o0 u0_0 u0_1 u0_2 u0_3 u0_4 u0_5 u0_6 u0_7 uc us i0_0 i0_1 ic is h0 n0 v U'.heap L ∧ FrameEnd U oO U' L ({ frames := 0, cells := 0, slots := 0, locals := 0 } : Room).cells ({ frames := 0, cells := 0, slots := 0, locals := 0 } : Room).slots) := by
  refine MetFree.of_bodySF (plainFor_of_name pn_rmK1) hisR ?_
  intro p e s m args below meth c s₁ Bd hml0 hP hK
  obtain ⟨rfl, hZ, hh⟩ := hP
  have hx := Bd.exec
  have hby := Bd.bytes
  have hml : c.maxLocals = 32 := hml0
  have hown : s.vm.findClass "com/example/isochron/isochron/dsp/Fourier" = some m.cls := findClass_of_methodNamed Bd.named
  have hnm := (name_of_methodNamed Bd.named Bd.method).1
  have hk := Bd.notSynchronized
  have hrt := Bd.returns
  have X0 : Stand p l e ({ frames := 0, cells := 0, slots := 0, locals := 0 } : Room) s m #[(.ref o0), (.int (0 : Int32)), (.ref o0), (.int (1 : Int32)), (.ref o0), (.int (0 : Int32)), (.ref o0), (.int (1 : Int32)), (.double uc), (.double us)] below meth c s₁ [] 0 0 := Stand.of_body Bd
  have e0 : s₁.heap = h0 := by rw [← hh, Bd.state]; rfl
  have N0 := Fr.nil n0
  show OwnGo p.tables e below (OwnEnd s (Q_rmK1 Z o0 u0_0 u0_1 u0_2 u0_3 u0_4 u0_5 u0_6 u0_7 uc us i0_0 i0_1 ic is h0 n0) ({ frames := 0, cells := 0, slots := 0, locals := 0 } : Room).cells ({ frames := 0, cells := 0, slots := 0, locals := 0 } : Room).slots) _
  refine OwnGo.pre (fun t k => castTop (ef_rmK1 m o0 u0_0 u0_1 u0_2 u0_3 u0_4 u0_5 u0_6 u0_7 uc us i0_0 i0_1 ic is) k) ?_
  show OwnGo _ _ _ _ (s₁.setTop (mkF m 0 #[sR o0, sI (0 : Int32), sR o0, sI (1 : Int32), sR o0, sI (0 : Int32), sR o0, sI (1 : Int32), sD uc, uS, sD us, uS, uU, uU, uU, uU, uU, uU, uU, uU, uU, uU, uU, uU, uU, uU, uU, uU, uU, uU, uU, uU] []))
  refine OwnGo.pre (fun t k => XS.aloadN X0.here hx rfl (hb hby d2_0) rfl rfl (XS.iloadN X0.here hx rfl (hb hby d2_1) rfl (own_daL X0 hx hZ e0 Ao0 (j := (0 : Int32)) (by decide) (i := 0) (by decide) (x := u0_0) rfl (g := (mkF m 2 #[sR o0, sI (0 : Int32), sR o0, sI (1 : Int32), sR o0, sI (0 : Int32), sR o0, sI (1 : Int32), sD uc, uS, sD us, uS, uU, uU, uU, uU, uU, uU, uU, uU, uU, uU, uU, uU, uU, uU, uU, uU, uU, uU, uU, uU] [(.int (0 : Int32)), (.ref o0)])) rfl (rest := []) rfl (hb hby d2_2) (XS.dstore X0.here hx rfl (hb hby d2_3) rfl (l' := #[sR o0, sI (0 : Int32), sR o0, sI (1 : Int32), sR o0, sI (0 : Int32), sR o0, sI (1 : Int32), sD uc, uS, sD us, uS, sD u0_0, uS, uU, uU, uU, uU, uU, uU, uU, uU, uU, uU, uU, uU, uU, uU, uU, uU, uU, uU]) rfl (XS.aloadN X0.here hx rfl (hb hby d2_5) rfl rfl (XS.iloadN X0.here hx rfl (hb hby d2_6) rfl (own_daL X0 hx hZ e0 Ao0 (j := (1 : Int32)) (by decide) (i := 1) (by decide) (x := u0_1) rfl (g := (mkF m 7 #[sR o0, sI (0 : Int32), sR o0, sI (1 : Int32), sR o0, sI (0 : Int32), sR o0, sI (1 : Int32), sD uc, uS, sD us, uS, sD u0_0, uS, uU, uU, uU, uU, uU, uU, uU, uU, uU, uU, uU, uU, uU, uU, uU, uU, uU, uU] [(.int (1 : Int32)), (.ref o0)])) rfl (rest := []) rfl (hb hby d2_7) (XS.dstore X0.here hx rfl (hb hby d2_8) rfl (l' := #[sR o0, sI (0 : Int32), sR o0, sI (1 : Int32), sR o0, sI (0 : Int32), sR o0, sI (1 : Int32), sD uc, uS, sD us, uS, sD u0_0, uS, sD u0_1, uS, uU, uU, uU, uU, uU, uU, uU, uU, uU, uU, uU, uU, uU, uU, uU, uU]) rfl k)))))))) ?_
  show OwnGo _ _ _ _ (s₁.setTop (mkF m 10 #[sR o0, sI (0 : Int32), sR o0, sI (1 : Int32), sR o0, sI (0 : Int32), sR o0, sI (1 : Int32), sD uc, uS, sD us, uS, sD u0_0, uS, sD u0_1, uS, uU, uU, uU, uU, uU, uU, uU, uU, uU, uU, uU, uU, uU, uU, uU, uU] []))
  refine OwnGo.pre (fun t k => XS.aload X0.here hx rfl (hb hby d2_10) rfl rfl (XS.iload X0.here hx rfl (hb hby d2_12) rfl (own_daL X0 hx hZ e0 Ao0 (j := (0 : Int32)) (by decide) (i := 0) (by decide) (x := u0_0) rfl (g := (mkF m 14 #[sR o0, sI (0 : Int32), sR o0, sI (1 : Int32), sR o0, sI (0 : Int32), sR o0, sI (1 : Int32), sD uc, uS, sD us, uS, sD u0_0, uS, sD u0_1, uS, uU, uU, uU, uU, uU, uU, uU, uU, uU, uU, uU, uU, uU, uU, uU, uU] [(.int (0 : Int32)), (.ref o0)])) rfl (rest := []) rfl (hb hby d2_14) (XS.dstore X0.here hx rfl (hb hby d2_15) rfl (l' := #[sR o0, sI (0 : Int32), sR o0, sI (1 : Int32), sR o0, sI (0 : Int32), sR o0, sI (1 : Int32), sD uc, uS, sD us, uS, sD u0_0, uS, sD u0_1, uS, sD u0_0, uS, uU, uU, uU, uU, uU, uU, uU, uU, uU, uU, uU, uU, uU, uU]) rfl (XS.aload X0.here hx rfl (hb hby d2_17) rfl rfl (XS.iload X0.here hx rfl (hb hby d2_19) rfl (own_daL X0 hx hZ e0 Ao0 (j := (1 : Int32)) (by decide) (i := 1) (by decide) (x := u0_1) rfl (g := (mkF m 21 #[sR o0, sI (0 : Int32), sR o0, sI (1 : Int32), sR o0, sI (0 : Int32), sR o0, sI (1 : Int32), sD uc, uS, sD us, uS, sD u0_0, uS, sD u0_1, uS, sD u0_0, uS, uU, uU, uU, uU, uU, uU, uU, uU, uU, uU, uU, uU, uU, uU] [(.int (1 : Int32)), (.ref o0)])) rfl (rest := []) rfl (hb hby d2_21) (XS.dstore X0.here hx rfl (hb hby d2_22) rfl (l' := #[sR o0, sI (0 : Int32), sR o0, sI (1 : Int32), sR o0, sI (0 : Int32), sR o0, sI (1 : Int32), sD uc, uS, sD us, uS, sD u0_0, uS, sD u0_1, uS, sD u0_0, uS, sD u0_1, uS, uU, uU, uU, uU, uU, uU, uU, uU, uU, uU, uU, uU]) rfl k)))))))) ?_
  show OwnGo _ _ _ _ (s₁.setTop (mkF m 24 #[sR o0, sI (0 : Int32), sR o0, sI (1 : Int32), sR o0, sI (0 : Int32), sR o0, sI (1 : Int32), sD uc, uS, sD us, uS, sD u0_0, uS, sD u0_1, uS, sD u0_0, uS, sD u0_1, uS, uU, uU, uU, uU, uU, uU, uU, uU, uU, uU, uU, uU] []))
  have Dq27 : OwnDS 0 (i0_0 + i0_0) (FP.dadd u0_0 u0_0) := own_ds_add (n := 53) Du0_0 Du0_0 (own_bd_nat (C := 16777216) (own_bd_add Bu0_0 Bu0_0 (by decide)) (by decide))
  obtain ⟨d27, hd27⟩ : ∃ v, FP.dadd u0_0 u0_0 = v := ⟨_, rfl⟩
  obtain ⟨j27, hj27⟩ : ∃ i : Int, i = i0_0 + i0_0 := ⟨_, rfl⟩
  have B27 : -16777216 ≤ j27 ∧ j27 ≤ 16777216 := by rw [hj27]; exact own_bd_add Bu0_0 Bu0_0 (by decide)
  have D27 : OwnDS 0 j27 d27 := by rw [hj27, ← hd27]; exact Dq27
  have Dq28 : OwnDS 0 (i0_1 - i0_1) (FP.dsub u0_1 u0_1) := own_ds_sub (n := 53) Du0_1 Du0_1 (own_bd_nat (C := 16777216) (own_bd_sub Bu0_1 Bu0_1 (by decide)) (by decide))
  obtain ⟨d28, hd28⟩ : ∃ v, FP.dsub u0_1 u0_1 = v := ⟨_, rfl⟩
  obtain ⟨j28, hj28⟩ : ∃ i : Int, i = i0_1 - i0_1 := ⟨_, rfl⟩
  have B28 : -16777216 ≤ j28 ∧ j28 ≤ 16777216 := by rw [hj28]; exact own_bd_sub Bu0_1 Bu0_1 (by decide)
  have D28 : OwnDS 0 j28 d28 := by rw [hj28, ← hd28]; exact Dq28
  refine OwnGo.pre (fun t k => XS.dload X0.here hx rfl (hb hby d2_24) rfl (XS.dload X0.here hx rfl (hb hby d2_26) rfl (XS.daddS X0.here hx rfl (hb hby d2_28) rfl (own_nn Dq27) hd27 (XS.dstore X0.here hx rfl (hb hby d2_29) rfl (l' := #[sR o0, sI (0 : Int32), sR o0, sI (1 : Int32), sR o0, sI (0 : Int32), sR o0, sI (1 : Int32), sD uc, uS, sD us, uS, sD u0_0, uS, sD u0_1, uS, sD u0_0, uS, sD u0_1, uS, sD d27, uS, uU, uU, uU, uU, uU, uU, uU, uU, uU, uU]) rfl (XS.dload X0.here hx rfl (hb hby d2_31) rfl (XS.dload X0.here hx rfl (hb hby d2_33) rfl (XS.dsubS X0.here hx rfl (hb hby d2_35) rfl (own_nn Dq28) hd28 (XS.dstore X0.here hx rfl (hb hby d2_36) rfl (l' := #[sR o0, sI (0 : Int32), sR o0, sI (1 : Int32), sR o0, sI (0 : Int32), sR o0, sI (1 : Int32), sD uc, uS, sD us, uS, sD u0_0, uS, sD u0_1, uS, sD u0_0, uS, sD u0_1, uS, sD d27, uS, sD d28, uS, uU, uU, uU, uU, uU, uU, uU, uU]) rfl k)))))))) ?_
  show OwnGo _ _ _ _ (s₁.setTop (mkF m 38 #[sR o0, sI (0 : Int32), sR o0, sI (1 : Int32), sR o0, sI (0 : Int32), sR o0, sI (1 : Int32), sD uc, uS, sD us, uS, sD u0_0, uS, sD u0_1, uS, sD u0_0, uS, sD u0_1, uS, sD d27, uS, sD d28, uS, uU, uU, uU, uU, uU, uU, uU, uU] []))
  have Dq29 : OwnDS 0 (i0_0 - i0_0) (FP.dsub u0_0 u0_0) := own_ds_sub (n := 53) Du0_0 Du0_0 (own_bd_nat (C := 16777216) (own_bd_sub Bu0_0 Bu0_0 (by decide)) (by decide))
  obtain ⟨d29, hd29⟩ : ∃ v, FP.dsub u0_0 u0_0 = v := ⟨_, rfl⟩
  obtain ⟨j29, hj29⟩ : ∃ i : Int, i = i0_0 - i0_0 := ⟨_, rfl⟩
  have B29 : -16777216 ≤ j29 ∧ j29 ≤ 16777216 := by rw [hj29]; exact own_bd_sub Bu0_0 Bu0_0 (by decide)
  have D29 : OwnDS 0 j29 d29 := by rw [hj29, ← hd29]; exact Dq29
  have Dq30 : OwnDS 0 (i0_1 + i0_1) (FP.dadd u0_1 u0_1) := own_ds_add (n := 53) Du0_1 Du0_1 (own_bd_nat (C := 16777216) (own_bd_add Bu0_1 Bu0_1 (by decide)) (by decide))
  obtain ⟨d30, hd30⟩ : ∃ v, FP.dadd u0_1 u0_1 = v := ⟨_, rfl⟩
  obtain ⟨j30, hj30⟩ : ∃ i : Int, i = i0_1 + i0_1 := ⟨_, rfl⟩
  have B30 : -16777216 ≤ j30 ∧ j30 ≤ 16777216 := by rw [hj30]; exact own_bd_add Bu0_1 Bu0_1 (by decide)
  have D30 : OwnDS 0 j30 d30 := by rw [hj30, ← hd30]; exact Dq30
  refine OwnGo.pre (fun t k => XS.dload X0.here hx rfl (hb hby d2_38) rfl (XS.dload X0.here hx rfl (hb hby d2_40) rfl (XS.dsubS X0.here hx rfl (hb hby d2_42) rfl (own_nn Dq29) hd29 (XS.dstore X0.here hx rfl (hb hby d2_43) rfl (l' := #[sR o0, sI (0 : Int32), sR o0, sI (1 : Int32), sR o0, sI (0 : Int32), sR o0, sI (1 : Int32), sD uc, uS, sD us, uS, sD u0_0, uS, sD u0_1, uS, sD u0_0, uS, sD u0_1, uS, sD d27, uS, sD d28, uS, sD d29, uS, uU, uU, uU, uU, uU, uU]) rfl (XS.dload X0.here hx rfl (hb hby d2_45) rfl (XS.dload X0.here hx rfl (hb hby d2_47) rfl (XS.daddS X0.here hx rfl (hb hby d2_49) rfl (own_nn Dq30) hd30 (XS.dstore X0.here hx rfl (hb hby d2_50) rfl (l' := #[sR o0, sI (0 : Int32), sR o0, sI (1 : Int32), sR o0, sI (0 : Int32), sR o0, sI (1 : Int32), sD uc, uS, sD us, uS, sD u0_0, uS, sD u0_1, uS, sD u0_0, uS, sD u0_1, uS, sD d27, uS, sD d28, uS, sD d29, uS, sD d30, uS, uU, uU, uU, uU]) rfl k)))))))) ?_
  show OwnGo _ _ _ _ (s₁.setTop (mkF m 52 #[sR o0, sI (0 : Int32), sR o0, sI (1 : Int32), sR o0, sI (0 : Int32), sR o0, sI (1 : Int32), sD uc, uS, sD us, uS, sD u0_0, uS, sD u0_1, uS, sD u0_0, uS, sD u0_1, uS, sD d27, uS, sD d28, uS, sD d29, uS, sD d30, uS, uU, uU, uU, uU] []))
  obtain ⟨j31, hj31⟩ : ∃ i : Int, i = j29 * ic := ⟨_, rfl⟩
  have B31 : -140737488355328 ≤ j31 ∧ j31 ≤ 140737488355328 := by rw [hj31]; exact own_bd_mul B29 Buc (by decide)
  have Dq31 : OwnDS 0 j31 (FP.dmul d29 uc) := by rw [hj31]; have q := own_ds_mul (n := 53) D29 Duc (own_bd_nat (C := 140737488355328) (own_bd_mul B29 Buc (by decide)) (by decide)); exact q
  obtain ⟨d31, hd31⟩ : ∃ v, FP.dmul d29 uc = v := ⟨_, rfl⟩
  have D31 : OwnDS 0 j31 d31 := by rw [← hd31]; exact Dq31
  obtain ⟨j32, hj32⟩ : ∃ i : Int, i = j30 * is := ⟨_, rfl⟩
  have B32 : -140737488355328 ≤ j32 ∧ j32 ≤ 140737488355328 := by rw [hj32]; exact own_bd_mul B30 Bus (by decide)
  have Dq32 : OwnDS 0 j32 (FP.dmul d30 us) := by rw [hj32]; have q := own_ds_mul (n := 53) D30 Dus (own_bd_nat (C := 140737488355328) (own_bd_mul B30 Bus (by decide)) (by decide)); exact q
  obtain ⟨d32, hd32⟩ : ∃ v, FP.dmul d30 us = v := ⟨_, rfl⟩
  have D32 : OwnDS 0 j32 d32 := by rw [← hd32]; exact Dq32
  have Dq33 : OwnDS 0 (j31 - j32) (FP.dsub d31 d32) := own_ds_sub (n := 53) D31 D32 (own_bd_nat (C := 281474976710656) (own_bd_sub B31 B32 (by decide)) (by decide))
  obtain ⟨d33, hd33⟩ : ∃ v, FP.dsub d31 d32 = v := ⟨_, rfl⟩
  obtain ⟨j33, hj33⟩ : ∃ i : Int, i = j31 - j32 := ⟨_, rfl⟩
  have B33 : -281474976710656 ≤ j33 ∧ j33 ≤ 281474976710656 := by rw [hj33]; exact own_bd_sub B31 B32 (by decide)
  have D33 : OwnDS 0 j33 d33 := by rw [hj33, ← hd33]; exact Dq33
  refine OwnGo.pre (fun t k => XS.dload X0.here hx rfl (hb hby d2_52) rfl (XS.dload X0.here hx rfl (hb hby d2_54) rfl (XS.dmulS X0.here hx rfl (hb hby d2_56) rfl (own_nn Dq31) hd31 (XS.dload X0.here hx rfl (hb hby d2_57) rfl (XS.dload X0.here hx rfl (hb hby d2_59) rfl (XS.dmulS X0.here hx rfl (hb hby d2_61) rfl (own_nn Dq32) hd32 (XS.dsubS X0.here hx rfl (hb hby d2_62) rfl (own_nn Dq33) hd33 (XS.dstore X0.here hx rfl (hb hby d2_63) rfl (l' := #[sR o0, sI (0 : Int32), sR o0, sI (1 : Int32), sR o0, sI (0 : Int32), sR o0, sI (1 : Int32), sD uc, uS, sD us, uS, sD u0_0, uS, sD u0_1, uS, sD u0_0, uS, sD u0_1, uS, sD d27, uS, sD d28, uS, sD d29, uS, sD d30, uS, sD d33, uS, uU, uU]) rfl k)))))))) ?_
  show OwnGo _ _ _ _ (s₁.setTop (mkF m 65 #[sR o0, sI (0 : Int32), sR o0, sI (1 : Int32), sR o0, sI (0 : Int32), sR o0, sI (1 : Int32), sD uc, uS, sD us, uS, sD u0_0, uS, sD u0_1, uS, sD u0_0, uS, sD u0_1, uS, sD d27, uS, sD d28, uS, sD d29, uS, sD d30, uS, sD d33, uS, uU, uU] []))
  obtain ⟨j34, hj34⟩ : ∃ i : Int, i = j29 * is := ⟨_, rfl⟩
  have B34 : -140737488355328 ≤ j34 ∧ j34 ≤ 140737488355328 := by rw [hj34]; exact own_bd_mul B29 Bus (by decide)
  have Dq34 : OwnDS 0 j34 (FP.dmul d29 us) := by rw [hj34]; have q := own_ds_mul (n := 53) D29 Dus (own_bd_nat (C := 140737488355328) (own_bd_mul B29 Bus (by decide)) (by decide)); exact q
  obtain ⟨d34, hd34⟩ : ∃ v, FP.dmul d29 us = v := ⟨_, rfl⟩
  have D34 : OwnDS 0 j34 d34 := by rw [← hd34]; exact Dq34
  obtain ⟨j35, hj35⟩ : ∃ i : Int, i = j30 * ic := ⟨_, rfl⟩
  have B35 : -140737488355328 ≤ j35 ∧ j35 ≤ 140737488355328 := by rw [hj35]; exact own_bd_mul B30 Buc (by decide)
  have Dq35 : OwnDS 0 j35 (FP.dmul d30 uc) := by rw [hj35]; have q := own_ds_mul (n := 53) D30 Duc (own_bd_nat (C := 140737488355328) (own_bd_mul B30 Buc (by decide)) (by decide)); exact q
  obtain ⟨d35, hd35⟩ : ∃ v, FP.dmul d30 uc = v := ⟨_, rfl⟩
  have D35 : OwnDS 0 j35 d35 := by rw [← hd35]; exact Dq35
  have Dq36 : OwnDS 0 (j34 + j35) (FP.dadd d34 d35) := own_ds_add (n := 53) D34 D35 (own_bd_nat (C := 281474976710656) (own_bd_add B34 B35 (by decide)) (by decide))
  obtain ⟨d36, hd36⟩ : ∃ v, FP.dadd d34 d35 = v := ⟨_, rfl⟩
  obtain ⟨j36, hj36⟩ : ∃ i : Int, i = j34 + j35 := ⟨_, rfl⟩
  have B36 : -281474976710656 ≤ j36 ∧ j36 ≤ 281474976710656 := by rw [hj36]; exact own_bd_add B34 B35 (by decide)
  have D36 : OwnDS 0 j36 d36 := by rw [hj36, ← hd36]; exact Dq36
  refine OwnGo.pre (fun t k => XS.dload X0.here hx rfl (hb hby d2_65) rfl (XS.dload X0.here hx rfl (hb hby d2_67) rfl (XS.dmulS X0.here hx rfl (hb hby d2_69) rfl (own_nn Dq34) hd34 (XS.dload X0.here hx rfl (hb hby d2_70) rfl (XS.dload X0.here hx rfl (hb hby d2_72) rfl (XS.dmulS X0.here hx rfl (hb hby d2_74) rfl (own_nn Dq35) hd35 (XS.daddS X0.here hx rfl (hb hby d2_75) rfl (own_nn Dq36) hd36 (XS.dstore X0.here hx rfl (hb hby d2_76) rfl (l' := #[sR o0, sI (0 : Int32), sR o0, sI (1 : Int32), sR o0, sI (0 : Int32), sR o0, sI (1 : Int32), sD uc, uS, sD us, uS, sD u0_0, uS, sD u0_1, uS, sD u0_0, uS, sD u0_1, uS, sD d27, uS, sD d28, uS, sD d29, uS, sD d30, uS, sD d33, uS, sD d36, uS]) rfl k)))))))) ?_
  show OwnGo _ _ _ _ (s₁.setTop (mkF m 78 #[sR o0, sI (0 : Int32), sR o0, sI (1 : Int32), sR o0, sI (0 : Int32), sR o0, sI (1 : Int32), sD uc, uS, sD us, uS, sD u0_0, uS, sD u0_1, uS, sD u0_0, uS, sD u0_1, uS, sD d27, uS, sD d28, uS, sD d29, uS, sD d30, uS, sD d33, uS, sD d36, uS] []))
  have Dq37 : OwnDS 0 (j27 - j36) (FP.dsub d27 d36) := own_ds_sub (n := 53) D27 D36 (own_bd_nat (C := 281474993487872) (own_bd_sub B27 B36 (by decide)) (by decide))
  obtain ⟨d37, hd37⟩ : ∃ v, FP.dsub d27 d36 = v := ⟨_, rfl⟩
  obtain ⟨j37, hj37⟩ : ∃ i : Int, i = j27 - j36 := ⟨_, rfl⟩
  have B37 : -281474993487872 ≤ j37 ∧ j37 ≤ 281474993487872 := by rw [hj37]; exact own_bd_sub B27 B36 (by decide)
  have D37 : OwnDS 0 j37 d37 := by rw [hj37, ← hd37]; exact Dq37
  refine OwnGo.pre (fun t k => XS.aloadN X0.here hx rfl (hb hby d2_78) rfl rfl (XS.iloadN X0.here hx rfl (hb hby d2_79) rfl (XS.dload X0.here hx rfl (hb hby d2_80) rfl (XS.dload X0.here hx rfl (hb hby d2_82) rfl (XS.dsubS X0.here hx rfl (hb hby d2_84) rfl (own_nn Dq37) hd37 k))))) ?_
  show OwnGo _ _ _ _ (s₁.setTop (mkF m 85 #[sR o0, sI (0 : Int32), sR o0, sI (1 : Int32), sR o0, sI (0 : Int32), sR o0, sI (1 : Int32), sD uc, uS, sD us, uS, sD u0_0, uS, sD u0_1, uS, sD u0_0, uS, sD u0_1, uS, sD d27, uS, sD d28, uS, sD d29, uS, sD d30, uS, sD d33, uS, sD d36, uS] [(.double d37), (.int (0 : Int32)), (.ref o0)]))
  obtain ⟨T38, h38, X38, e38, W38, A38, st38⟩ := own_daS X0 hx hZ e0 Ao0 (by decide) (i := 0) (by decide) (by show 0 < 8; decide) (g := (mkF m 85 #[sR o0, sI (0 : Int32), sR o0, sI (1 : Int32), sR o0, sI (0 : Int32), sR o0, sI (1 : Int32), sD uc, uS, sD us, uS, sD u0_0, uS, sD u0_1, uS, sD u0_0, uS, sD u0_1, uS, sD d27, uS, sD d28, uS, sD d29, uS, sD d30, uS, sD d33, uS, sD d36, uS] [(.double d37), (.int (0 : Int32)), (.ref o0)])) rfl rfl (hb hby d2_85)
  have A38n : OwnDA Z h38 o0 [d37, u0_1, u0_2, u0_3, u0_4, u0_5, u0_6, u0_7] := A38
  have N38 := Fr.snoc X38 N0 go0
  have P38 := (Keep.refl h0 [o0]).wr W38 (Or.inl (List.mem_of_getElem? (i := 0) rfl))
  have Z38 : n0 ≤ h38.size := by rw [W38.size]; exact Z0
  refine OwnGo.pre (fun t k => st38 t k) ?_
  show OwnGo _ _ _ _ (T38.setTop (mkF m 86 #[sR o0, sI (0 : Int32), sR o0, sI (1 : Int32), sR o0, sI (0 : Int32), sR o0, sI (1 : Int32), sD uc, uS, sD us, uS, sD u0_0, uS, sD u0_1, uS, sD u0_0, uS, sD u0_1, uS, sD d27, uS, sD d28, uS, sD d29, uS, sD d30, uS, sD d33, uS, sD d36, uS] []))
  have Dq39 : OwnDS 0 (j28 + j33) (FP.dadd d28 d33) := own_ds_add (n := 53) D28 D33 (own_bd_nat (C := 281474993487872) (own_bd_add B28 B33 (by decide)) (by decide))
  obtain ⟨d39, hd39⟩ : ∃ v, FP.dadd d28 d33 = v := ⟨_, rfl⟩
  obtain ⟨j39, hj39⟩ : ∃ i : Int, i = j28 + j33 := ⟨_, rfl⟩
  have B39 : -281474993487872 ≤ j39 ∧ j39 ≤ 281474993487872 := by rw [hj39]; exact own_bd_add B28 B33 (by decide)
  have D39 : OwnDS 0 j39 d39 := by rw [hj39, ← hd39]; exact Dq39
  refine OwnGo.pre (fun t k => XS.aloadN X38.here hx rfl (hb hby d2_86) rfl rfl (XS.iloadN X38.here hx rfl (hb hby d2_87) rfl (XS.dload X38.here hx rfl (hb hby d2_88) rfl (XS.dload X38.here hx rfl (hb hby d2_90) rfl (XS.daddS X38.here hx rfl (hb hby d2_92) rfl (own_nn Dq39) hd39 k))))) ?_
  show OwnGo _ _ _ _ (T38.setTop (mkF m 93 #[sR o0, sI (0 : Int32), sR o0, sI (1 : Int32), sR o0, sI (0 : Int32), sR o0, sI (1 : Int32), sD uc, uS, sD us, uS, sD u0_0, uS, sD u0_1, uS, sD u0_0, uS, sD u0_1, uS, sD d27, uS, sD d28, uS, sD d29, uS, sD d30, uS, sD d33, uS, sD d36, uS] [(.double d39), (.int (1 : Int32)), (.ref o0)]))
  obtain ⟨T40, h40, X40, e40, W40, A40, st40⟩ := own_daS X38 hx hZ e38 A38n (by decide) (i := 1) (by decide) (by show 1 < 8; decide) (g := (mkF m 93 #[sR o0, sI (0 : Int32), sR o0, sI (1 : Int32), sR o0, sI (0 : Int32), sR o0, sI (1 : Int32), sD uc, uS, sD us, uS, sD u0_0, uS, sD u0_1, uS, sD u0_0, uS, sD u0_1, uS, sD d27, uS, sD d28, uS, sD d29, uS, sD d30, uS, sD d33, uS, sD d36, uS] [(.double d39), (.int (1 : Int32)), (.ref o0)])) rfl rfl (hb hby d2_93)
  have A40n : OwnDA Z h40 o0 [d37, d39, u0_2, u0_3, u0_4, u0_5, u0_6, u0_7] := A40
  have N40 := Fr.snoc X40 N38 go0
  have P40 := P38.wr W40 (Or.inl (List.mem_of_getElem? (i := 0) rfl))
  have Z40 : n0 ≤ h40.size := by rw [W40.size]; exact Z38
  refine OwnGo.pre (fun t k => st40 t k) ?_
  show OwnGo _ _ _ _ (T40.setTop (mkF m 94 #[sR o0, sI (0 : Int32), sR o0, sI (1 : Int32), sR o0, sI (0 : Int32), sR o0, sI (1 : Int32), sD uc, uS, sD us, uS, sD u0_0, uS, sD u0_1, uS, sD u0_0, uS, sD u0_1, uS, sD d27, uS, sD d28, uS, sD d29, uS, sD d30, uS, sD d33, uS, sD d36, uS] []))
  have Dq41 : OwnDS 0 (j27 + j36) (FP.dadd d27 d36) := own_ds_add (n := 53) D27 D36 (own_bd_nat (C := 281474993487872) (own_bd_add B27 B36 (by decide)) (by decide))
  obtain ⟨d41, hd41⟩ : ∃ v, FP.dadd d27 d36 = v := ⟨_, rfl⟩
  obtain ⟨j41, hj41⟩ : ∃ i : Int, i = j27 + j36 := ⟨_, rfl⟩
  have B41 : -281474993487872 ≤ j41 ∧ j41 ≤ 281474993487872 := by rw [hj41]; exact own_bd_add B27 B36 (by decide)
  have D41 : OwnDS 0 j41 d41 := by rw [hj41, ← hd41]; exact Dq41
  refine OwnGo.pre (fun t k => XS.aload X40.here hx rfl (hb hby d2_94) rfl rfl (XS.iload X40.here hx rfl (hb hby d2_96) rfl (XS.dload X40.here hx rfl (hb hby d2_98) rfl (XS.dload X40.here hx rfl (hb hby d2_100) rfl (XS.daddS X40.here hx rfl (hb hby d2_102) rfl (own_nn Dq41) hd41 k))))) ?_
  show OwnGo _ _ _ _ (T40.setTop (mkF m 103 #[sR o0, sI (0 : Int32), sR o0, sI (1 : Int32), sR o0, sI (0 : Int32), sR o0, sI (1 : Int32), sD uc, uS, sD us, uS, sD u0_0, uS, sD u0_1, uS, sD u0_0, uS, sD u0_1, uS, sD d27, uS, sD d28, uS, sD d29, uS, sD d30, uS, sD d33, uS, sD d36, uS] [(.double d41), (.int (0 : Int32)), (.ref o0)]))
  obtain ⟨T42, h42, X42, e42, W42, A42, st42⟩ := own_daS X40 hx hZ e40 A40n (by decide) (i := 0) (by decide) (by show 0 < 8; decide) (g := (mkF m 103 #[sR o0, sI (0 : Int32), sR o0, sI (1 : Int32), sR o0, sI (0 : Int32), sR o0, sI (1 : Int32), sD uc, uS, sD us, uS, sD u0_0, uS, sD u0_1, uS, sD u0_0, uS, sD u0_1, uS, sD d27, uS, sD d28, uS, sD d29, uS, sD d30, uS, sD d33, uS, sD d36, uS] [(.double d41), (.int (0 : Int32)), (.ref o0)])) rfl rfl (hb hby d2_103)
  have A42n : OwnDA Z h42 o0 [d41, d39, u0_2, u0_3, u0_4, u0_5, u0_6, u0_7] := A42
  have N42 := Fr.snoc X42 N40 go0
  have P42 := P40.wr W42 (Or.inl (List.mem_of_getElem? (i := 0) rfl))
  have Z42 : n0 ≤ h42.size := by rw [W42.size]; exact Z40
  refine OwnGo.pre (fun t k => st42 t k) ?_
  show OwnGo _ _ _ _ (T42.setTop (mkF m 104 #[sR o0, sI (0 : Int32), sR o0, sI (1 : Int32), sR o0, sI (0 : Int32), sR o0, sI (1 : Int32), sD uc, uS, sD us, uS, sD u0_0, uS, sD u0_1, uS, sD u0_0, uS, sD u0_1, uS, sD d27, uS, sD d28, uS, sD d29, uS, sD d30, uS, sD d33, uS, sD d36, uS] []))
  have Dq43 : OwnDS 0 (j33 - j28) (FP.dsub d33 d28) := own_ds_sub (n := 53) D33 D28 (own_bd_nat (C := 281474993487872) (own_bd_sub B33 B28 (by decide)) (by decide))
  obtain ⟨d43, hd43⟩ : ∃ v, FP.dsub d33 d28 = v := ⟨_, rfl⟩
  obtain ⟨j43, hj43⟩ : ∃ i : Int, i = j33 - j28 := ⟨_, rfl⟩
  have B43 : -281474993487872 ≤ j43 ∧ j43 ≤ 281474993487872 := by rw [hj43]; exact own_bd_sub B33 B28 (by decide)
  have D43 : OwnDS 0 j43 d43 := by rw [hj43, ← hd43]; exact Dq43
  refine OwnGo.pre (fun t k => XS.aload X42.here hx rfl (hb hby d2_104) rfl rfl (XS.iload X42.here hx rfl (hb hby d2_106) rfl (XS.dload X42.here hx rfl (hb hby d2_108) rfl (XS.dload X42.here hx rfl (hb hby d2_110) rfl (XS.dsubS X42.here hx rfl (hb hby d2_112) rfl (own_nn Dq43) hd43 k))))) ?_
  show OwnGo _ _ _ _ (T42.setTop (mkF m 113 #[sR o0, sI (0 : Int32), sR o0, sI (1 : Int32), sR o0, sI (0 : Int32), sR o0, sI (1 : Int32), sD uc, uS, sD us, uS, sD u0_0, uS, sD u0_1, uS, sD u0_0, uS, sD u0_1, uS, sD d27, uS, sD d28, uS, sD d29, uS, sD d30, uS, sD d33, uS, sD d36, uS] [(.double d43), (.int (1 : Int32)), (.ref o0)]))
  obtain ⟨T44, h44, X44, e44, W44, A44, st44⟩ := own_daS X42 hx hZ e42 A42n (by decide) (i := 1) (by decide) (by show 1 < 8; decide) (g := (mkF m 113 #[sR o0, sI (0 : Int32), sR o0, sI (1 : Int32), sR o0, sI (0 : Int32), sR o0, sI (1 : Int32), sD uc, uS, sD us, uS, sD u0_0, uS, sD u0_1, uS, sD u0_0, uS, sD u0_1, uS, sD d27, uS, sD d28, uS, sD d29, uS, sD d30, uS, sD d33, uS, sD d36, uS] [(.double d43), (.int (1 : Int32)), (.ref o0)])) rfl rfl (hb hby d2_113)
  have A44n : OwnDA Z h44 o0 [d41, d43, u0_2, u0_3, u0_4, u0_5, u0_6, u0_7] := A44
  have N44 := Fr.snoc X44 N42 go0
  have P44 := P42.wr W44 (Or.inl (List.mem_of_getElem? (i := 0) rfl))
  have Z44 : n0 ≤ h44.size := by rw [W44.size]; exact Z42
  refine OwnGo.pre (fun t k => st44 t k) ?_
  show OwnGo _ _ _ _ (T44.setTop (mkF m 114 #[sR o0, sI (0 : Int32), sR o0, sI (1 : Int32), sR o0, sI (0 : Int32), sR o0, sI (1 : Int32), sD uc, uS, sD us, uS, sD u0_0, uS, sD u0_1, uS, sD u0_0, uS, sD u0_1, uS, sD d27, uS, sD d28, uS, sD d29, uS, sD d30, uS, sD d33, uS, sD d36, uS] []))
  rw [← e44] at A44n Z44 P44
  exact own_ret0 X44 hx hk hrt (hb hby d2_114) ⟨_, _, rfl, ((by simp only [hj41, hj27, hj36, hj34, hj29, hj35, hj30] : j41 = ((i0_0 + i0_0) + (((i0_0 - i0_0) * is) + ((i0_1 + i0_1) * ic)))) ▸ D41), ((by simp only [hj41, hj27, hj36, hj34, hj29, hj35, hj30] : j41 = ((i0_0 + i0_0) + (((i0_0 - i0_0) * is) + ((i0_1 + i0_1) * ic)))) ▸ B41), ((by simp only [hj43, hj33, hj31, hj29, hj32, hj30, hj28] : j43 = ((((i0_0 - i0_0) * ic) - ((i0_1 + i0_1) * is)) - (i0_1 - i0_1))) ▸ D43), ((by simp only [hj43, hj33, hj31, hj29, hj32, hj30, hj28] : j43 = ((((i0_0 - i0_0) * ic) - ((i0_1 + i0_1) * is)) - (i0_1 - i0_1))) ▸ B43), A44n, P44, N44, Z44⟩ (by decide) (by decide)
theorem pn_rmK2_0 : plainName "com/example/isochron/isochron/dsp/Fourier" = true := by first | (simp [plainName, overriddenIn]; done) | decide +kernel
theorem pd_rmK2_0 : parseMethodDescriptor "([DI[DI[DI[DIDD)V" = some ⟨[(.array .double), .int, (.array .double), .int, (.array .double), .int, (.array .double), .int, .double, .double], none⟩ := by decide +kernel
theorem ef_rmK2_0 (m : MethodId) (o0 o1 o2 o3 : Addr) (u0_0 u0_1 u1_0 u1_1 u2_0 u2_1 u3_0 u3_1 uc us : UInt64) (i0_0 i1_0 i2_0 i3_0 ic is : Int) : entryFrame m #[(.ref o0), (.int (0 : Int32)), (.ref o1), (.int (0 : Int32)), (.ref o2), (.int (0 : Int32)), (.ref o3), (.int (0 : Int32)), (.double uc), (.double us)] 32 = (mkF m 0 #[sR o0, sI (0 : Int32), sR o1, sI (0 : Int32), sR o2, sI (0 : Int32), sR o3, sI (0 : Int32), sD uc, uS, sD us, uS, uU, uU, uU, uU, uU, uU, uU, uU, uU, uU, uU, uU, uU, uU, uU, uU, uU, uU, uU, uU] []) := by first | (simp [entryFrame, mkF, argsToLocals, Value.category, maxLocals]; done) | rfl
def Q_rmK2_0 (Z : State) (o0 o1 o2 o3 : Addr) (u0_0 u0_1 u1_0 u1_1 u2_0 u2_1 u3_0 u3_1 uc us : UInt64) (i0_0 i1_0 i2_0 i3_0 ic is : Int) (h0 : Heap) (n0 : Nat) (v : Option Value) (h : Heap) (L : List Loc) : Prop := ∃ ro0_0 ro1_0 ro2_0 ro3_0 : UInt64, v = none ∧ OwnDS 0 ((i0_0 + i2_0) - (((i0_0 - i2_0) * is) + ((i1_0 + i3_0) * ic))) ro0_0 ∧ (-281474993487872 ≤ ((i0_0 + i2_0) - (((i0_0 - i2_0) * is) + ((i1_0 + i3_0) * ic))) ∧ ((i0_0 + i2_0) - (((i0_0 - i2_0) * is) + ((i1_0 + i3_0) * ic))) ≤ 281474993487872) ∧ OwnDS 0 ((i1_0 - i3_0) + (((i0_0 - i2_0) * ic) - ((i1_0 + i3_0) * is))) ro1_0 ∧ (-281474993487872 ≤ ((i1_0 - i3_0) + (((i0_0 - i2_0) * ic) - ((i1_0 + i3_0) * is))) ∧ ((i1_0 - i3_0) + (((i0_0 - i2_0) * ic) - ((i1_0 + i3_0) * is))) ≤ 281474993487872) ∧ OwnDS 0 ((i0_0 + i2_0) + (((i0_0 - i2_0) * is) + ((i1_0 + i3_0) * ic))) ro2_0 ∧ (-281474993487872 ≤ ((i0_0 + i2_0) + (((i0_0 - i2_0) * is) + ((i1_0 + i3_0) * ic))) ∧ ((i0_0 + i2_0) + (((i0_0 - i2_0) * is) + ((i1_0 + i3_0) * ic))) ≤ 281474993487872) ∧ OwnDS 0 ((((i0_0 - i2_0) * ic) - ((i1_0 + i3_0) * is)) - (i1_0 - i3_0)) ro3_0 ∧ (-281474993487872 ≤ ((((i0_0 - i2_0) * ic) - ((i1_0 + i3_0) * is)) - (i1_0 - i3_0)) ∧ ((((i0_0 - i2_0) * ic) - ((i1_0 + i3_0) * is)) - (i1_0 - i3_0)) ≤ 281474993487872) ∧ OwnDA Z h o0 [ro0_0, u0_1] ∧ OwnDA Z h o1 [ro1_0, u1_1] ∧ OwnDA Z h o2 [ro2_0, u2_1] ∧ OwnDA Z h o3 [ro3_0, u3_1] ∧ Keep h0 h [o0, o1, o2, o3] ∧ Fr n0 L ∧ n0 ≤ h.size
set_option maxRecDepth 65536 in
set_option maxHeartbeats 40000000 in
theorem rmK2_0 (l : Launch) (Z : State) (a0 : Array Value) (hw : ∀ d ∈ tables_1, d.before a0 Z = true) (ws : List Jvm.Cond) (o0 o1 o2 o3 : Addr) (u0_0 u0_1 u1_0 u1_1 u2_0 u2_1 u3_0 u3_1 uc us : UInt64) (i0_0 i1_0 i2_0 i3_0 ic is : Int) (h0 : Heap) (n0 : Nat) (Z0 : n0 ≤ h0.size) (Ao0 : OwnDA Z h0 o0 [u0_0, u0_1]) (Ao1 : OwnDA Z h0 o1 [u1_0, u1_1]) (Ao2 : OwnDA Z h0 o2 [u2_0, u2_1]) (Ao3 : OwnDA Z h0 o3 [u3_0, u3_1]) (neo0o1 : o0 ≠ o1) (neo0o2 : o0 ≠ o2) (neo0o3 : o0 ≠ o3) (neo1o2 : o1 ≠ o2) (neo1o3 : o1 ≠ o3) (neo2o3 : o2 ≠ o3) (go0 : n0 ≤ o0) (go1 : n0 ≤ o1) (go2 : n0 ≤ o2) (go3 : n0 ≤ o3) (Du0_0 : OwnDS 0 i0_0 u0_0) (Bu0_0 : -8388608 ≤ i0_0 ∧ i0_0 ≤ 8388608) (Du1_0 : OwnDS 0 i1_0 u1_0) (Bu1_0 : -8388608 ≤ i1_0 ∧ i1_0 ≤ 8388608) (Du2_0 : OwnDS 0 i2_0 u2_0) (Bu2_0 : -8388608 ≤ i2_0 ∧ i2_0 ≤ 8388608) (Du3_0 : OwnDS 0 i3_0 u3_0) (Bu3_0 : -8388608 ≤ i3_0 ∧ i3_0 ≤ 8388608) (Duc : OwnDS 0 ic uc) (Buc : -8388608 ≤ ic ∧ ic ≤ 8388608) (Dus : OwnDS 0 is us) (Bus : -8388608 ≤ is ∧ is ≤ 8388608) :
    MetFree l (⟨"com/example/isochron/isochron/dsp/Fourier", "join", "([DI[DI[DI[DIDD)V"⟩ : MethodName) (head1 (Jvm.Cond.code (⟨"com/example/isochron/isochron/dsp/Fourier", "join", "([DI[DI[DI[DIDD)V"⟩ : MethodName) prog_161_method_21_code 32 none :: ws) ({ frames := 0, cells := 0, slots := 0, locals := 0 } : Room)) (fun a U => a = #[(.ref o0), (.int (0 : Int32)), (.ref o1), (.int (0 : Int32)), (.ref o2), (.int (0 : Int32)), (.ref o3), (.int (0 : Int32)), (.double uc), (.double us)] ∧ Z.Warmed39 U.vm ∧ U.heap = h0) (fun _ _ _ _ _ => True) (fun _ U oO U' => ∃ v L, oO = .returned v ∧ Q_rmK2_0 Z o0 o1 o2 o3 u0_0 u0_1 u1_0 u1_1 u2_0 u2_1 u3_0 u3_1 uc us i0_0 i1_0 i2_0 i3_0 ic is h0 n0 v U'.heap L ∧ FrameEnd U oO U' L ({ frames := 0, cells := 0, slots := 0, locals := 0 } : Room).cells ({ frames := 0, cells := 0, slots := 0, locals := 0 } : Room).slots) := by
  refine MetFree.of_bodySF (plainFor_of_name pn_rmK2_0) hisR ?_
  intro p e s m args below meth c s₁ Bd hml0 hP hK
  obtain ⟨rfl, hZ, hh⟩ := hP
  have hx := Bd.exec
  have hby := Bd.bytes
  have hml : c.maxLocals = 32 := hml0
  have hown : s.vm.findClass "com/example/isochron/isochron/dsp/Fourier" = some m.cls := findClass_of_methodNamed Bd.named
  have hnm := (name_of_methodNamed Bd.named Bd.method).1
  have hk := Bd.notSynchronized
  have hrt := Bd.returns
  have X0 : Stand p l e ({ frames := 0, cells := 0, slots := 0, locals := 0 } : Room) s m #[(.ref o0), (.int (0 : Int32)), (.ref o1), (.int (0 : Int32)), (.ref o2), (.int (0 : Int32)), (.ref o3), (.int (0 : Int32)), (.double uc), (.double us)] below meth c s₁ [] 0 0 := Stand.of_body Bd
  have e0 : s₁.heap = h0 := by rw [← hh, Bd.state]; rfl
  have N0 := Fr.nil n0
  show OwnGo p.tables e below (OwnEnd s (Q_rmK2_0 Z o0 o1 o2 o3 u0_0 u0_1 u1_0 u1_1 u2_0 u2_1 u3_0 u3_1 uc us i0_0 i1_0 i2_0 i3_0 ic is h0 n0) ({ frames := 0, cells := 0, slots := 0, locals := 0 } : Room).cells ({ frames := 0, cells := 0, slots := 0, locals := 0 } : Room).slots) _
  refine OwnGo.pre (fun t k => castTop (ef_rmK2_0 m o0 o1 o2 o3 u0_0 u0_1 u1_0 u1_1 u2_0 u2_1 u3_0 u3_1 uc us i0_0 i1_0 i2_0 i3_0 ic is) k) ?_
  show OwnGo _ _ _ _ (s₁.setTop (mkF m 0 #[sR o0, sI (0 : Int32), sR o1, sI (0 : Int32), sR o2, sI (0 : Int32), sR o3, sI (0 : Int32), sD uc, uS, sD us, uS, uU, uU, uU, uU, uU, uU, uU, uU, uU, uU, uU, uU, uU, uU, uU, uU, uU, uU, uU, uU] []))
  refine OwnGo.pre (fun t k => XS.aloadN X0.here hx rfl (hb hby d2_0) rfl rfl (XS.iloadN X0.here hx rfl (hb hby d2_1) rfl (own_daL X0 hx hZ e0 Ao0 (j := (0 : Int32)) (by decide) (i := 0) (by decide) (x := u0_0) rfl (g := (mkF m 2 #[sR o0, sI (0 : Int32), sR o1, sI (0 : Int32), sR o2, sI (0 : Int32), sR o3, sI (0 : Int32), sD uc, uS, sD us, uS, uU, uU, uU, uU, uU, uU, uU, uU, uU, uU, uU, uU, uU, uU, uU, uU, uU, uU, uU, uU] [(.int (0 : Int32)), (.ref o0)])) rfl (rest := []) rfl (hb hby d2_2) (XS.dstore X0.here hx rfl (hb hby d2_3) rfl (l' := #[sR o0, sI (0 : Int32), sR o1, sI (0 : Int32), sR o2, sI (0 : Int32), sR o3, sI (0 : Int32), sD uc, uS, sD us, uS, sD u0_0, uS, uU, uU, uU, uU, uU, uU, uU, uU, uU, uU, uU, uU, uU, uU, uU, uU, uU, uU]) rfl (XS.aloadN X0.here hx rfl (hb hby d2_5) rfl rfl (XS.iloadN X0.here hx rfl (hb hby d2_6) rfl (own_daL X0 hx hZ e0 Ao1 (j := (0 : Int32)) (by decide) (i := 0) (by decide) (x := u1_0) rfl (g := (mkF m 7 #[sR o0, sI (0 : Int32), sR o1, sI (0 : Int32), sR o2, sI (0 : Int32), sR o3, sI (0 : Int32), sD uc, uS, sD us, uS, sD u0_0, uS, uU, uU, uU, uU, uU, uU, uU, uU, uU, uU, uU, uU, uU, uU, uU, uU, uU, uU] [(.int (0 : Int32)), (.ref o1)])) rfl (rest := []) rfl (hb hby d2_7) (XS.dstore X0.here hx rfl (hb hby d2_8) rfl (l' := #[sR o0, sI (0 : Int32), sR o1, sI (0 : Int32), sR o2, sI (0 : Int32), sR o3, sI (0 : Int32), sD uc, uS, sD us, uS, sD u0_0, uS, sD u1_0, uS, uU, uU, uU, uU, uU, uU, uU, uU, uU, uU, uU, uU, uU, uU, uU, uU]) rfl k)))))))) ?_
  show OwnGo _ _ _ _ (s₁.setTop (mkF m 10 #[sR o0, sI (0 : Int32), sR o1, sI (0 : Int32), sR o2, sI (0 : Int32), sR o3, sI (0 : Int32), sD uc, uS, sD us, uS, sD u0_0, uS, sD u1_0, uS, uU, uU, uU, uU, uU, uU, uU, uU, uU, uU, uU, uU, uU, uU, uU, uU] []))
  refine OwnGo.pre (fun t k => XS.aload X0.here hx rfl (hb hby d2_10) rfl rfl (XS.iload X0.here hx rfl (hb hby d2_12) rfl (own_daL X0 hx hZ e0 Ao2 (j := (0 : Int32)) (by decide) (i := 0) (by decide) (x := u2_0) rfl (g := (mkF m 14 #[sR o0, sI (0 : Int32), sR o1, sI (0 : Int32), sR o2, sI (0 : Int32), sR o3, sI (0 : Int32), sD uc, uS, sD us, uS, sD u0_0, uS, sD u1_0, uS, uU, uU, uU, uU, uU, uU, uU, uU, uU, uU, uU, uU, uU, uU, uU, uU] [(.int (0 : Int32)), (.ref o2)])) rfl (rest := []) rfl (hb hby d2_14) (XS.dstore X0.here hx rfl (hb hby d2_15) rfl (l' := #[sR o0, sI (0 : Int32), sR o1, sI (0 : Int32), sR o2, sI (0 : Int32), sR o3, sI (0 : Int32), sD uc, uS, sD us, uS, sD u0_0, uS, sD u1_0, uS, sD u2_0, uS, uU, uU, uU, uU, uU, uU, uU, uU, uU, uU, uU, uU, uU, uU]) rfl (XS.aload X0.here hx rfl (hb hby d2_17) rfl rfl (XS.iload X0.here hx rfl (hb hby d2_19) rfl (own_daL X0 hx hZ e0 Ao3 (j := (0 : Int32)) (by decide) (i := 0) (by decide) (x := u3_0) rfl (g := (mkF m 21 #[sR o0, sI (0 : Int32), sR o1, sI (0 : Int32), sR o2, sI (0 : Int32), sR o3, sI (0 : Int32), sD uc, uS, sD us, uS, sD u0_0, uS, sD u1_0, uS, sD u2_0, uS, uU, uU, uU, uU, uU, uU, uU, uU, uU, uU, uU, uU, uU, uU] [(.int (0 : Int32)), (.ref o3)])) rfl (rest := []) rfl (hb hby d2_21) (XS.dstore X0.here hx rfl (hb hby d2_22) rfl (l' := #[sR o0, sI (0 : Int32), sR o1, sI (0 : Int32), sR o2, sI (0 : Int32), sR o3, sI (0 : Int32), sD uc, uS, sD us, uS, sD u0_0, uS, sD u1_0, uS, sD u2_0, uS, sD u3_0, uS, uU, uU, uU, uU, uU, uU, uU, uU, uU, uU, uU, uU]) rfl k)))))))) ?_
  show OwnGo _ _ _ _ (s₁.setTop (mkF m 24 #[sR o0, sI (0 : Int32), sR o1, sI (0 : Int32), sR o2, sI (0 : Int32), sR o3, sI (0 : Int32), sD uc, uS, sD us, uS, sD u0_0, uS, sD u1_0, uS, sD u2_0, uS, sD u3_0, uS, uU, uU, uU, uU, uU, uU, uU, uU, uU, uU, uU, uU] []))
  have Dq45 : OwnDS 0 (i0_0 + i2_0) (FP.dadd u0_0 u2_0) := own_ds_add (n := 53) Du0_0 Du2_0 (own_bd_nat (C := 16777216) (own_bd_add Bu0_0 Bu2_0 (by decide)) (by decide))
  obtain ⟨d45, hd45⟩ : ∃ v, FP.dadd u0_0 u2_0 = v := ⟨_, rfl⟩
  obtain ⟨j45, hj45⟩ : ∃ i : Int, i = i0_0 + i2_0 := ⟨_, rfl⟩
  have B45 : -16777216 ≤ j45 ∧ j45 ≤ 16777216 := by rw [hj45]; exact own_bd_add Bu0_0 Bu2_0 (by decide)
  have D45 : OwnDS 0 j45 d45 := by rw [hj45, ← hd45]; exact Dq45
  have Dq46 : OwnDS 0 (i1_0 - i3_0) (FP.dsub u1_0 u3_0) := own_ds_sub (n := 53) Du1_0 Du3_0 (own_bd_nat (C := 16777216) (own_bd_sub Bu1_0 Bu3_0 (by decide)) (by decide))
  obtain ⟨d46, hd46⟩ : ∃ v, FP.dsub u1_0 u3_0 = v := ⟨_, rfl⟩
  obtain ⟨j46, hj46⟩ : ∃ i : Int, i = i1_0 - i3_0 := ⟨_, rfl⟩
  have B46 : -16777216 ≤ j46 ∧ j46 ≤ 16777216 := by rw [hj46]; exact own_bd_sub Bu1_0 Bu3_0 (by decide)
  have D46 : OwnDS 0 j46 d46 := by rw [hj46, ← hd46]; exact Dq46
  refine OwnGo.pre (fun t k => XS.dload X0.here hx rfl (hb hby d2_24) rfl (XS.dload X0.here hx rfl (hb hby d2_26) rfl (XS.daddS X0.here hx rfl (hb hby d2_28) rfl (own_nn Dq45) hd45 (XS.dstore X0.here hx rfl (hb hby d2_29) rfl (l' := #[sR o0, sI (0 : Int32), sR o1, sI (0 : Int32), sR o2, sI (0 : Int32), sR o3, sI (0 : Int32), sD uc, uS, sD us, uS, sD u0_0, uS, sD u1_0, uS, sD u2_0, uS, sD u3_0, uS, sD d45, uS, uU, uU, uU, uU, uU, uU, uU, uU, uU, uU]) rfl (XS.dload X0.here hx rfl (hb hby d2_31) rfl (XS.dload X0.here hx rfl (hb hby d2_33) rfl (XS.dsubS X0.here hx rfl (hb hby d2_35) rfl (own_nn Dq46) hd46 (XS.dstore X0.here hx rfl (hb hby d2_36) rfl (l' := #[sR o0, sI (0 : Int32), sR o1, sI (0 : Int32), sR o2, sI (0 : Int32), sR o3, sI (0 : Int32), sD uc, uS, sD us, uS, sD u0_0, uS, sD u1_0, uS, sD u2_0, uS, sD u3_0, uS, sD d45, uS, sD d46, uS, uU, uU, uU, uU, uU, uU, uU, uU]) rfl k)))))))) ?_
  show OwnGo _ _ _ _ (s₁.setTop (mkF m 38 #[sR o0, sI (0 : Int32), sR o1, sI (0 : Int32), sR o2, sI (0 : Int32), sR o3, sI (0 : Int32), sD uc, uS, sD us, uS, sD u0_0, uS, sD u1_0, uS, sD u2_0, uS, sD u3_0, uS, sD d45, uS, sD d46, uS, uU, uU, uU, uU, uU, uU, uU, uU] []))
  have Dq47 : OwnDS 0 (i0_0 - i2_0) (FP.dsub u0_0 u2_0) := own_ds_sub (n := 53) Du0_0 Du2_0 (own_bd_nat (C := 16777216) (own_bd_sub Bu0_0 Bu2_0 (by decide)) (by decide))
  obtain ⟨d47, hd47⟩ : ∃ v, FP.dsub u0_0 u2_0 = v := ⟨_, rfl⟩
  obtain ⟨j47, hj47⟩ : ∃ i : Int, i = i0_0 - i2_0 := ⟨_, rfl⟩
  have B47 : -16777216 ≤ j47 ∧ j47 ≤ 16777216 := by rw [hj47]; exact own_bd_sub Bu0_0 Bu2_0 (by decide)
  have D47 : OwnDS 0 j47 d47 := by rw [hj47, ← hd47]; exact Dq47
  have Dq48 : OwnDS 0 (i1_0 + i3_0) (FP.dadd u1_0 u3_0) := own_ds_add (n := 53) Du1_0 Du3_0 (own_bd_nat (C := 16777216) (own_bd_add Bu1_0 Bu3_0 (by decide)) (by decide))
  obtain ⟨d48, hd48⟩ : ∃ v, FP.dadd u1_0 u3_0 = v := ⟨_, rfl⟩
  obtain ⟨j48, hj48⟩ : ∃ i : Int, i = i1_0 + i3_0 := ⟨_, rfl⟩
  have B48 : -16777216 ≤ j48 ∧ j48 ≤ 16777216 := by rw [hj48]; exact own_bd_add Bu1_0 Bu3_0 (by decide)
  have D48 : OwnDS 0 j48 d48 := by rw [hj48, ← hd48]; exact Dq48
  refine OwnGo.pre (fun t k => XS.dload X0.here hx rfl (hb hby d2_38) rfl (XS.dload X0.here hx rfl (hb hby d2_40) rfl (XS.dsubS X0.here hx rfl (hb hby d2_42) rfl (own_nn Dq47) hd47 (XS.dstore X0.here hx rfl (hb hby d2_43) rfl (l' := #[sR o0, sI (0 : Int32), sR o1, sI (0 : Int32), sR o2, sI (0 : Int32), sR o3, sI (0 : Int32), sD uc, uS, sD us, uS, sD u0_0, uS, sD u1_0, uS, sD u2_0, uS, sD u3_0, uS, sD d45, uS, sD d46, uS, sD d47, uS, uU, uU, uU, uU, uU, uU]) rfl (XS.dload X0.here hx rfl (hb hby d2_45) rfl (XS.dload X0.here hx rfl (hb hby d2_47) rfl (XS.daddS X0.here hx rfl (hb hby d2_49) rfl (own_nn Dq48) hd48 (XS.dstore X0.here hx rfl (hb hby d2_50) rfl (l' := #[sR o0, sI (0 : Int32), sR o1, sI (0 : Int32), sR o2, sI (0 : Int32), sR o3, sI (0 : Int32), sD uc, uS, sD us, uS, sD u0_0, uS, sD u1_0, uS, sD u2_0, uS, sD u3_0, uS, sD d45, uS, sD d46, uS, sD d47, uS, sD d48, uS, uU, uU, uU, uU]) rfl k)))))))) ?_
  show OwnGo _ _ _ _ (s₁.setTop (mkF m 52 #[sR o0, sI (0 : Int32), sR o1, sI (0 : Int32), sR o2, sI (0 : Int32), sR o3, sI (0 : Int32), sD uc, uS, sD us, uS, sD u0_0, uS, sD u1_0, uS, sD u2_0, uS, sD u3_0, uS, sD d45, uS, sD d46, uS, sD d47, uS, sD d48, uS, uU, uU, uU, uU] []))
  obtain ⟨j49, hj49⟩ : ∃ i : Int, i = j47 * ic := ⟨_, rfl⟩
  have B49 : -140737488355328 ≤ j49 ∧ j49 ≤ 140737488355328 := by rw [hj49]; exact own_bd_mul B47 Buc (by decide)
  have Dq49 : OwnDS 0 j49 (FP.dmul d47 uc) := by rw [hj49]; have q := own_ds_mul (n := 53) D47 Duc (own_bd_nat (C := 140737488355328) (own_bd_mul B47 Buc (by decide)) (by decide)); exact q
  obtain ⟨d49, hd49⟩ : ∃ v, FP.dmul d47 uc = v := ⟨_, rfl⟩
  have D49 : OwnDS 0 j49 d49 := by rw [← hd49]; exact Dq49
  obtain ⟨j50, hj50⟩ : ∃ i : Int, i = j48 * is := ⟨_, rfl⟩
  have B50 : -140737488355328 ≤ j50 ∧ j50 ≤ 140737488355328 := by rw [hj50]; exact own_bd_mul B48 Bus (by decide)
  have Dq50 : OwnDS 0 j50 (FP.dmul d48 us) := by rw [hj50]; have q := own_ds_mul (n := 53) D48 Dus (own_bd_nat (C := 140737488355328) (own_bd_mul B48 Bus (by decide)) (by decide)); exact q
  obtain ⟨d50, hd50⟩ : ∃ v, FP.dmul d48 us = v := ⟨_, rfl⟩
  have D50 : OwnDS 0 j50 d50 := by rw [← hd50]; exact Dq50
  have Dq51 : OwnDS 0 (j49 - j50) (FP.dsub d49 d50) := own_ds_sub (n := 53) D49 D50 (own_bd_nat (C := 281474976710656) (own_bd_sub B49 B50 (by decide)) (by decide))
  obtain ⟨d51, hd51⟩ : ∃ v, FP.dsub d49 d50 = v := ⟨_, rfl⟩
  obtain ⟨j51, hj51⟩ : ∃ i : Int, i = j49 - j50 := ⟨_, rfl⟩
  have B51 : -281474976710656 ≤ j51 ∧ j51 ≤ 281474976710656 := by rw [hj51]; exact own_bd_sub B49 B50 (by decide)
  have D51 : OwnDS 0 j51 d51 := by rw [hj51, ← hd51]; exact Dq51
  refine OwnGo.pre (fun t k => XS.dload X0.here hx rfl (hb hby d2_52) rfl (XS.dload X0.here hx rfl (hb hby d2_54) rfl (XS.dmulS X0.here hx rfl (hb hby d2_56) rfl (own_nn Dq49) hd49 (XS.dload X0.here hx rfl (hb hby d2_57) rfl (XS.dload X0.here hx rfl (hb hby d2_59) rfl (XS.dmulS X0.here hx rfl (hb hby d2_61) rfl (own_nn Dq50) hd50 (XS.dsubS X0.here hx rfl (hb hby d2_62) rfl (own_nn Dq51) hd51 (XS.dstore X0.here hx rfl (hb hby d2_63) rfl (l' := #[sR o0, sI (0 : Int32), sR o1, sI (0 : Int32), sR o2, sI (0 : Int32), sR o3, sI (0 : Int32), sD uc, uS, sD us, uS, sD u0_0, uS, sD u1_0, uS, sD u2_0, uS, sD u3_0, uS, sD d45, uS, sD d46, uS, sD d47, uS, sD d48, uS, sD d51, uS, uU, uU]) rfl k)))))))) ?_
  show OwnGo _ _ _ _ (s₁.setTop (mkF m 65 #[sR o0, sI (0 : Int32), sR o1, sI (0 : Int32), sR o2, sI (0 : Int32), sR o3, sI (0 : Int32), sD uc, uS, sD us, uS, sD u0_0, uS, sD u1_0, uS, sD u2_0, uS, sD u3_0, uS, sD d45, uS, sD d46, uS, sD d47, uS, sD d48, uS, sD d51, uS, uU, uU] []))
  obtain ⟨j52, hj52⟩ : ∃ i : Int, i = j47 * is := ⟨_, rfl⟩
  have B52 : -140737488355328 ≤ j52 ∧ j52 ≤ 140737488355328 := by rw [hj52]; exact own_bd_mul B47 Bus (by decide)
  have Dq52 : OwnDS 0 j52 (FP.dmul d47 us) := by rw [hj52]; have q := own_ds_mul (n := 53) D47 Dus (own_bd_nat (C := 140737488355328) (own_bd_mul B47 Bus (by decide)) (by decide)); exact q
  obtain ⟨d52, hd52⟩ : ∃ v, FP.dmul d47 us = v := ⟨_, rfl⟩
  have D52 : OwnDS 0 j52 d52 := by rw [← hd52]; exact Dq52
  obtain ⟨j53, hj53⟩ : ∃ i : Int, i = j48 * ic := ⟨_, rfl⟩
  have B53 : -140737488355328 ≤ j53 ∧ j53 ≤ 140737488355328 := by rw [hj53]; exact own_bd_mul B48 Buc (by decide)
  have Dq53 : OwnDS 0 j53 (FP.dmul d48 uc) := by rw [hj53]; have q := own_ds_mul (n := 53) D48 Duc (own_bd_nat (C := 140737488355328) (own_bd_mul B48 Buc (by decide)) (by decide)); exact q
  obtain ⟨d53, hd53⟩ : ∃ v, FP.dmul d48 uc = v := ⟨_, rfl⟩
  have D53 : OwnDS 0 j53 d53 := by rw [← hd53]; exact Dq53
  have Dq54 : OwnDS 0 (j52 + j53) (FP.dadd d52 d53) := own_ds_add (n := 53) D52 D53 (own_bd_nat (C := 281474976710656) (own_bd_add B52 B53 (by decide)) (by decide))
  obtain ⟨d54, hd54⟩ : ∃ v, FP.dadd d52 d53 = v := ⟨_, rfl⟩
  obtain ⟨j54, hj54⟩ : ∃ i : Int, i = j52 + j53 := ⟨_, rfl⟩
  have B54 : -281474976710656 ≤ j54 ∧ j54 ≤ 281474976710656 := by rw [hj54]; exact own_bd_add B52 B53 (by decide)
  have D54 : OwnDS 0 j54 d54 := by rw [hj54, ← hd54]; exact Dq54
  refine OwnGo.pre (fun t k => XS.dload X0.here hx rfl (hb hby d2_65) rfl (XS.dload X0.here hx rfl (hb hby d2_67) rfl (XS.dmulS X0.here hx rfl (hb hby d2_69) rfl (own_nn Dq52) hd52 (XS.dload X0.here hx rfl (hb hby d2_70) rfl (XS.dload X0.here hx rfl (hb hby d2_72) rfl (XS.dmulS X0.here hx rfl (hb hby d2_74) rfl (own_nn Dq53) hd53 (XS.daddS X0.here hx rfl (hb hby d2_75) rfl (own_nn Dq54) hd54 (XS.dstore X0.here hx rfl (hb hby d2_76) rfl (l' := #[sR o0, sI (0 : Int32), sR o1, sI (0 : Int32), sR o2, sI (0 : Int32), sR o3, sI (0 : Int32), sD uc, uS, sD us, uS, sD u0_0, uS, sD u1_0, uS, sD u2_0, uS, sD u3_0, uS, sD d45, uS, sD d46, uS, sD d47, uS, sD d48, uS, sD d51, uS, sD d54, uS]) rfl k)))))))) ?_
  show OwnGo _ _ _ _ (s₁.setTop (mkF m 78 #[sR o0, sI (0 : Int32), sR o1, sI (0 : Int32), sR o2, sI (0 : Int32), sR o3, sI (0 : Int32), sD uc, uS, sD us, uS, sD u0_0, uS, sD u1_0, uS, sD u2_0, uS, sD u3_0, uS, sD d45, uS, sD d46, uS, sD d47, uS, sD d48, uS, sD d51, uS, sD d54, uS] []))
  have Dq55 : OwnDS 0 (j45 - j54) (FP.dsub d45 d54) := own_ds_sub (n := 53) D45 D54 (own_bd_nat (C := 281474993487872) (own_bd_sub B45 B54 (by decide)) (by decide))
  obtain ⟨d55, hd55⟩ : ∃ v, FP.dsub d45 d54 = v := ⟨_, rfl⟩
  obtain ⟨j55, hj55⟩ : ∃ i : Int, i = j45 - j54 := ⟨_, rfl⟩
  have B55 : -281474993487872 ≤ j55 ∧ j55 ≤ 281474993487872 := by rw [hj55]; exact own_bd_sub B45 B54 (by decide)
  have D55 : OwnDS 0 j55 d55 := by rw [hj55, ← hd55]; exact Dq55
  refine OwnGo.pre (fun t k => XS.aloadN X0.here hx rfl (hb hby d2_78) rfl rfl (XS.iloadN X0.here hx rfl (hb hby d2_79) rfl (XS.dload X0.here hx rfl (hb hby d2_80) rfl (XS.dload X0.here hx rfl (hb hby d2_82) rfl (XS.dsubS X0.here hx rfl (hb hby d2_84) rfl (own_nn Dq55) hd55 k))))) ?_
  show OwnGo _ _ _ _ (s₁.setTop (mkF m 85 #[sR o0, sI (0 : Int32), sR o1, sI (0 : Int32), sR o2, sI (0 : Int32), sR o3, sI (0 : Int32), sD uc, uS, sD us, uS, sD u0_0, uS, sD u1_0, uS, sD u2_0, uS, sD u3_0, uS, sD d45, uS, sD d46, uS, sD d47, uS, sD d48, uS, sD d51, uS, sD d54, uS] [(.double d55), (.int (0 : Int32)), (.ref o0)]))
  obtain ⟨T56, h56, X56, e56, W56, A56, st56⟩ := own_daS X0 hx hZ e0 Ao0 (by decide) (i := 0) (by decide) (by show 0 < 2; decide) (g := (mkF m 85 #[sR o0, sI (0 : Int32), sR o1, sI (0 : Int32), sR o2, sI (0 : Int32), sR o3, sI (0 : Int32), sD uc, uS, sD us, uS, sD u0_0, uS, sD u1_0, uS, sD u2_0, uS, sD u3_0, uS, sD d45, uS, sD d46, uS, sD d47, uS, sD d48, uS, sD d51, uS, sD d54, uS] [(.double d55), (.int (0 : Int32)), (.ref o0)])) rfl rfl (hb hby d2_85)
  have A56n : OwnDA Z h56 o0 [d55, u0_1] := A56
  have A56_o1 := Ao1.ot W56 neo0o1.symm
  have A56_o2 := Ao2.ot W56 neo0o2.symm
  have A56_o3 := Ao3.ot W56 neo0o3.symm
  have N56 := Fr.snoc X56 N0 go0
  have P56 := (Keep.refl h0 [o0, o1, o2, o3]).wr W56 (Or.inl (List.mem_of_getElem? (i := 0) rfl))
  have Z56 : n0 ≤ h56.size := by rw [W56.size]; exact Z0
  refine OwnGo.pre (fun t k => st56 t k) ?_
  show OwnGo _ _ _ _ (T56.setTop (mkF m 86 #[sR o0, sI (0 : Int32), sR o1, sI (0 : Int32), sR o2, sI (0 : Int32), sR o3, sI (0 : Int32), sD uc, uS, sD us, uS, sD u0_0, uS, sD u1_0, uS, sD u2_0, uS, sD u3_0, uS, sD d45, uS, sD d46, uS, sD d47, uS, sD d48, uS, sD d51, uS, sD d54, uS] []))
  have Dq57 : OwnDS 0 (j46 + j51) (FP.dadd d46 d51) := own_ds_add (n := 53) D46 D51 (own_bd_nat (C := 281474993487872) (own_bd_add B46 B51 (by decide)) (by decide))
  obtain ⟨d57, hd57⟩ : ∃ v, FP.dadd d46 d51 = v := ⟨_, rfl⟩
  obtain ⟨j57, hj57⟩ : ∃ i : Int, i = j46 + j51 := ⟨_, rfl⟩
  have B57 : -281474993487872 ≤ j57 ∧ j57 ≤ 281474993487872 := by rw [hj57]; exact own_bd_add B46 B51 (by decide)
  have D57 : OwnDS 0 j57 d57 := by rw [hj57, ← hd57]; exact Dq57
  refine OwnGo.pre (fun t k => XS.aloadN X56.here hx rfl (hb hby d2_86) rfl rfl (XS.iloadN X56.here hx rfl (hb hby d2_87) rfl (XS.dload X56.here hx rfl (hb hby d2_88) rfl (XS.dload X56.here hx rfl (hb hby d2_90) rfl (XS.daddS X56.here hx rfl (hb hby d2_92) rfl (own_nn Dq57) hd57 k))))) ?_
  show OwnGo _ _ _ _ (T56.setTop (mkF m 93 #[sR o0, sI (0 : Int32), sR o1, sI (0 : Int32), sR o2, sI (0 : Int32), sR o3, sI (0 : Int32), sD uc, uS, sD us, uS, sD u0_0, uS, sD u1_0, uS, sD u2_0, uS, sD u3_0, uS, sD d45, uS, sD d46, uS, sD d47, uS, sD d48, uS, sD d51, uS, sD d54, uS] [(.double d57), (.int (0 : Int32)), (.ref o1)]))
  obtain ⟨T58, h58, X58, e58, W58, A58, st58⟩ := own_daS X56 hx hZ e56 A56_o1 (by decide) (i := 0) (by decide) (by show 0 < 2; decide) (g := (mkF m 93 #[sR o0, sI (0 : Int32), sR o1, sI (0 : Int32), sR o2, sI (0 : Int32), sR o3, sI (0 : Int32), sD uc, uS, sD us, uS, sD u0_0, uS, sD u1_0, uS, sD u2_0, uS, sD u3_0, uS, sD d45, uS, sD d46, uS, sD d47, uS, sD d48, uS, sD d51, uS, sD d54, uS] [(.double d57), (.int (0 : Int32)), (.ref o1)])) rfl rfl (hb hby d2_93)
  have A58n : OwnDA Z h58 o1 [d57, u1_1] := A58
  have A58_o0 := A56n.ot W58 neo0o1
  have A58_o2 := A56_o2.ot W58 neo1o2.symm
  have A58_o3 := A56_o3.ot W58 neo1o3.symm
  have N58 := Fr.snoc X58 N56 go1
  have P58 := P56.wr W58 (Or.inl (List.mem_of_getElem? (i := 1) rfl))
  have Z58 : n0 ≤ h58.size := by rw [W58.size]; exact Z56
  refine OwnGo.pre (fun t k => st58 t k) ?_
  show OwnGo _ _ _ _ (T58.setTop (mkF m 94 #[sR o0, sI (0 : Int32), sR o1, sI (0 : Int32), sR o2, sI (0 : Int32), sR o3, sI (0 : Int32), sD uc, uS, sD us, uS, sD u0_0, uS, sD u1_0, uS, sD u2_0, uS, sD u3_0, uS, sD d45, uS, sD d46, uS, sD d47, uS, sD d48, uS, sD d51, uS, sD d54, uS] []))
  have Dq59 : OwnDS 0 (j45 + j54) (FP.dadd d45 d54) := own_ds_add (n := 53) D45 D54 (own_bd_nat (C := 281474993487872) (own_bd_add B45 B54 (by decide)) (by decide))
  obtain ⟨d59, hd59⟩ : ∃ v, FP.dadd d45 d54 = v := ⟨_, rfl⟩
  obtain ⟨j59, hj59⟩ : ∃ i : Int, i = j45 + j54 := ⟨_, rfl⟩
  have B59 : -281474993487872 ≤ j59 ∧ j59 ≤ 281474993487872 := by rw [hj59]; exact own_bd_add B45 B54 (by decide)
  have D59 : OwnDS 0 j59 d59 := by rw [hj59, ← hd59]; exact Dq59
  refine OwnGo.pre (fun t k => XS.aload X58.here hx rfl (hb hby d2_94) rfl rfl (XS.iload X58.here hx rfl (hb hby d2_96) rfl (XS.dload X58.here hx rfl (hb hby d2_98) rfl (XS.dload X58.here hx rfl (hb hby d2_100) rfl (XS.daddS X58.here hx rfl (hb hby d2_102) rfl (own_nn Dq59) hd59 k))))) ?_
  show OwnGo _ _ _ _ (T58.setTop (mkF m 103 #[sR o0, sI (0 : Int32), sR o1, sI (0 : Int32), sR o2, sI (0 : Int32), sR o3, sI (0 : Int32), sD uc, uS, sD us, uS, sD u0_0, uS, sD u1_0, uS, sD u2_0, uS, sD u3_0, uS, sD d45, uS, sD d46, uS, sD d47, uS, sD d48, uS, sD d51, uS, sD d54, uS] [(.double d59), (.int (0 : Int32)), (.ref o2)]))
  obtain ⟨T60, h60, X60, e60, W60, A60, st60⟩ := own_daS X58 hx hZ e58 A58_o2 (by decide) (i := 0) (by decide) (by show 0 < 2; decide) (g := (mkF m 103 #[sR o0, sI (0 : Int32), sR o1, sI (0 : Int32), sR o2, sI (0 : Int32), sR o3, sI (0 : Int32), sD uc, uS, sD us, uS, sD u0_0, uS, sD u1_0, uS, sD u2_0, uS, sD u3_0, uS, sD d45, uS, sD d46, uS, sD d47, uS, sD d48, uS, sD d51, uS, sD d54, uS] [(.double d59), (.int (0 : Int32)), (.ref o2)])) rfl rfl (hb hby d2_103)
  have A60n : OwnDA Z h60 o2 [d59, u2_1] := A60
  have A60_o0 := A58_o0.ot W60 neo0o2
  have A60_o1 := A58n.ot W60 neo1o2
  have A60_o3 := A58_o3.ot W60 neo2o3.symm
  have N60 := Fr.snoc X60 N58 go2
  have P60 := P58.wr W60 (Or.inl (List.mem_of_getElem? (i := 2) rfl))
  have Z60 : n0 ≤ h60.size := by rw [W60.size]; exact Z58
  refine OwnGo.pre (fun t k => st60 t k) ?_
  show OwnGo _ _ _ _ (T60.setTop (mkF m 104 #[sR o0, sI (0 : Int32), sR o1, sI (0 : Int32), sR o2, sI (0 : Int32), sR o3, sI (0 : Int32), sD uc, uS, sD us, uS, sD u0_0, uS, sD u1_0, uS, sD u2_0, uS, sD u3_0, uS, sD d45, uS, sD d46, uS, sD d47, uS, sD d48, uS, sD d51, uS, sD d54, uS] []))
  have Dq61 : OwnDS 0 (j51 - j46) (FP.dsub d51 d46) := own_ds_sub (n := 53) D51 D46 (own_bd_nat (C := 281474993487872) (own_bd_sub B51 B46 (by decide)) (by decide))
  obtain ⟨d61, hd61⟩ : ∃ v, FP.dsub d51 d46 = v := ⟨_, rfl⟩
  obtain ⟨j61, hj61⟩ : ∃ i : Int, i = j51 - j46 := ⟨_, rfl⟩
  have B61 : -281474993487872 ≤ j61 ∧ j61 ≤ 281474993487872 := by rw [hj61]; exact own_bd_sub B51 B46 (by decide)
  have D61 : OwnDS 0 j61 d61 := by rw [hj61, ← hd61]; exact Dq61
  refine OwnGo.pre (fun t k => XS.aload X60.here hx rfl (hb hby d2_104) rfl rfl (XS.iload X60.here hx rfl (hb hby d2_106) rfl (XS.dload X60.here hx rfl (hb hby d2_108) rfl (XS.dload X60.here hx rfl (hb hby d2_110) rfl (XS.dsubS X60.here hx rfl (hb hby d2_112) rfl (own_nn Dq61) hd61 k))))) ?_
  show OwnGo _ _ _ _ (T60.setTop (mkF m 113 #[sR o0, sI (0 : Int32), sR o1, sI (0 : Int32), sR o2, sI (0 : Int32), sR o3, sI (0 : Int32), sD uc, uS, sD us, uS, sD u0_0, uS, sD u1_0, uS, sD u2_0, uS, sD u3_0, uS, sD d45, uS, sD d46, uS, sD d47, uS, sD d48, uS, sD d51, uS, sD d54, uS] [(.double d61), (.int (0 : Int32)), (.ref o3)]))
  obtain ⟨T62, h62, X62, e62, W62, A62, st62⟩ := own_daS X60 hx hZ e60 A60_o3 (by decide) (i := 0) (by decide) (by show 0 < 2; decide) (g := (mkF m 113 #[sR o0, sI (0 : Int32), sR o1, sI (0 : Int32), sR o2, sI (0 : Int32), sR o3, sI (0 : Int32), sD uc, uS, sD us, uS, sD u0_0, uS, sD u1_0, uS, sD u2_0, uS, sD u3_0, uS, sD d45, uS, sD d46, uS, sD d47, uS, sD d48, uS, sD d51, uS, sD d54, uS] [(.double d61), (.int (0 : Int32)), (.ref o3)])) rfl rfl (hb hby d2_113)
  have A62n : OwnDA Z h62 o3 [d61, u3_1] := A62
  have A62_o0 := A60_o0.ot W62 neo0o3
  have A62_o1 := A60_o1.ot W62 neo1o3
  have A62_o2 := A60n.ot W62 neo2o3
  have N62 := Fr.snoc X62 N60 go3
  have P62 := P60.wr W62 (Or.inl (List.mem_of_getElem? (i := 3) rfl))
  have Z62 : n0 ≤ h62.size := by rw [W62.size]; exact Z60
  refine OwnGo.pre (fun t k => st62 t k) ?_
  show OwnGo _ _ _ _ (T62.setTop (mkF m 114 #[sR o0, sI (0 : Int32), sR o1, sI (0 : Int32), sR o2, sI (0 : Int32), sR o3, sI (0 : Int32), sD uc, uS, sD us, uS, sD u0_0, uS, sD u1_0, uS, sD u2_0, uS, sD u3_0, uS, sD d45, uS, sD d46, uS, sD d47, uS, sD d48, uS, sD d51, uS, sD d54, uS] []))
  rw [← e62] at A62_o0 A62_o1 A62_o2 A62n Z62 P62
  exact own_ret0 X62 hx hk hrt (hb hby d2_114) ⟨_, _, _, _, rfl, ((by simp only [hj55, hj45, hj54, hj52, hj47, hj53, hj48] : j55 = ((i0_0 + i2_0) - (((i0_0 - i2_0) * is) + ((i1_0 + i3_0) * ic)))) ▸ D55), ((by simp only [hj55, hj45, hj54, hj52, hj47, hj53, hj48] : j55 = ((i0_0 + i2_0) - (((i0_0 - i2_0) * is) + ((i1_0 + i3_0) * ic)))) ▸ B55), ((by simp only [hj57, hj46, hj51, hj49, hj47, hj50, hj48] : j57 = ((i1_0 - i3_0) + (((i0_0 - i2_0) * ic) - ((i1_0 + i3_0) * is)))) ▸ D57), ((by simp only [hj57, hj46, hj51, hj49, hj47, hj50, hj48] : j57 = ((i1_0 - i3_0) + (((i0_0 - i2_0) * ic) - ((i1_0 + i3_0) * is)))) ▸ B57), ((by simp only [hj59, hj45, hj54, hj52, hj47, hj53, hj48] : j59 = ((i0_0 + i2_0) + (((i0_0 - i2_0) * is) + ((i1_0 + i3_0) * ic)))) ▸ D59), ((by simp only [hj59, hj45, hj54, hj52, hj47, hj53, hj48] : j59 = ((i0_0 + i2_0) + (((i0_0 - i2_0) * is) + ((i1_0 + i3_0) * ic)))) ▸ B59), ((by simp only [hj61, hj51, hj49, hj47, hj50, hj48, hj46] : j61 = ((((i0_0 - i2_0) * ic) - ((i1_0 + i3_0) * is)) - (i1_0 - i3_0))) ▸ D61), ((by simp only [hj61, hj51, hj49, hj47, hj50, hj48, hj46] : j61 = ((((i0_0 - i2_0) * ic) - ((i1_0 + i3_0) * is)) - (i1_0 - i3_0))) ▸ B61), A62_o0, A62_o1, A62_o2, A62n, P62, N62, Z62⟩ (by decide) (by decide)
theorem pn_rmK2_1 : plainName "com/example/isochron/isochron/dsp/Fourier" = true := by first | (simp [plainName, overriddenIn]; done) | decide +kernel
theorem pd_rmK2_1 : parseMethodDescriptor "([DI[DI[DI[DIDD)V" = some ⟨[(.array .double), .int, (.array .double), .int, (.array .double), .int, (.array .double), .int, .double, .double], none⟩ := by decide +kernel
theorem ef_rmK2_1 (m : MethodId) (o0 o1 o2 o3 : Addr) (u0_0 u0_1 u1_0 u1_1 u2_0 u2_1 u3_0 u3_1 uc us : UInt64) (i0_1 i1_1 i2_1 i3_1 ic is : Int) : entryFrame m #[(.ref o0), (.int (1 : Int32)), (.ref o1), (.int (1 : Int32)), (.ref o2), (.int (1 : Int32)), (.ref o3), (.int (1 : Int32)), (.double uc), (.double us)] 32 = (mkF m 0 #[sR o0, sI (1 : Int32), sR o1, sI (1 : Int32), sR o2, sI (1 : Int32), sR o3, sI (1 : Int32), sD uc, uS, sD us, uS, uU, uU, uU, uU, uU, uU, uU, uU, uU, uU, uU, uU, uU, uU, uU, uU, uU, uU, uU, uU] []) := by first | (simp [entryFrame, mkF, argsToLocals, Value.category, maxLocals]; done) | rfl
def Q_rmK2_1 (Z : State) (o0 o1 o2 o3 : Addr) (u0_0 u0_1 u1_0 u1_1 u2_0 u2_1 u3_0 u3_1 uc us : UInt64) (i0_1 i1_1 i2_1 i3_1 ic is : Int) (h0 : Heap) (n0 : Nat) (v : Option Value) (h : Heap) (L : List Loc) : Prop := ∃ ro0_1 ro1_1 ro2_1 ro3_1 : UInt64, v = none ∧ OwnDS 0 ((i0_1 + i2_1) - (((i0_1 - i2_1) * is) + ((i1_1 + i3_1) * ic))) ro0_1 ∧ (-281474993487872 ≤ ((i0_1 + i2_1) - (((i0_1 - i2_1) * is) + ((i1_1 + i3_1) * ic))) ∧ ((i0_1 + i2_1) - (((i0_1 - i2_1) * is) + ((i1_1 + i3_1) * ic))) ≤ 281474993487872) ∧ OwnDS 0 ((i1_1 - i3_1) + (((i0_1 - i2_1) * ic) - ((i1_1 + i3_1) * is))) ro1_1 ∧ (-281474993487872 ≤ ((i1_1 - i3_1) + (((i0_1 - i2_1) * ic) - ((i1_1 + i3_1) * is))) ∧ ((i1_1 - i3_1) + (((i0_1 - i2_1) * ic) - ((i1_1 + i3_1) * is))) ≤ 281474993487872) ∧ OwnDS 0 ((i0_1 + i2_1) + (((i0_1 - i2_1) * is) + ((i1_1 + i3_1) * ic))) ro2_1 ∧ (-281474993487872 ≤ ((i0_1 + i2_1) + (((i0_1 - i2_1) * is) + ((i1_1 + i3_1) * ic))) ∧ ((i0_1 + i2_1) + (((i0_1 - i2_1) * is) + ((i1_1 + i3_1) * ic))) ≤ 281474993487872) ∧ OwnDS 0 ((((i0_1 - i2_1) * ic) - ((i1_1 + i3_1) * is)) - (i1_1 - i3_1)) ro3_1 ∧ (-281474993487872 ≤ ((((i0_1 - i2_1) * ic) - ((i1_1 + i3_1) * is)) - (i1_1 - i3_1)) ∧ ((((i0_1 - i2_1) * ic) - ((i1_1 + i3_1) * is)) - (i1_1 - i3_1)) ≤ 281474993487872) ∧ OwnDA Z h o0 [u0_0, ro0_1] ∧ OwnDA Z h o1 [u1_0, ro1_1] ∧ OwnDA Z h o2 [u2_0, ro2_1] ∧ OwnDA Z h o3 [u3_0, ro3_1] ∧ Keep h0 h [o0, o1, o2, o3] ∧ Fr n0 L ∧ n0 ≤ h.size
set_option maxRecDepth 65536 in
set_option maxHeartbeats 40000000 in
theorem rmK2_1 (l : Launch) (Z : State) (a0 : Array Value) (hw : ∀ d ∈ tables_1, d.before a0 Z = true) (ws : List Jvm.Cond) (o0 o1 o2 o3 : Addr) (u0_0 u0_1 u1_0 u1_1 u2_0 u2_1 u3_0 u3_1 uc us : UInt64) (i0_1 i1_1 i2_1 i3_1 ic is : Int) (h0 : Heap) (n0 : Nat) (Z0 : n0 ≤ h0.size) (Ao0 : OwnDA Z h0 o0 [u0_0, u0_1]) (Ao1 : OwnDA Z h0 o1 [u1_0, u1_1]) (Ao2 : OwnDA Z h0 o2 [u2_0, u2_1]) (Ao3 : OwnDA Z h0 o3 [u3_0, u3_1]) (neo0o1 : o0 ≠ o1) (neo0o2 : o0 ≠ o2) (neo0o3 : o0 ≠ o3) (neo1o2 : o1 ≠ o2) (neo1o3 : o1 ≠ o3) (neo2o3 : o2 ≠ o3) (go0 : n0 ≤ o0) (go1 : n0 ≤ o1) (go2 : n0 ≤ o2) (go3 : n0 ≤ o3) (Du0_1 : OwnDS 0 i0_1 u0_1) (Bu0_1 : -8388608 ≤ i0_1 ∧ i0_1 ≤ 8388608) (Du1_1 : OwnDS 0 i1_1 u1_1) (Bu1_1 : -8388608 ≤ i1_1 ∧ i1_1 ≤ 8388608) (Du2_1 : OwnDS 0 i2_1 u2_1) (Bu2_1 : -8388608 ≤ i2_1 ∧ i2_1 ≤ 8388608) (Du3_1 : OwnDS 0 i3_1 u3_1) (Bu3_1 : -8388608 ≤ i3_1 ∧ i3_1 ≤ 8388608) (Duc : OwnDS 0 ic uc) (Buc : -8388608 ≤ ic ∧ ic ≤ 8388608) (Dus : OwnDS 0 is us) (Bus : -8388608 ≤ is ∧ is ≤ 8388608) :
    MetFree l (⟨"com/example/isochron/isochron/dsp/Fourier", "join", "([DI[DI[DI[DIDD)V"⟩ : MethodName) (head1 (Jvm.Cond.code (⟨"com/example/isochron/isochron/dsp/Fourier", "join", "([DI[DI[DI[DIDD)V"⟩ : MethodName) prog_161_method_21_code 32 none :: ws) ({ frames := 0, cells := 0, slots := 0, locals := 0 } : Room)) (fun a U => a = #[(.ref o0), (.int (1 : Int32)), (.ref o1), (.int (1 : Int32)), (.ref o2), (.int (1 : Int32)), (.ref o3), (.int (1 : Int32)), (.double uc), (.double us)] ∧ Z.Warmed39 U.vm ∧ U.heap = h0) (fun _ _ _ _ _ => True) (fun _ U oO U' => ∃ v L, oO = .returned v ∧ Q_rmK2_1 Z o0 o1 o2 o3 u0_0 u0_1 u1_0 u1_1 u2_0 u2_1 u3_0 u3_1 uc us i0_1 i1_1 i2_1 i3_1 ic is h0 n0 v U'.heap L ∧ FrameEnd U oO U' L ({ frames := 0, cells := 0, slots := 0, locals := 0 } : Room).cells ({ frames := 0, cells := 0, slots := 0, locals := 0 } : Room).slots) := by
  refine MetFree.of_bodySF (plainFor_of_name pn_rmK2_1) hisR ?_
  intro p e s m args below meth c s₁ Bd hml0 hP hK
  obtain ⟨rfl, hZ, hh⟩ := hP
  have hx := Bd.exec
  have hby := Bd.bytes
  have hml : c.maxLocals = 32 := hml0
  have hown : s.vm.findClass "com/example/isochron/isochron/dsp/Fourier" = some m.cls := findClass_of_methodNamed Bd.named
  have hnm := (name_of_methodNamed Bd.named Bd.method).1
  have hk := Bd.notSynchronized
  have hrt := Bd.returns
  have X0 : Stand p l e ({ frames := 0, cells := 0, slots := 0, locals := 0 } : Room) s m #[(.ref o0), (.int (1 : Int32)), (.ref o1), (.int (1 : Int32)), (.ref o2), (.int (1 : Int32)), (.ref o3), (.int (1 : Int32)), (.double uc), (.double us)] below meth c s₁ [] 0 0 := Stand.of_body Bd
  have e0 : s₁.heap = h0 := by rw [← hh, Bd.state]; rfl
  have N0 := Fr.nil n0
  show OwnGo p.tables e below (OwnEnd s (Q_rmK2_1 Z o0 o1 o2 o3 u0_0 u0_1 u1_0 u1_1 u2_0 u2_1 u3_0 u3_1 uc us i0_1 i1_1 i2_1 i3_1 ic is h0 n0) ({ frames := 0, cells := 0, slots := 0, locals := 0 } : Room).cells ({ frames := 0, cells := 0, slots := 0, locals := 0 } : Room).slots) _
  refine OwnGo.pre (fun t k => castTop (ef_rmK2_1 m o0 o1 o2 o3 u0_0 u0_1 u1_0 u1_1 u2_0 u2_1 u3_0 u3_1 uc us i0_1 i1_1 i2_1 i3_1 ic is) k) ?_
  show OwnGo _ _ _ _ (s₁.setTop (mkF m 0 #[sR o0, sI (1 : Int32), sR o1, sI (1 : Int32), sR o2, sI (1 : Int32), sR o3, sI (1 : Int32), sD uc, uS, sD us, uS, uU, uU, uU, uU, uU, uU, uU, uU, uU, uU, uU, uU, uU, uU, uU, uU, uU, uU, uU, uU] []))
  refine OwnGo.pre (fun t k => XS.aloadN X0.here hx rfl (hb hby d2_0) rfl rfl (XS.iloadN X0.here hx rfl (hb hby d2_1) rfl (own_daL X0 hx hZ e0 Ao0 (j := (1 : Int32)) (by decide) (i := 1) (by decide) (x := u0_1) rfl (g := (mkF m 2 #[sR o0, sI (1 : Int32), sR o1, sI (1 : Int32), sR o2, sI (1 : Int32), sR o3, sI (1 : Int32), sD uc, uS, sD us, uS, uU, uU, uU, uU, uU, uU, uU, uU, uU, uU, uU, uU, uU, uU, uU, uU, uU, uU, uU, uU] [(.int (1 : Int32)), (.ref o0)])) rfl (rest := []) rfl (hb hby d2_2) (XS.dstore X0.here hx rfl (hb hby d2_3) rfl (l' := #[sR o0, sI (1 : Int32), sR o1, sI (1 : Int32), sR o2, sI (1 : Int32), sR o3, sI (1 : Int32), sD uc, uS, sD us, uS, sD u0_1, uS, uU, uU, uU, uU, uU, uU, uU, uU, uU, uU, uU, uU, uU, uU, uU, uU, uU, uU]) rfl (XS.aloadN X0.here hx rfl (hb hby d2_5) rfl rfl (XS.iloadN X0.here hx rfl (hb hby d2_6) rfl (own_daL X0 hx hZ e0 Ao1 (j := (1 : Int32)) (by decide) (i := 1) (by decide) (x := u1_1) rfl (g := (mkF m 7 #[sR o0, sI (1 : Int32), sR o1, sI (1 : Int32), sR o2, sI (1 : Int32), sR o3, sI (1 : Int32), sD uc, uS, sD us, uS, sD u0_1, uS, uU, uU, uU, uU, uU, uU, uU, uU, uU, uU, uU, uU, uU, uU, uU, uU, uU, uU] [(.int (1 : Int32)), (.ref o1)])) rfl (rest := []) rfl (hb hby d2_7) (XS.dstore X0.here hx rfl (hb hby d2_8) rfl (l' := #[sR o0, sI (1 : Int32), sR o1, sI (1 : Int32), sR o2, sI (1 : Int32), sR o3, sI (1 : Int32), sD uc, uS, sD us, uS, sD u0_1, uS, sD u1_1, uS, uU, uU, uU, uU, uU, uU, uU, uU, uU, uU, uU, uU, uU, uU, uU, uU]) rfl k)))))))) ?_
  show OwnGo _ _ _ _ (s₁.setTop (mkF m 10 #[sR o0, sI (1 : Int32), sR o1, sI (1 : Int32), sR o2, sI (1 : Int32), sR o3, sI (1 : Int32), sD uc, uS, sD us, uS, sD u0_1, uS, sD u1_1, uS, uU, uU, uU, uU, uU, uU, uU, uU, uU, uU, uU, uU, uU, uU, uU, uU] []))
  refine OwnGo.pre (fun t k => XS.aload X0.here hx rfl (hb hby d2_10) rfl rfl (XS.iload X0.here hx rfl (hb hby d2_12) rfl (own_daL X0 hx hZ e0 Ao2 (j := (1 : Int32)) (by decide) (i := 1) (by decide) (x := u2_1) rfl (g := (mkF m 14 #[sR o0, sI (1 : Int32), sR o1, sI (1 : Int32), sR o2, sI (1 : Int32), sR o3, sI (1 : Int32), sD uc, uS, sD us, uS, sD u0_1, uS, sD u1_1, uS, uU, uU, uU, uU, uU, uU, uU, uU, uU, uU, uU, uU, uU, uU, uU, uU] [(.int (1 : Int32)), (.ref o2)])) rfl (rest := []) rfl (hb hby d2_14) (XS.dstore X0.here hx rfl (hb hby d2_15) rfl (l' := #[sR o0, sI (1 : Int32), sR o1, sI (1 : Int32), sR o2, sI (1 : Int32), sR o3, sI (1 : Int32), sD uc, uS, sD us, uS, sD u0_1, uS, sD u1_1, uS, sD u2_1, uS, uU, uU, uU, uU, uU, uU, uU, uU, uU, uU, uU, uU, uU, uU]) rfl (XS.aload X0.here hx rfl (hb hby d2_17) rfl rfl (XS.iload X0.here hx rfl (hb hby d2_19) rfl (own_daL X0 hx hZ e0 Ao3 (j := (1 : Int32)) (by decide) (i := 1) (by decide) (x := u3_1) rfl (g := (mkF m 21 #[sR o0, sI (1 : Int32), sR o1, sI (1 : Int32), sR o2, sI (1 : Int32), sR o3, sI (1 : Int32), sD uc, uS, sD us, uS, sD u0_1, uS, sD u1_1, uS, sD u2_1, uS, uU, uU, uU, uU, uU, uU, uU, uU, uU, uU, uU, uU, uU, uU] [(.int (1 : Int32)), (.ref o3)])) rfl (rest := []) rfl (hb hby d2_21) (XS.dstore X0.here hx rfl (hb hby d2_22) rfl (l' := #[sR o0, sI (1 : Int32), sR o1, sI (1 : Int32), sR o2, sI (1 : Int32), sR o3, sI (1 : Int32), sD uc, uS, sD us, uS, sD u0_1, uS, sD u1_1, uS, sD u2_1, uS, sD u3_1, uS, uU, uU, uU, uU, uU, uU, uU, uU, uU, uU, uU, uU]) rfl k)))))))) ?_
  show OwnGo _ _ _ _ (s₁.setTop (mkF m 24 #[sR o0, sI (1 : Int32), sR o1, sI (1 : Int32), sR o2, sI (1 : Int32), sR o3, sI (1 : Int32), sD uc, uS, sD us, uS, sD u0_1, uS, sD u1_1, uS, sD u2_1, uS, sD u3_1, uS, uU, uU, uU, uU, uU, uU, uU, uU, uU, uU, uU, uU] []))
  have Dq63 : OwnDS 0 (i0_1 + i2_1) (FP.dadd u0_1 u2_1) := own_ds_add (n := 53) Du0_1 Du2_1 (own_bd_nat (C := 16777216) (own_bd_add Bu0_1 Bu2_1 (by decide)) (by decide))
  obtain ⟨d63, hd63⟩ : ∃ v, FP.dadd u0_1 u2_1 = v := ⟨_, rfl⟩
  obtain ⟨j63, hj63⟩ : ∃ i : Int, i = i0_1 + i2_1 := ⟨_, rfl⟩
  have B63 : -16777216 ≤ j63 ∧ j63 ≤ 16777216 := by rw [hj63]; exact own_bd_add Bu0_1 Bu2_1 (by decide)
  have D63 : OwnDS 0 j63 d63 := by rw [hj63, ← hd63]; exact Dq63
  have Dq64 : OwnDS 0 (i1_1 - i3_1) (FP.dsub u1_1 u3_1) := own_ds_sub (n := 53) Du1_1 Du3_1 (own_bd_nat (C := 16777216) (own_bd_sub Bu1_1 Bu3_1 (by decide)) (by decide))
  obtain ⟨d64, hd64⟩ : ∃ v, FP.dsub u1_1 u3_1 = v := ⟨_, rfl⟩
  obtain ⟨j64, hj64⟩ : ∃ i : Int, i = i1_1 - i3_1 := ⟨_, rfl⟩
  have B64 : -16777216 ≤ j64 ∧ j64 ≤ 16777216 := by rw [hj64]; exact own_bd_sub Bu1_1 Bu3_1 (by decide)
  have D64 : OwnDS 0 j64 d64 := by rw [hj64, ← hd64]; exact Dq64
  refine OwnGo.pre (fun t k => XS.dload X0.here hx rfl (hb hby d2_24) rfl (XS.dload X0.here hx rfl (hb hby d2_26) rfl (XS.daddS X0.here hx rfl (hb hby d2_28) rfl (own_nn Dq63) hd63 (XS.dstore X0.here hx rfl (hb hby d2_29) rfl (l' := #[sR o0, sI (1 : Int32), sR o1, sI (1 : Int32), sR o2, sI (1 : Int32), sR o3, sI (1 : Int32), sD uc, uS, sD us, uS, sD u0_1, uS, sD u1_1, uS, sD u2_1, uS, sD u3_1, uS, sD d63, uS, uU, uU, uU, uU, uU, uU, uU, uU, uU, uU]) rfl (XS.dload X0.here hx rfl (hb hby d2_31) rfl (XS.dload X0.here hx rfl (hb hby d2_33) rfl (XS.dsubS X0.here hx rfl (hb hby d2_35) rfl (own_nn Dq64) hd64 (XS.dstore X0.here hx rfl (hb hby d2_36) rfl (l' := #[sR o0, sI (1 : Int32), sR o1, sI (1 : Int32), sR o2, sI (1 : Int32), sR o3, sI (1 : Int32), sD uc, uS, sD us, uS, sD u0_1, uS, sD u1_1, uS, sD u2_1, uS, sD u3_1, uS, sD d63, uS, sD d64, uS, uU, uU, uU, uU, uU, uU, uU, uU]) rfl k)))))))) ?_
  show OwnGo _ _ _ _ (s₁.setTop (mkF m 38 #[sR o0, sI (1 : Int32), sR o1, sI (1 : Int32), sR o2, sI (1 : Int32), sR o3, sI (1 : Int32), sD uc, uS, sD us, uS, sD u0_1, uS, sD u1_1, uS, sD u2_1, uS, sD u3_1, uS, sD d63, uS, sD d64, uS, uU, uU, uU, uU, uU, uU, uU, uU] []))
  have Dq65 : OwnDS 0 (i0_1 - i2_1) (FP.dsub u0_1 u2_1) := own_ds_sub (n := 53) Du0_1 Du2_1 (own_bd_nat (C := 16777216) (own_bd_sub Bu0_1 Bu2_1 (by decide)) (by decide))
  obtain ⟨d65, hd65⟩ : ∃ v, FP.dsub u0_1 u2_1 = v := ⟨_, rfl⟩
  obtain ⟨j65, hj65⟩ : ∃ i : Int, i = i0_1 - i2_1 := ⟨_, rfl⟩
  have B65 : -16777216 ≤ j65 ∧ j65 ≤ 16777216 := by rw [hj65]; exact own_bd_sub Bu0_1 Bu2_1 (by decide)
  have D65 : OwnDS 0 j65 d65 := by rw [hj65, ← hd65]; exact Dq65
  have Dq66 : OwnDS 0 (i1_1 + i3_1) (FP.dadd u1_1 u3_1) := own_ds_add (n := 53) Du1_1 Du3_1 (own_bd_nat (C := 16777216) (own_bd_add Bu1_1 Bu3_1 (by decide)) (by decide))
  obtain ⟨d66, hd66⟩ : ∃ v, FP.dadd u1_1 u3_1 = v := ⟨_, rfl⟩
  obtain ⟨j66, hj66⟩ : ∃ i : Int, i = i1_1 + i3_1 := ⟨_, rfl⟩
  have B66 : -16777216 ≤ j66 ∧ j66 ≤ 16777216 := by rw [hj66]; exact own_bd_add Bu1_1 Bu3_1 (by decide)
  have D66 : OwnDS 0 j66 d66 := by rw [hj66, ← hd66]; exact Dq66
  refine OwnGo.pre (fun t k => XS.dload X0.here hx rfl (hb hby d2_38) rfl (XS.dload X0.here hx rfl (hb hby d2_40) rfl (XS.dsubS X0.here hx rfl (hb hby d2_42) rfl (own_nn Dq65) hd65 (XS.dstore X0.here hx rfl (hb hby d2_43) rfl (l' := #[sR o0, sI (1 : Int32), sR o1, sI (1 : Int32), sR o2, sI (1 : Int32), sR o3, sI (1 : Int32), sD uc, uS, sD us, uS, sD u0_1, uS, sD u1_1, uS, sD u2_1, uS, sD u3_1, uS, sD d63, uS, sD d64, uS, sD d65, uS, uU, uU, uU, uU, uU, uU]) rfl (XS.dload X0.here hx rfl (hb hby d2_45) rfl (XS.dload X0.here hx rfl (hb hby d2_47) rfl (XS.daddS X0.here hx rfl (hb hby d2_49) rfl (own_nn Dq66) hd66 (XS.dstore X0.here hx rfl (hb hby d2_50) rfl (l' := #[sR o0, sI (1 : Int32), sR o1, sI (1 : Int32), sR o2, sI (1 : Int32), sR o3, sI (1 : Int32), sD uc, uS, sD us, uS, sD u0_1, uS, sD u1_1, uS, sD u2_1, uS, sD u3_1, uS, sD d63, uS, sD d64, uS, sD d65, uS, sD d66, uS, uU, uU, uU, uU]) rfl k)))))))) ?_
  show OwnGo _ _ _ _ (s₁.setTop (mkF m 52 #[sR o0, sI (1 : Int32), sR o1, sI (1 : Int32), sR o2, sI (1 : Int32), sR o3, sI (1 : Int32), sD uc, uS, sD us, uS, sD u0_1, uS, sD u1_1, uS, sD u2_1, uS, sD u3_1, uS, sD d63, uS, sD d64, uS, sD d65, uS, sD d66, uS, uU, uU, uU, uU] []))
  obtain ⟨j67, hj67⟩ : ∃ i : Int, i = j65 * ic := ⟨_, rfl⟩
  have B67 : -140737488355328 ≤ j67 ∧ j67 ≤ 140737488355328 := by rw [hj67]; exact own_bd_mul B65 Buc (by decide)
  have Dq67 : OwnDS 0 j67 (FP.dmul d65 uc) := by rw [hj67]; have q := own_ds_mul (n := 53) D65 Duc (own_bd_nat (C := 140737488355328) (own_bd_mul B65 Buc (by decide)) (by decide)); exact q
  obtain ⟨d67, hd67⟩ : ∃ v, FP.dmul d65 uc = v := ⟨_, rfl⟩
  have D67 : OwnDS 0 j67 d67 := by rw [← hd67]; exact Dq67
  obtain ⟨j68, hj68⟩ : ∃ i : Int, i = j66 * is := ⟨_, rfl⟩
  have B68 : -140737488355328 ≤ j68 ∧ j68 ≤ 140737488355328 := by rw [hj68]; exact own_bd_mul B66 Bus (by decide)
  have Dq68 : OwnDS 0 j68 (FP.dmul d66 us) := by rw [hj68]; have q := own_ds_mul (n := 53) D66 Dus (own_bd_nat (C := 140737488355328) (own_bd_mul B66 Bus (by decide)) (by decide)); exact q
  obtain ⟨d68, hd68⟩ : ∃ v, FP.dmul d66 us = v := ⟨_, rfl⟩
  have D68 : OwnDS 0 j68 d68 := by rw [← hd68]; exact Dq68
  have Dq69 : OwnDS 0 (j67 - j68) (FP.dsub d67 d68) := own_ds_sub (n := 53) D67 D68 (own_bd_nat (C := 281474976710656) (own_bd_sub B67 B68 (by decide)) (by decide))
  obtain ⟨d69, hd69⟩ : ∃ v, FP.dsub d67 d68 = v := ⟨_, rfl⟩
  obtain ⟨j69, hj69⟩ : ∃ i : Int, i = j67 - j68 := ⟨_, rfl⟩
  have B69 : -281474976710656 ≤ j69 ∧ j69 ≤ 281474976710656 := by rw [hj69]; exact own_bd_sub B67 B68 (by decide)
  have D69 : OwnDS 0 j69 d69 := by rw [hj69, ← hd69]; exact Dq69
  refine OwnGo.pre (fun t k => XS.dload X0.here hx rfl (hb hby d2_52) rfl (XS.dload X0.here hx rfl (hb hby d2_54) rfl (XS.dmulS X0.here hx rfl (hb hby d2_56) rfl (own_nn Dq67) hd67 (XS.dload X0.here hx rfl (hb hby d2_57) rfl (XS.dload X0.here hx rfl (hb hby d2_59) rfl (XS.dmulS X0.here hx rfl (hb hby d2_61) rfl (own_nn Dq68) hd68 (XS.dsubS X0.here hx rfl (hb hby d2_62) rfl (own_nn Dq69) hd69 (XS.dstore X0.here hx rfl (hb hby d2_63) rfl (l' := #[sR o0, sI (1 : Int32), sR o1, sI (1 : Int32), sR o2, sI (1 : Int32), sR o3, sI (1 : Int32), sD uc, uS, sD us, uS, sD u0_1, uS, sD u1_1, uS, sD u2_1, uS, sD u3_1, uS, sD d63, uS, sD d64, uS, sD d65, uS, sD d66, uS, sD d69, uS, uU, uU]) rfl k)))))))) ?_
  show OwnGo _ _ _ _ (s₁.setTop (mkF m 65 #[sR o0, sI (1 : Int32), sR o1, sI (1 : Int32), sR o2, sI (1 : Int32), sR o3, sI (1 : Int32), sD uc, uS, sD us, uS, sD u0_1, uS, sD u1_1, uS, sD u2_1, uS, sD u3_1, uS, sD d63, uS, sD d64, uS, sD d65, uS, sD d66, uS, sD d69, uS, uU, uU] []))
  obtain ⟨j70, hj70⟩ : ∃ i : Int, i = j65 * is := ⟨_, rfl⟩
  have B70 : -140737488355328 ≤ j70 ∧ j70 ≤ 140737488355328 := by rw [hj70]; exact own_bd_mul B65 Bus (by decide)
  have Dq70 : OwnDS 0 j70 (FP.dmul d65 us) := by rw [hj70]; have q := own_ds_mul (n := 53) D65 Dus (own_bd_nat (C := 140737488355328) (own_bd_mul B65 Bus (by decide)) (by decide)); exact q
  obtain ⟨d70, hd70⟩ : ∃ v, FP.dmul d65 us = v := ⟨_, rfl⟩
  have D70 : OwnDS 0 j70 d70 := by rw [← hd70]; exact Dq70
  obtain ⟨j71, hj71⟩ : ∃ i : Int, i = j66 * ic := ⟨_, rfl⟩
  have B71 : -140737488355328 ≤ j71 ∧ j71 ≤ 140737488355328 := by rw [hj71]; exact own_bd_mul B66 Buc (by decide)
  have Dq71 : OwnDS 0 j71 (FP.dmul d66 uc) := by rw [hj71]; have q := own_ds_mul (n := 53) D66 Duc (own_bd_nat (C := 140737488355328) (own_bd_mul B66 Buc (by decide)) (by decide)); exact q
  obtain ⟨d71, hd71⟩ : ∃ v, FP.dmul d66 uc = v := ⟨_, rfl⟩
  have D71 : OwnDS 0 j71 d71 := by rw [← hd71]; exact Dq71
  have Dq72 : OwnDS 0 (j70 + j71) (FP.dadd d70 d71) := own_ds_add (n := 53) D70 D71 (own_bd_nat (C := 281474976710656) (own_bd_add B70 B71 (by decide)) (by decide))
  obtain ⟨d72, hd72⟩ : ∃ v, FP.dadd d70 d71 = v := ⟨_, rfl⟩
  obtain ⟨j72, hj72⟩ : ∃ i : Int, i = j70 + j71 := ⟨_, rfl⟩
  have B72 : -281474976710656 ≤ j72 ∧ j72 ≤ 281474976710656 := by rw [hj72]; exact own_bd_add B70 B71 (by decide)
  have D72 : OwnDS 0 j72 d72 := by rw [hj72, ← hd72]; exact Dq72
  refine OwnGo.pre (fun t k => XS.dload X0.here hx rfl (hb hby d2_65) rfl (XS.dload X0.here hx rfl (hb hby d2_67) rfl (XS.dmulS X0.here hx rfl (hb hby d2_69) rfl (own_nn Dq70) hd70 (XS.dload X0.here hx rfl (hb hby d2_70) rfl (XS.dload X0.here hx rfl (hb hby d2_72) rfl (XS.dmulS X0.here hx rfl (hb hby d2_74) rfl (own_nn Dq71) hd71 (XS.daddS X0.here hx rfl (hb hby d2_75) rfl (own_nn Dq72) hd72 (XS.dstore X0.here hx rfl (hb hby d2_76) rfl (l' := #[sR o0, sI (1 : Int32), sR o1, sI (1 : Int32), sR o2, sI (1 : Int32), sR o3, sI (1 : Int32), sD uc, uS, sD us, uS, sD u0_1, uS, sD u1_1, uS, sD u2_1, uS, sD u3_1, uS, sD d63, uS, sD d64, uS, sD d65, uS, sD d66, uS, sD d69, uS, sD d72, uS]) rfl k)))))))) ?_
  show OwnGo _ _ _ _ (s₁.setTop (mkF m 78 #[sR o0, sI (1 : Int32), sR o1, sI (1 : Int32), sR o2, sI (1 : Int32), sR o3, sI (1 : Int32), sD uc, uS, sD us, uS, sD u0_1, uS, sD u1_1, uS, sD u2_1, uS, sD u3_1, uS, sD d63, uS, sD d64, uS, sD d65, uS, sD d66, uS, sD d69, uS, sD d72, uS] []))
  have Dq73 : OwnDS 0 (j63 - j72) (FP.dsub d63 d72) := own_ds_sub (n := 53) D63 D72 (own_bd_nat (C := 281474993487872) (own_bd_sub B63 B72 (by decide)) (by decide))
  obtain ⟨d73, hd73⟩ : ∃ v, FP.dsub d63 d72 = v := ⟨_, rfl⟩
  obtain ⟨j73, hj73⟩ : ∃ i : Int, i = j63 - j72 := ⟨_, rfl⟩
  have B73 : -281474993487872 ≤ j73 ∧ j73 ≤ 281474993487872 := by rw [hj73]; exact own_bd_sub B63 B72 (by decide)
  have D73 : OwnDS 0 j73 d73 := by rw [hj73, ← hd73]; exact Dq73
  refine OwnGo.pre (fun t k => XS.aloadN X0.here hx rfl (hb hby d2_78) rfl rfl (XS.iloadN X0.here hx rfl (hb hby d2_79) rfl (XS.dload X0.here hx rfl (hb hby d2_80) rfl (XS.dload X0.here hx rfl (hb hby d2_82) rfl (XS.dsubS X0.here hx rfl (hb hby d2_84) rfl (own_nn Dq73) hd73 k))))) ?_
  show OwnGo _ _ _ _ (s₁.setTop (mkF m 85 #[sR o0, sI (1 : Int32), sR o1, sI (1 : Int32), sR o2, sI (1 : Int32), sR o3, sI (1 : Int32), sD uc, uS, sD us, uS, sD u0_1, uS, sD u1_1, uS, sD u2_1, uS, sD u3_1, uS, sD d63, uS, sD d64, uS, sD d65, uS, sD d66, uS, sD d69, uS, sD d72, uS] [(.double d73), (.int (1 : Int32)), (.ref o0)]))
  obtain ⟨T74, h74, X74, e74, W74, A74, st74⟩ := own_daS X0 hx hZ e0 Ao0 (by decide) (i := 1) (by decide) (by show 1 < 2; decide) (g := (mkF m 85 #[sR o0, sI (1 : Int32), sR o1, sI (1 : Int32), sR o2, sI (1 : Int32), sR o3, sI (1 : Int32), sD uc, uS, sD us, uS, sD u0_1, uS, sD u1_1, uS, sD u2_1, uS, sD u3_1, uS, sD d63, uS, sD d64, uS, sD d65, uS, sD d66, uS, sD d69, uS, sD d72, uS] [(.double d73), (.int (1 : Int32)), (.ref o0)])) rfl rfl (hb hby d2_85)
  have A74n : OwnDA Z h74 o0 [u0_0, d73] := A74
  have A74_o1 := Ao1.ot W74 neo0o1.symm
  have A74_o2 := Ao2.ot W74 neo0o2.symm
  have A74_o3 := Ao3.ot W74 neo0o3.symm
  have N74 := Fr.snoc X74 N0 go0
  have P74 := (Keep.refl h0 [o0, o1, o2, o3]).wr W74 (Or.inl (List.mem_of_getElem? (i := 0) rfl))
  have Z74 : n0 ≤ h74.size := by rw [W74.size]; exact Z0
  refine OwnGo.pre (fun t k => st74 t k) ?_
  show OwnGo _ _ _ _ (T74.setTop (mkF m 86 #[sR o0, sI (1 : Int32), sR o1, sI (1 : Int32), sR o2, sI (1 : Int32), sR o3, sI (1 : Int32), sD uc, uS, sD us, uS, sD u0_1, uS, sD u1_1, uS, sD u2_1, uS, sD u3_1, uS, sD d63, uS, sD d64, uS, sD d65, uS, sD d66, uS, sD d69, uS, sD d72, uS] []))
  have Dq75 : OwnDS 0 (j64 + j69) (FP.dadd d64 d69) := own_ds_add (n := 53) D64 D69 (own_bd_nat (C := 281474993487872) (own_bd_add B64 B69 (by decide)) (by decide))
  obtain ⟨d75, hd75⟩ : ∃ v, FP.dadd d64 d69 = v := ⟨_, rfl⟩
  obtain ⟨j75, hj75⟩ : ∃ i : Int, i = j64 + j69 := ⟨_, rfl⟩
  have B75 : -281474993487872 ≤ j75 ∧ j75 ≤ 281474993487872 := by rw [hj75]; exact own_bd_add B64 B69 (by decide)
  have D75 : OwnDS 0 j75 d75 := by rw [hj75, ← hd75]; exact Dq75
  refine OwnGo.pre (fun t k => XS.aloadN X74.here hx rfl (hb hby d2_86) rfl rfl (XS.iloadN X74.here hx rfl (hb hby d2_87) rfl (XS.dload X74.here hx rfl (hb hby d2_88) rfl (XS.dload X74.here hx rfl (hb hby d2_90) rfl (XS.daddS X74.here hx rfl (hb hby d2_92) rfl (own_nn Dq75) hd75 k))))) ?_
  show OwnGo _ _ _ _ (T74.setTop (mkF m 93 #[sR o0, sI (1 : Int32), sR o1, sI (1 : Int32), sR o2, sI (1 : Int32), sR o3, sI (1 : Int32), sD uc, uS, sD us, uS, sD u0_1, uS, sD u1_1, uS, sD u2_1, uS, sD u3_1, uS, sD d63, uS, sD d64, uS, sD d65, uS, sD d66, uS, sD d69, uS, sD d72, uS] [(.double d75), (.int (1 : Int32)), (.ref o1)]))
  obtain ⟨T76, h76, X76, e76, W76, A76, st76⟩ := own_daS X74 hx hZ e74 A74_o1 (by decide) (i := 1) (by decide) (by show 1 < 2; decide) (g := (mkF m 93 #[sR o0, sI (1 : Int32), sR o1, sI (1 : Int32), sR o2, sI (1 : Int32), sR o3, sI (1 : Int32), sD uc, uS, sD us, uS, sD u0_1, uS, sD u1_1, uS, sD u2_1, uS, sD u3_1, uS, sD d63, uS, sD d64, uS, sD d65, uS, sD d66, uS, sD d69, uS, sD d72, uS] [(.double d75), (.int (1 : Int32)), (.ref o1)])) rfl rfl (hb hby d2_93)
  have A76n : OwnDA Z h76 o1 [u1_0, d75] := A76
  have A76_o0 := A74n.ot W76 neo0o1
  have A76_o2 := A74_o2.ot W76 neo1o2.symm
  have A76_o3 := A74_o3.ot W76 neo1o3.symm
  have N76 := Fr.snoc X76 N74 go1
  have P76 := P74.wr W76 (Or.inl (List.mem_of_getElem? (i := 1) rfl))
  have Z76 : n0 ≤ h76.size := by rw [W76.size]; exact Z74
  refine OwnGo.pre (fun t k => st76 t k) ?_
  show OwnGo _ _ _ _ (T76.setTop (mkF m 94 #[sR o0, sI (1 : Int32), sR o1, sI (1 : Int32), sR o2, sI (1 : Int32), sR o3, sI (1 : Int32), sD uc, uS, sD us, uS, sD u0_1, uS, sD u1_1, uS, sD u2_1, uS, sD u3_1, uS, sD d63, uS, sD d64, uS, sD d65, uS, sD d66, uS, sD d69, uS, sD d72, uS] []))
  have Dq77 : OwnDS 0 (j63 + j72) (FP.dadd d63 d72) := own_ds_add (n := 53) D63 D72 (own_bd_nat (C := 281474993487872) (own_bd_add B63 B72 (by decide)) (by decide))
  obtain ⟨d77, hd77⟩ : ∃ v, FP.dadd d63 d72 = v := ⟨_, rfl⟩
  obtain ⟨j77, hj77⟩ : ∃ i : Int, i = j63 + j72 := ⟨_, rfl⟩
  have B77 : -281474993487872 ≤ j77 ∧ j77 ≤ 281474993487872 := by rw [hj77]; exact own_bd_add B63 B72 (by decide)
  have D77 : OwnDS 0 j77 d77 := by rw [hj77, ← hd77]; exact Dq77
  refine OwnGo.pre (fun t k => XS.aload X76.here hx rfl (hb hby d2_94) rfl rfl (XS.iload X76.here hx rfl (hb hby d2_96) rfl (XS.dload X76.here hx rfl (hb hby d2_98) rfl (XS.dload X76.here hx rfl (hb hby d2_100) rfl (XS.daddS X76.here hx rfl (hb hby d2_102) rfl (own_nn Dq77) hd77 k))))) ?_
  show OwnGo _ _ _ _ (T76.setTop (mkF m 103 #[sR o0, sI (1 : Int32), sR o1, sI (1 : Int32), sR o2, sI (1 : Int32), sR o3, sI (1 : Int32), sD uc, uS, sD us, uS, sD u0_1, uS, sD u1_1, uS, sD u2_1, uS, sD u3_1, uS, sD d63, uS, sD d64, uS, sD d65, uS, sD d66, uS, sD d69, uS, sD d72, uS] [(.double d77), (.int (1 : Int32)), (.ref o2)]))
  obtain ⟨T78, h78, X78, e78, W78, A78, st78⟩ := own_daS X76 hx hZ e76 A76_o2 (by decide) (i := 1) (by decide) (by show 1 < 2; decide) (g := (mkF m 103 #[sR o0, sI (1 : Int32), sR o1, sI (1 : Int32), sR o2, sI (1 : Int32), sR o3, sI (1 : Int32), sD uc, uS, sD us, uS, sD u0_1, uS, sD u1_1, uS, sD u2_1, uS, sD u3_1, uS, sD d63, uS, sD d64, uS, sD d65, uS, sD d66, uS, sD d69, uS, sD d72, uS] [(.double d77), (.int (1 : Int32)), (.ref o2)])) rfl rfl (hb hby d2_103)
  have A78n : OwnDA Z h78 o2 [u2_0, d77] := A78
  have A78_o0 := A76_o0.ot W78 neo0o2
  have A78_o1 := A76n.ot W78 neo1o2
  have A78_o3 := A76_o3.ot W78 neo2o3.symm
  have N78 := Fr.snoc X78 N76 go2
  have P78 := P76.wr W78 (Or.inl (List.mem_of_getElem? (i := 2) rfl))
  have Z78 : n0 ≤ h78.size := by rw [W78.size]; exact Z76
  refine OwnGo.pre (fun t k => st78 t k) ?_
  show OwnGo _ _ _ _ (T78.setTop (mkF m 104 #[sR o0, sI (1 : Int32), sR o1, sI (1 : Int32), sR o2, sI (1 : Int32), sR o3, sI (1 : Int32), sD uc, uS, sD us, uS, sD u0_1, uS, sD u1_1, uS, sD u2_1, uS, sD u3_1, uS, sD d63, uS, sD d64, uS, sD d65, uS, sD d66, uS, sD d69, uS, sD d72, uS] []))
  have Dq79 : OwnDS 0 (j69 - j64) (FP.dsub d69 d64) := own_ds_sub (n := 53) D69 D64 (own_bd_nat (C := 281474993487872) (own_bd_sub B69 B64 (by decide)) (by decide))
  obtain ⟨d79, hd79⟩ : ∃ v, FP.dsub d69 d64 = v := ⟨_, rfl⟩
  obtain ⟨j79, hj79⟩ : ∃ i : Int, i = j69 - j64 := ⟨_, rfl⟩
  have B79 : -281474993487872 ≤ j79 ∧ j79 ≤ 281474993487872 := by rw [hj79]; exact own_bd_sub B69 B64 (by decide)
  have D79 : OwnDS 0 j79 d79 := by rw [hj79, ← hd79]; exact Dq79
  refine OwnGo.pre (fun t k => XS.aload X78.here hx rfl (hb hby d2_104) rfl rfl (XS.iload X78.here hx rfl (hb hby d2_106) rfl (XS.dload X78.here hx rfl (hb hby d2_108) rfl (XS.dload X78.here hx rfl (hb hby d2_110) rfl (XS.dsubS X78.here hx rfl (hb hby d2_112) rfl (own_nn Dq79) hd79 k))))) ?_
  show OwnGo _ _ _ _ (T78.setTop (mkF m 113 #[sR o0, sI (1 : Int32), sR o1, sI (1 : Int32), sR o2, sI (1 : Int32), sR o3, sI (1 : Int32), sD uc, uS, sD us, uS, sD u0_1, uS, sD u1_1, uS, sD u2_1, uS, sD u3_1, uS, sD d63, uS, sD d64, uS, sD d65, uS, sD d66, uS, sD d69, uS, sD d72, uS] [(.double d79), (.int (1 : Int32)), (.ref o3)]))
  obtain ⟨T80, h80, X80, e80, W80, A80, st80⟩ := own_daS X78 hx hZ e78 A78_o3 (by decide) (i := 1) (by decide) (by show 1 < 2; decide) (g := (mkF m 113 #[sR o0, sI (1 : Int32), sR o1, sI (1 : Int32), sR o2, sI (1 : Int32), sR o3, sI (1 : Int32), sD uc, uS, sD us, uS, sD u0_1, uS, sD u1_1, uS, sD u2_1, uS, sD u3_1, uS, sD d63, uS, sD d64, uS, sD d65, uS, sD d66, uS, sD d69, uS, sD d72, uS] [(.double d79), (.int (1 : Int32)), (.ref o3)])) rfl rfl (hb hby d2_113)
  have A80n : OwnDA Z h80 o3 [u3_0, d79] := A80
  have A80_o0 := A78_o0.ot W80 neo0o3
  have A80_o1 := A78_o1.ot W80 neo1o3
  have A80_o2 := A78n.ot W80 neo2o3
  have N80 := Fr.snoc X80 N78 go3
  have P80 := P78.wr W80 (Or.inl (List.mem_of_getElem? (i := 3) rfl))
  have Z80 : n0 ≤ h80.size := by rw [W80.size]; exact Z78
  refine OwnGo.pre (fun t k => st80 t k) ?_
  show OwnGo _ _ _ _ (T80.setTop (mkF m 114 #[sR o0, sI (1 : Int32), sR o1, sI (1 : Int32), sR o2, sI (1 : Int32), sR o3, sI (1 : Int32), sD uc, uS, sD us, uS, sD u0_1, uS, sD u1_1, uS, sD u2_1, uS, sD u3_1, uS, sD d63, uS, sD d64, uS, sD d65, uS, sD d66, uS, sD d69, uS, sD d72, uS] []))
  rw [← e80] at A80_o0 A80_o1 A80_o2 A80n Z80 P80
  exact own_ret0 X80 hx hk hrt (hb hby d2_114) ⟨_, _, _, _, rfl, ((by simp only [hj73, hj63, hj72, hj70, hj65, hj71, hj66] : j73 = ((i0_1 + i2_1) - (((i0_1 - i2_1) * is) + ((i1_1 + i3_1) * ic)))) ▸ D73), ((by simp only [hj73, hj63, hj72, hj70, hj65, hj71, hj66] : j73 = ((i0_1 + i2_1) - (((i0_1 - i2_1) * is) + ((i1_1 + i3_1) * ic)))) ▸ B73), ((by simp only [hj75, hj64, hj69, hj67, hj65, hj68, hj66] : j75 = ((i1_1 - i3_1) + (((i0_1 - i2_1) * ic) - ((i1_1 + i3_1) * is)))) ▸ D75), ((by simp only [hj75, hj64, hj69, hj67, hj65, hj68, hj66] : j75 = ((i1_1 - i3_1) + (((i0_1 - i2_1) * ic) - ((i1_1 + i3_1) * is)))) ▸ B75), ((by simp only [hj77, hj63, hj72, hj70, hj65, hj71, hj66] : j77 = ((i0_1 + i2_1) + (((i0_1 - i2_1) * is) + ((i1_1 + i3_1) * ic)))) ▸ D77), ((by simp only [hj77, hj63, hj72, hj70, hj65, hj71, hj66] : j77 = ((i0_1 + i2_1) + (((i0_1 - i2_1) * is) + ((i1_1 + i3_1) * ic)))) ▸ B77), ((by simp only [hj79, hj69, hj67, hj65, hj68, hj66, hj64] : j79 = ((((i0_1 - i2_1) * ic) - ((i1_1 + i3_1) * is)) - (i1_1 - i3_1))) ▸ D79), ((by simp only [hj79, hj69, hj67, hj65, hj68, hj66, hj64] : j79 = ((((i0_1 - i2_1) * ic) - ((i1_1 + i3_1) * is)) - (i1_1 - i3_1))) ▸ B79), A80_o0, A80_o1, A80_o2, A80n, P80, N80, Z80⟩ (by decide) (by decide)
theorem pn_rmK3 : plainName "com/example/isochron/isochron/dsp/Fourier" = true := by first | (simp [plainName, overriddenIn]; done) | decide +kernel
theorem pd_rmK3 : parseMethodDescriptor "([DI[DI[DI[DIDD)V" = some ⟨[(.array .double), .int, (.array .double), .int, (.array .double), .int, (.array .double), .int, .double, .double], none⟩ := by decide +kernel
theorem ef_rmK3 (m : MethodId) (o0 : Addr) (u0_0 u0_1 u0_2 u0_3 u0_4 u0_5 u0_6 u0_7 uc us : UInt64) (i0_6 i0_7 i0_4 i0_5 ic is : Int) : entryFrame m #[(.ref o0), (.int (6 : Int32)), (.ref o0), (.int (7 : Int32)), (.ref o0), (.int (4 : Int32)), (.ref o0), (.int (5 : Int32)), (.double uc), (.double us)] 32 = (mkF m 0 #[sR o0, sI (6 : Int32), sR o0, sI (7 : Int32), sR o0, sI (4 : Int32), sR o0, sI (5 : Int32), sD uc, uS, sD us, uS, uU, uU, uU, uU, uU, uU, uU, uU, uU, uU, uU, uU, uU, uU, uU, uU, uU, uU, uU, uU] []) := by first | (simp [entryFrame, mkF, argsToLocals, Value.category, maxLocals]; done) | rfl
def Q_rmK3 (Z : State) (o0 : Addr) (u0_0 u0_1 u0_2 u0_3 u0_4 u0_5 u0_6 u0_7 uc us : UInt64) (i0_6 i0_7 i0_4 i0_5 ic is : Int) (h0 : Heap) (n0 : Nat) (v : Option Value) (h : Heap) (L : List Loc) : Prop := ∃ ro0_4 ro0_5 ro0_6 ro0_7 : UInt64, v = none ∧ OwnDS 0 ((i0_6 + i0_4) + (((i0_6 - i0_4) * is) + ((i0_7 + i0_5) * ic))) ro0_4 ∧ (-281474993487872 ≤ ((i0_6 + i0_4) + (((i0_6 - i0_4) * is) + ((i0_7 + i0_5) * ic))) ∧ ((i0_6 + i0_4) + (((i0_6 - i0_4) * is) + ((i0_7 + i0_5) * ic))) ≤ 281474993487872) ∧ OwnDS 0 ((((i0_6 - i0_4) * ic) - ((i0_7 + i0_5) * is)) - (i0_7 - i0_5)) ro0_5 ∧ (-281474993487872 ≤ ((((i0_6 - i0_4) * ic) - ((i0_7 + i0_5) * is)) - (i0_7 - i0_5)) ∧ ((((i0_6 - i0_4) * ic) - ((i0_7 + i0_5) * is)) - (i0_7 - i0_5)) ≤ 281474993487872) ∧ OwnDS 0 ((i0_6 + i0_4) - (((i0_6 - i0_4) * is) + ((i0_7 + i0_5) * ic))) ro0_6 ∧ (-281474993487872 ≤ ((i0_6 + i0_4) - (((i0_6 - i0_4) * is) + ((i0_7 + i0_5) * ic))) ∧ ((i0_6 + i0_4) - (((i0_6 - i0_4) * is) + ((i0_7 + i0_5) * ic))) ≤ 281474993487872) ∧ OwnDS 0 ((i0_7 - i0_5) + (((i0_6 - i0_4) * ic) - ((i0_7 + i0_5) * is))) ro0_7 ∧ (-281474993487872 ≤ ((i0_7 - i0_5) + (((i0_6 - i0_4) * ic) - ((i0_7 + i0_5) * is))) ∧ ((i0_7 - i0_5) + (((i0_6 - i0_4) * ic) - ((i0_7 + i0_5) * is))) ≤ 281474993487872) ∧ OwnDA Z h o0 [u0_0, u0_1, u0_2, u0_3, ro0_4, ro0_5, ro0_6, ro0_7] ∧ Keep h0 h [o0] ∧ Fr n0 L ∧ n0 ≤ h.size
set_option maxRecDepth 65536 in
set_option maxHeartbeats 40000000 in
theorem rmK3 (l : Launch) (Z : State) (a0 : Array Value) (hw : ∀ d ∈ tables_1, d.before a0 Z = true) (ws : List Jvm.Cond) (o0 : Addr) (u0_0 u0_1 u0_2 u0_3 u0_4 u0_5 u0_6 u0_7 uc us : UInt64) (i0_6 i0_7 i0_4 i0_5 ic is : Int) (h0 : Heap) (n0 : Nat) (Z0 : n0 ≤ h0.size) (Ao0 : OwnDA Z h0 o0 [u0_0, u0_1, u0_2, u0_3, u0_4, u0_5, u0_6, u0_7])  (go0 : n0 ≤ o0) (Du0_6 : OwnDS 0 i0_6 u0_6) (Bu0_6 : -8388608 ≤ i0_6 ∧ i0_6 ≤ 8388608) (Du0_7 : OwnDS 0 i0_7 u0_7) (Bu0_7 : -8388608 ≤ i0_7 ∧ i0_7 ≤ 8388608) (Du0_4 : OwnDS 0 i0_4 u0_4) (Bu0_4 : -8388608 ≤ i0_4 ∧ i0_4 ≤ 8388608) (Du0_5 : OwnDS 0 i0_5 u0_5) (Bu0_5 : -8388608 ≤ i0_5 ∧ i0_5 ≤ 8388608) (Duc : OwnDS 0 ic uc) (Buc : -8388608 ≤ ic ∧ ic ≤ 8388608) (Dus : OwnDS 0 is us) (Bus : -8388608 ≤ is ∧ is ≤ 8388608) :
    MetFree l (⟨"com/example/isochron/isochron/dsp/Fourier", "join", "([DI[DI[DI[DIDD)V"⟩ : MethodName) (head1 (Jvm.Cond.code (⟨"com/example/isochron/isochron/dsp/Fourier", "join", "([DI[DI[DI[DIDD)V"⟩ : MethodName) prog_161_method_21_code 32 none :: ws) ({ frames := 0, cells := 0, slots := 0, locals := 0 } : Room)) (fun a U => a = #[(.ref o0), (.int (6 : Int32)), (.ref o0), (.int (7 : Int32)), (.ref o0), (.int (4 : Int32)), (.ref o0), (.int (5 : Int32)), (.double uc), (.double us)] ∧ Z.Warmed39 U.vm ∧ U.heap = h0) (fun _ _ _ _ _ => True) (fun _ U oO U' => ∃ v L, oO = .returned v ∧ Q_rmK3 Z o0 u0_0 u0_1 u0_2 u0_3 u0_4 u0_5 u0_6 u0_7 uc us i0_6 i0_7 i0_4 i0_5 ic is h0 n0 v U'.heap L ∧ FrameEnd U oO U' L ({ frames := 0, cells := 0, slots := 0, locals := 0 } : Room).cells ({ frames := 0, cells := 0, slots := 0, locals := 0 } : Room).slots) := by
  refine MetFree.of_bodySF (plainFor_of_name pn_rmK3) hisR ?_
  intro p e s m args below meth c s₁ Bd hml0 hP hK
  obtain ⟨rfl, hZ, hh⟩ := hP
  have hx := Bd.exec
  have hby := Bd.bytes
  have hml : c.maxLocals = 32 := hml0
  have hown : s.vm.findClass "com/example/isochron/isochron/dsp/Fourier" = some m.cls := findClass_of_methodNamed Bd.named
  have hnm := (name_of_methodNamed Bd.named Bd.method).1
  have hk := Bd.notSynchronized
  have hrt := Bd.returns
  have X0 : Stand p l e ({ frames := 0, cells := 0, slots := 0, locals := 0 } : Room) s m #[(.ref o0), (.int (6 : Int32)), (.ref o0), (.int (7 : Int32)), (.ref o0), (.int (4 : Int32)), (.ref o0), (.int (5 : Int32)), (.double uc), (.double us)] below meth c s₁ [] 0 0 := Stand.of_body Bd
  have e0 : s₁.heap = h0 := by rw [← hh, Bd.state]; rfl
  have N0 := Fr.nil n0
  show OwnGo p.tables e below (OwnEnd s (Q_rmK3 Z o0 u0_0 u0_1 u0_2 u0_3 u0_4 u0_5 u0_6 u0_7 uc us i0_6 i0_7 i0_4 i0_5 ic is h0 n0) ({ frames := 0, cells := 0, slots := 0, locals := 0 } : Room).cells ({ frames := 0, cells := 0, slots := 0, locals := 0 } : Room).slots) _
  refine OwnGo.pre (fun t k => castTop (ef_rmK3 m o0 u0_0 u0_1 u0_2 u0_3 u0_4 u0_5 u0_6 u0_7 uc us i0_6 i0_7 i0_4 i0_5 ic is) k) ?_
  show OwnGo _ _ _ _ (s₁.setTop (mkF m 0 #[sR o0, sI (6 : Int32), sR o0, sI (7 : Int32), sR o0, sI (4 : Int32), sR o0, sI (5 : Int32), sD uc, uS, sD us, uS, uU, uU, uU, uU, uU, uU, uU, uU, uU, uU, uU, uU, uU, uU, uU, uU, uU, uU, uU, uU] []))
  refine OwnGo.pre (fun t k => XS.aloadN X0.here hx rfl (hb hby d2_0) rfl rfl (XS.iloadN X0.here hx rfl (hb hby d2_1) rfl (own_daL X0 hx hZ e0 Ao0 (j := (6 : Int32)) (by decide) (i := 6) (by decide) (x := u0_6) rfl (g := (mkF m 2 #[sR o0, sI (6 : Int32), sR o0, sI (7 : Int32), sR o0, sI (4 : Int32), sR o0, sI (5 : Int32), sD uc, uS, sD us, uS, uU, uU, uU, uU, uU, uU, uU, uU, uU, uU, uU, uU, uU, uU, uU, uU, uU, uU, uU, uU] [(.int (6 : Int32)), (.ref o0)])) rfl (rest := []) rfl (hb hby d2_2) (XS.dstore X0.here hx rfl (hb hby d2_3) rfl (l' := #[sR o0, sI (6 : Int32), sR o0, sI (7 : Int32), sR o0, sI (4 : Int32), sR o0, sI (5 : Int32), sD uc, uS, sD us, uS, sD u0_6, uS, uU, uU, uU, uU, uU, uU, uU, uU, uU, uU, uU, uU, uU, uU, uU, uU, uU, uU]) rfl (XS.aloadN X0.here hx rfl (hb hby d2_5) rfl rfl (XS.iloadN X0.here hx rfl (hb hby d2_6) rfl (own_daL X0 hx hZ e0 Ao0 (j := (7 : Int32)) (by decide) (i := 7) (by decide) (x := u0_7) rfl (g := (mkF m 7 #[sR o0, sI (6 : Int32), sR o0, sI (7 : Int32), sR o0, sI (4 : Int32), sR o0, sI (5 : Int32), sD uc, uS, sD us, uS, sD u0_6, uS, uU, uU, uU, uU, uU, uU, uU, uU, uU, uU, uU, uU, uU, uU, uU, uU, uU, uU] [(.int (7 : Int32)), (.ref o0)])) rfl (rest := []) rfl (hb hby d2_7) (XS.dstore X0.here hx rfl (hb hby d2_8) rfl (l' := #[sR o0, sI (6 : Int32), sR o0, sI (7 : Int32), sR o0, sI (4 : Int32), sR o0, sI (5 : Int32), sD uc, uS, sD us, uS, sD u0_6, uS, sD u0_7, uS, uU, uU, uU, uU, uU, uU, uU, uU, uU, uU, uU, uU, uU, uU, uU, uU]) rfl k)))))))) ?_
  show OwnGo _ _ _ _ (s₁.setTop (mkF m 10 #[sR o0, sI (6 : Int32), sR o0, sI (7 : Int32), sR o0, sI (4 : Int32), sR o0, sI (5 : Int32), sD uc, uS, sD us, uS, sD u0_6, uS, sD u0_7, uS, uU, uU, uU, uU, uU, uU, uU, uU, uU, uU, uU, uU, uU, uU, uU, uU] []))
  refine OwnGo.pre (fun t k => XS.aload X0.here hx rfl (hb hby d2_10) rfl rfl (XS.iload X0.here hx rfl (hb hby d2_12) rfl (own_daL X0 hx hZ e0 Ao0 (j := (4 : Int32)) (by decide) (i := 4) (by decide) (x := u0_4) rfl (g := (mkF m 14 #[sR o0, sI (6 : Int32), sR o0, sI (7 : Int32), sR o0, sI (4 : Int32), sR o0, sI (5 : Int32), sD uc, uS, sD us, uS, sD u0_6, uS, sD u0_7, uS, uU, uU, uU, uU, uU, uU, uU, uU, uU, uU, uU, uU, uU, uU, uU, uU] [(.int (4 : Int32)), (.ref o0)])) rfl (rest := []) rfl (hb hby d2_14) (XS.dstore X0.here hx rfl (hb hby d2_15) rfl (l' := #[sR o0, sI (6 : Int32), sR o0, sI (7 : Int32), sR o0, sI (4 : Int32), sR o0, sI (5 : Int32), sD uc, uS, sD us, uS, sD u0_6, uS, sD u0_7, uS, sD u0_4, uS, uU, uU, uU, uU, uU, uU, uU, uU, uU, uU, uU, uU, uU, uU]) rfl (XS.aload X0.here hx rfl (hb hby d2_17) rfl rfl (XS.iload X0.here hx rfl (hb hby d2_19) rfl (own_daL X0 hx hZ e0 Ao0 (j := (5 : Int32)) (by decide) (i := 5) (by decide) (x := u0_5) rfl (g := (mkF m 21 #[sR o0, sI (6 : Int32), sR o0, sI (7 : Int32), sR o0, sI (4 : Int32), sR o0, sI (5 : Int32), sD uc, uS, sD us, uS, sD u0_6, uS, sD u0_7, uS, sD u0_4, uS, uU, uU, uU, uU, uU, uU, uU, uU, uU, uU, uU, uU, uU, uU] [(.int (5 : Int32)), (.ref o0)])) rfl (rest := []) rfl (hb hby d2_21) (XS.dstore X0.here hx rfl (hb hby d2_22) rfl (l' := #[sR o0, sI (6 : Int32), sR o0, sI (7 : Int32), sR o0, sI (4 : Int32), sR o0, sI (5 : Int32), sD uc, uS, sD us, uS, sD u0_6, uS, sD u0_7, uS, sD u0_4, uS, sD u0_5, uS, uU, uU, uU, uU, uU, uU, uU, uU, uU, uU, uU, uU]) rfl k)))))))) ?_
  show OwnGo _ _ _ _ (s₁.setTop (mkF m 24 #[sR o0, sI (6 : Int32), sR o0, sI (7 : Int32), sR o0, sI (4 : Int32), sR o0, sI (5 : Int32), sD uc, uS, sD us, uS, sD u0_6, uS, sD u0_7, uS, sD u0_4, uS, sD u0_5, uS, uU, uU, uU, uU, uU, uU, uU, uU, uU, uU, uU, uU] []))
  have Dq81 : OwnDS 0 (i0_6 + i0_4) (FP.dadd u0_6 u0_4) := own_ds_add (n := 53) Du0_6 Du0_4 (own_bd_nat (C := 16777216) (own_bd_add Bu0_6 Bu0_4 (by decide)) (by decide))
  obtain ⟨d81, hd81⟩ : ∃ v, FP.dadd u0_6 u0_4 = v := ⟨_, rfl⟩
  obtain ⟨j81, hj81⟩ : ∃ i : Int, i = i0_6 + i0_4 := ⟨_, rfl⟩
  have B81 : -16777216 ≤ j81 ∧ j81 ≤ 16777216 := by rw [hj81]; exact own_bd_add Bu0_6 Bu0_4 (by decide)
  have D81 : OwnDS 0 j81 d81 := by rw [hj81, ← hd81]; exact Dq81
  have Dq82 : OwnDS 0 (i0_7 - i0_5) (FP.dsub u0_7 u0_5) := own_ds_sub (n := 53) Du0_7 Du0_5 (own_bd_nat (C := 16777216) (own_bd_sub Bu0_7 Bu0_5 (by decide)) (by decide))
  obtain ⟨d82, hd82⟩ : ∃ v, FP.dsub u0_7 u0_5 = v := ⟨_, rfl⟩
  obtain ⟨j82, hj82⟩ : ∃ i : Int, i = i0_7 - i0_5 := ⟨_, rfl⟩
  have B82 : -16777216 ≤ j82 ∧ j82 ≤ 16777216 := by rw [hj82]; exact own_bd_sub Bu0_7 Bu0_5 (by decide)
  have D82 : OwnDS 0 j82 d82 := by rw [hj82, ← hd82]; exact Dq82
  refine OwnGo.pre (fun t k => XS.dload X0.here hx rfl (hb hby d2_24) rfl (XS.dload X0.here hx rfl (hb hby d2_26) rfl (XS.daddS X0.here hx rfl (hb hby d2_28) rfl (own_nn Dq81) hd81 (XS.dstore X0.here hx rfl (hb hby d2_29) rfl (l' := #[sR o0, sI (6 : Int32), sR o0, sI (7 : Int32), sR o0, sI (4 : Int32), sR o0, sI (5 : Int32), sD uc, uS, sD us, uS, sD u0_6, uS, sD u0_7, uS, sD u0_4, uS, sD u0_5, uS, sD d81, uS, uU, uU, uU, uU, uU, uU, uU, uU, uU, uU]) rfl (XS.dload X0.here hx rfl (hb hby d2_31) rfl (XS.dload X0.here hx rfl (hb hby d2_33) rfl (XS.dsubS X0.here hx rfl (hb hby d2_35) rfl (own_nn Dq82) hd82 (XS.dstore X0.here hx rfl (hb hby d2_36) rfl (l' := #[sR o0, sI (6 : Int32), sR o0, sI (7 : Int32), sR o0, sI (4 : Int32), sR o0, sI (5 : Int32), sD uc, uS, sD us, uS, sD u0_6, uS, sD u0_7, uS, sD u0_4, uS, sD u0_5, uS, sD d81, uS, sD d82, uS, uU, uU, uU, uU, uU, uU, uU, uU]) rfl k)))))))) ?_
  show OwnGo _ _ _ _ (s₁.setTop (mkF m 38 #[sR o0, sI (6 : Int32), sR o0, sI (7 : Int32), sR o0, sI (4 : Int32), sR o0, sI (5 : Int32), sD uc, uS, sD us, uS, sD u0_6, uS, sD u0_7, uS, sD u0_4, uS, sD u0_5, uS, sD d81, uS, sD d82, uS, uU, uU, uU, uU, uU, uU, uU, uU] []))
  have Dq83 : OwnDS 0 (i0_6 - i0_4) (FP.dsub u0_6 u0_4) := own_ds_sub (n := 53) Du0_6 Du0_4 (own_bd_nat (C := 16777216) (own_bd_sub Bu0_6 Bu0_4 (by decide)) (by decide))
  obtain ⟨d83, hd83⟩ : ∃ v, FP.dsub u0_6 u0_4 = v := ⟨_, rfl⟩
  obtain ⟨j83, hj83⟩ : ∃ i : Int, i = i0_6 - i0_4 := ⟨_, rfl⟩
  have B83 : -16777216 ≤ j83 ∧ j83 ≤ 16777216 := by rw [hj83]; exact own_bd_sub Bu0_6 Bu0_4 (by decide)
  have D83 : OwnDS 0 j83 d83 := by rw [hj83, ← hd83]; exact Dq83
  have Dq84 : OwnDS 0 (i0_7 + i0_5) (FP.dadd u0_7 u0_5) := own_ds_add (n := 53) Du0_7 Du0_5 (own_bd_nat (C := 16777216) (own_bd_add Bu0_7 Bu0_5 (by decide)) (by decide))
  obtain ⟨d84, hd84⟩ : ∃ v, FP.dadd u0_7 u0_5 = v := ⟨_, rfl⟩
  obtain ⟨j84, hj84⟩ : ∃ i : Int, i = i0_7 + i0_5 := ⟨_, rfl⟩
  have B84 : -16777216 ≤ j84 ∧ j84 ≤ 16777216 := by rw [hj84]; exact own_bd_add Bu0_7 Bu0_5 (by decide)
  have D84 : OwnDS 0 j84 d84 := by rw [hj84, ← hd84]; exact Dq84
  refine OwnGo.pre (fun t k => XS.dload X0.here hx rfl (hb hby d2_38) rfl (XS.dload X0.here hx rfl (hb hby d2_40) rfl (XS.dsubS X0.here hx rfl (hb hby d2_42) rfl (own_nn Dq83) hd83 (XS.dstore X0.here hx rfl (hb hby d2_43) rfl (l' := #[sR o0, sI (6 : Int32), sR o0, sI (7 : Int32), sR o0, sI (4 : Int32), sR o0, sI (5 : Int32), sD uc, uS, sD us, uS, sD u0_6, uS, sD u0_7, uS, sD u0_4, uS, sD u0_5, uS, sD d81, uS, sD d82, uS, sD d83, uS, uU, uU, uU, uU, uU, uU]) rfl (XS.dload X0.here hx rfl (hb hby d2_45) rfl (XS.dload X0.here hx rfl (hb hby d2_47) rfl (XS.daddS X0.here hx rfl (hb hby d2_49) rfl (own_nn Dq84) hd84 (XS.dstore X0.here hx rfl (hb hby d2_50) rfl (l' := #[sR o0, sI (6 : Int32), sR o0, sI (7 : Int32), sR o0, sI (4 : Int32), sR o0, sI (5 : Int32), sD uc, uS, sD us, uS, sD u0_6, uS, sD u0_7, uS, sD u0_4, uS, sD u0_5, uS, sD d81, uS, sD d82, uS, sD d83, uS, sD d84, uS, uU, uU, uU, uU]) rfl k)))))))) ?_
  show OwnGo _ _ _ _ (s₁.setTop (mkF m 52 #[sR o0, sI (6 : Int32), sR o0, sI (7 : Int32), sR o0, sI (4 : Int32), sR o0, sI (5 : Int32), sD uc, uS, sD us, uS, sD u0_6, uS, sD u0_7, uS, sD u0_4, uS, sD u0_5, uS, sD d81, uS, sD d82, uS, sD d83, uS, sD d84, uS, uU, uU, uU, uU] []))
  obtain ⟨j85, hj85⟩ : ∃ i : Int, i = j83 * ic := ⟨_, rfl⟩
  have B85 : -140737488355328 ≤ j85 ∧ j85 ≤ 140737488355328 := by rw [hj85]; exact own_bd_mul B83 Buc (by decide)
  have Dq85 : OwnDS 0 j85 (FP.dmul d83 uc) := by rw [hj85]; have q := own_ds_mul (n := 53) D83 Duc (own_bd_nat (C := 140737488355328) (own_bd_mul B83 Buc (by decide)) (by decide)); exact q
  obtain ⟨d85, hd85⟩ : ∃ v, FP.dmul d83 uc = v := ⟨_, rfl⟩
  have D85 : OwnDS 0 j85 d85 := by rw [← hd85]; exact Dq85
  obtain ⟨j86, hj86⟩ : ∃ i : Int, i = j84 * is := ⟨_, rfl⟩
  have B86 : -140737488355328 ≤ j86 ∧ j86 ≤ 140737488355328 := by rw [hj86]; exact own_bd_mul B84 Bus (by decide)
  have Dq86 : OwnDS 0 j86 (FP.dmul d84 us) := by rw [hj86]; have q := own_ds_mul (n := 53) D84 Dus (own_bd_nat (C := 140737488355328) (own_bd_mul B84 Bus (by decide)) (by decide)); exact q
  obtain ⟨d86, hd86⟩ : ∃ v, FP.dmul d84 us = v := ⟨_, rfl⟩
  have D86 : OwnDS 0 j86 d86 := by rw [← hd86]; exact Dq86
  have Dq87 : OwnDS 0 (j85 - j86) (FP.dsub d85 d86) := own_ds_sub (n := 53) D85 D86 (own_bd_nat (C := 281474976710656) (own_bd_sub B85 B86 (by decide)) (by decide))
  obtain ⟨d87, hd87⟩ : ∃ v, FP.dsub d85 d86 = v := ⟨_, rfl⟩
  obtain ⟨j87, hj87⟩ : ∃ i : Int, i = j85 - j86 := ⟨_, rfl⟩
  have B87 : -281474976710656 ≤ j87 ∧ j87 ≤ 281474976710656 := by rw [hj87]; exact own_bd_sub B85 B86 (by decide)
  have D87 : OwnDS 0 j87 d87 := by rw [hj87, ← hd87]; exact Dq87
  refine OwnGo.pre (fun t k => XS.dload X0.here hx rfl (hb hby d2_52) rfl (XS.dload X0.here hx rfl (hb hby d2_54) rfl (XS.dmulS X0.here hx rfl (hb hby d2_56) rfl (own_nn Dq85) hd85 (XS.dload X0.here hx rfl (hb hby d2_57) rfl (XS.dload X0.here hx rfl (hb hby d2_59) rfl (XS.dmulS X0.here hx rfl (hb hby d2_61) rfl (own_nn Dq86) hd86 (XS.dsubS X0.here hx rfl (hb hby d2_62) rfl (own_nn Dq87) hd87 (XS.dstore X0.here hx rfl (hb hby d2_63) rfl (l' := #[sR o0, sI (6 : Int32), sR o0, sI (7 : Int32), sR o0, sI (4 : Int32), sR o0, sI (5 : Int32), sD uc, uS, sD us, uS, sD u0_6, uS, sD u0_7, uS, sD u0_4, uS, sD u0_5, uS, sD d81, uS, sD d82, uS, sD d83, uS, sD d84, uS, sD d87, uS, uU, uU]) rfl k)))))))) ?_
  show OwnGo _ _ _ _ (s₁.setTop (mkF m 65 #[sR o0, sI (6 : Int32), sR o0, sI (7 : Int32), sR o0, sI (4 : Int32), sR o0, sI (5 : Int32), sD uc, uS, sD us, uS, sD u0_6, uS, sD u0_7, uS, sD u0_4, uS, sD u0_5, uS, sD d81, uS, sD d82, uS, sD d83, uS, sD d84, uS, sD d87, uS, uU, uU] []))
  obtain ⟨j88, hj88⟩ : ∃ i : Int, i = j83 * is := ⟨_, rfl⟩
  have B88 : -140737488355328 ≤ j88 ∧ j88 ≤ 140737488355328 := by rw [hj88]; exact own_bd_mul B83 Bus (by decide)
  have Dq88 : OwnDS 0 j88 (FP.dmul d83 us) := by rw [hj88]; have q := own_ds_mul (n := 53) D83 Dus (own_bd_nat (C := 140737488355328) (own_bd_mul B83 Bus (by decide)) (by decide)); exact q
  obtain ⟨d88, hd88⟩ : ∃ v, FP.dmul d83 us = v := ⟨_, rfl⟩
  have D88 : OwnDS 0 j88 d88 := by rw [← hd88]; exact Dq88
  obtain ⟨j89, hj89⟩ : ∃ i : Int, i = j84 * ic := ⟨_, rfl⟩
  have B89 : -140737488355328 ≤ j89 ∧ j89 ≤ 140737488355328 := by rw [hj89]; exact own_bd_mul B84 Buc (by decide)
  have Dq89 : OwnDS 0 j89 (FP.dmul d84 uc) := by rw [hj89]; have q := own_ds_mul (n := 53) D84 Duc (own_bd_nat (C := 140737488355328) (own_bd_mul B84 Buc (by decide)) (by decide)); exact q
  obtain ⟨d89, hd89⟩ : ∃ v, FP.dmul d84 uc = v := ⟨_, rfl⟩
  have D89 : OwnDS 0 j89 d89 := by rw [← hd89]; exact Dq89
  have Dq90 : OwnDS 0 (j88 + j89) (FP.dadd d88 d89) := own_ds_add (n := 53) D88 D89 (own_bd_nat (C := 281474976710656) (own_bd_add B88 B89 (by decide)) (by decide))
  obtain ⟨d90, hd90⟩ : ∃ v, FP.dadd d88 d89 = v := ⟨_, rfl⟩
  obtain ⟨j90, hj90⟩ : ∃ i : Int, i = j88 + j89 := ⟨_, rfl⟩
  have B90 : -281474976710656 ≤ j90 ∧ j90 ≤ 281474976710656 := by rw [hj90]; exact own_bd_add B88 B89 (by decide)
  have D90 : OwnDS 0 j90 d90 := by rw [hj90, ← hd90]; exact Dq90
  refine OwnGo.pre (fun t k => XS.dload X0.here hx rfl (hb hby d2_65) rfl (XS.dload X0.here hx rfl (hb hby d2_67) rfl (XS.dmulS X0.here hx rfl (hb hby d2_69) rfl (own_nn Dq88) hd88 (XS.dload X0.here hx rfl (hb hby d2_70) rfl (XS.dload X0.here hx rfl (hb hby d2_72) rfl (XS.dmulS X0.here hx rfl (hb hby d2_74) rfl (own_nn Dq89) hd89 (XS.daddS X0.here hx rfl (hb hby d2_75) rfl (own_nn Dq90) hd90 (XS.dstore X0.here hx rfl (hb hby d2_76) rfl (l' := #[sR o0, sI (6 : Int32), sR o0, sI (7 : Int32), sR o0, sI (4 : Int32), sR o0, sI (5 : Int32), sD uc, uS, sD us, uS, sD u0_6, uS, sD u0_7, uS, sD u0_4, uS, sD u0_5, uS, sD d81, uS, sD d82, uS, sD d83, uS, sD d84, uS, sD d87, uS, sD d90, uS]) rfl k)))))))) ?_
  show OwnGo _ _ _ _ (s₁.setTop (mkF m 78 #[sR o0, sI (6 : Int32), sR o0, sI (7 : Int32), sR o0, sI (4 : Int32), sR o0, sI (5 : Int32), sD uc, uS, sD us, uS, sD u0_6, uS, sD u0_7, uS, sD u0_4, uS, sD u0_5, uS, sD d81, uS, sD d82, uS, sD d83, uS, sD d84, uS, sD d87, uS, sD d90, uS] []))
  have Dq91 : OwnDS 0 (j81 - j90) (FP.dsub d81 d90) := own_ds_sub (n := 53) D81 D90 (own_bd_nat (C := 281474993487872) (own_bd_sub B81 B90 (by decide)) (by decide))
  obtain ⟨d91, hd91⟩ : ∃ v, FP.dsub d81 d90 = v := ⟨_, rfl⟩
  obtain ⟨j91, hj91⟩ : ∃ i : Int, i = j81 - j90 := ⟨_, rfl⟩
  have B91 : -281474993487872 ≤ j91 ∧ j91 ≤ 281474993487872 := by rw [hj91]; exact own_bd_sub B81 B90 (by decide)
  have D91 : OwnDS 0 j91 d91 := by rw [hj91, ← hd91]; exact Dq91
  refine OwnGo.pre (fun t k => XS.aloadN X0.here hx rfl (hb hby d2_78) rfl rfl (XS.iloadN X0.here hx rfl (hb hby d2_79) rfl (XS.dload X0.here hx rfl (hb hby d2_80) rfl (XS.dload X0.here hx rfl (hb hby d2_82) rfl (XS.dsubS X0.here hx rfl (hb hby d2_84) rfl (own_nn Dq91) hd91 k))))) ?_
  show OwnGo _ _ _ _ (s₁.setTop (mkF m 85 #[sR o0, sI (6 : Int32), sR o0, sI (7 : Int32), sR o0, sI (4 : Int32), sR o0, sI (5 : Int32), sD uc, uS, sD us, uS, sD u0_6, uS, sD u0_7, uS, sD u0_4, uS, sD u0_5, uS, sD d81, uS, sD d82, uS, sD d83, uS, sD d84, uS, sD d87, uS, sD d90, uS] [(.double d91), (.int (6 : Int32)), (.ref o0)]))
  obtain ⟨T92, h92, X92, e92, W92, A92, st92⟩ := own_daS X0 hx hZ e0 Ao0 (by decide) (i := 6) (by decide) (by show 6 < 8; decide) (g := (mkF m 85 #[sR o0, sI (6 : Int32), sR o0, sI (7 : Int32), sR o0, sI (4 : Int32), sR o0, sI (5 : Int32), sD uc, uS, sD us, uS, sD u0_6, uS, sD u0_7, uS, sD u0_4, uS, sD u0_5, uS, sD d81, uS, sD d82, uS, sD d83, uS, sD d84, uS, sD d87, uS, sD d90, uS] [(.double d91), (.int (6 : Int32)), (.ref o0)])) rfl rfl (hb hby d2_85)
  have A92n : OwnDA Z h92 o0 [u0_0, u0_1, u0_2, u0_3, u0_4, u0_5, d91, u0_7] := A92
  have N92 := Fr.snoc X92 N0 go0
  have P92 := (Keep.refl h0 [o0]).wr W92 (Or.inl (List.mem_of_getElem? (i := 0) rfl))
  have Z92 : n0 ≤ h92.size := by rw [W92.size]; exact Z0
  refine OwnGo.pre (fun t k => st92 t k) ?_
  show OwnGo _ _ _ _ (T92.setTop (mkF m 86 #[sR o0, sI (6 : Int32), sR o0, sI (7 : Int32), sR o0, sI (4 : Int32), sR o0, sI (5 : Int32), sD uc, uS, sD us, uS, sD u0_6, uS, sD u0_7, uS, sD u0_4, uS, sD u0_5, uS, sD d81, uS, sD d82, uS, sD d83, uS, sD d84, uS, sD d87, uS, sD d90, uS] []))
  have Dq93 : OwnDS 0 (j82 + j87) (FP.dadd d82 d87) := own_ds_add (n := 53) D82 D87 (own_bd_nat (C := 281474993487872) (own_bd_add B82 B87 (by decide)) (by decide))
  obtain ⟨d93, hd93⟩ : ∃ v, FP.dadd d82 d87 = v := ⟨_, rfl⟩
  obtain ⟨j93, hj93⟩ : ∃ i : Int, i = j82 + j87 := ⟨_, rfl⟩
  have B93 : -281474993487872 ≤ j93 ∧ j93 ≤ 281474993487872 := by rw [hj93]; exact own_bd_add B82 B87 (by decide)
  have D93 : OwnDS 0 j93 d93 := by rw [hj93, ← hd93]; exact Dq93
  refine OwnGo.pre (fun t k => XS.aloadN X92.here hx rfl (hb hby d2_86) rfl rfl (XS.iloadN X92.here hx rfl (hb hby d2_87) rfl (XS.dload X92.here hx rfl (hb hby d2_88) rfl (XS.dload X92.here hx rfl (hb hby d2_90) rfl (XS.daddS X92.here hx rfl (hb hby d2_92) rfl (own_nn Dq93) hd93 k))))) ?_
  show OwnGo _ _ _ _ (T92.setTop (mkF m 93 #[sR o0, sI (6 : Int32), sR o0, sI (7 : Int32), sR o0, sI (4 : Int32), sR o0, sI (5 : Int32), sD uc, uS, sD us, uS, sD u0_6, uS, sD u0_7, uS, sD u0_4, uS, sD u0_5, uS, sD d81, uS, sD d82, uS, sD d83, uS, sD d84, uS, sD d87, uS, sD d90, uS] [(.double d93), (.int (7 : Int32)), (.ref o0)]))
  obtain ⟨T94, h94, X94, e94, W94, A94, st94⟩ := own_daS X92 hx hZ e92 A92n (by decide) (i := 7) (by decide) (by show 7 < 8; decide) (g := (mkF m 93 #[sR o0, sI (6 : Int32), sR o0, sI (7 : Int32), sR o0, sI (4 : Int32), sR o0, sI (5 : Int32), sD uc, uS, sD us, uS, sD u0_6, uS, sD u0_7, uS, sD u0_4, uS, sD u0_5, uS, sD d81, uS, sD d82, uS, sD d83, uS, sD d84, uS, sD d87, uS, sD d90, uS] [(.double d93), (.int (7 : Int32)), (.ref o0)])) rfl rfl (hb hby d2_93)
  have A94n : OwnDA Z h94 o0 [u0_0, u0_1, u0_2, u0_3, u0_4, u0_5, d91, d93] := A94
  have N94 := Fr.snoc X94 N92 go0
  have P94 := P92.wr W94 (Or.inl (List.mem_of_getElem? (i := 0) rfl))
  have Z94 : n0 ≤ h94.size := by rw [W94.size]; exact Z92
  refine OwnGo.pre (fun t k => st94 t k) ?_
  show OwnGo _ _ _ _ (T94.setTop (mkF m 94 #[sR o0, sI (6 : Int32), sR o0, sI (7 : Int32), sR o0, sI (4 : Int32), sR o0, sI (5 : Int32), sD uc, uS, sD us, uS, sD u0_6, uS, sD u0_7, uS, sD u0_4, uS, sD u0_5, uS, sD d81, uS, sD d82, uS, sD d83, uS, sD d84, uS, sD d87, uS, sD d90, uS] []))
  have Dq95 : OwnDS 0 (j81 + j90) (FP.dadd d81 d90) := own_ds_add (n := 53) D81 D90 (own_bd_nat (C := 281474993487872) (own_bd_add B81 B90 (by decide)) (by decide))
  obtain ⟨d95, hd95⟩ : ∃ v, FP.dadd d81 d90 = v := ⟨_, rfl⟩
  obtain ⟨j95, hj95⟩ : ∃ i : Int, i = j81 + j90 := ⟨_, rfl⟩
  have B95 : -281474993487872 ≤ j95 ∧ j95 ≤ 281474993487872 := by rw [hj95]; exact own_bd_add B81 B90 (by decide)
  have D95 : OwnDS 0 j95 d95 := by rw [hj95, ← hd95]; exact Dq95
  refine OwnGo.pre (fun t k => XS.aload X94.here hx rfl (hb hby d2_94) rfl rfl (XS.iload X94.here hx rfl (hb hby d2_96) rfl (XS.dload X94.here hx rfl (hb hby d2_98) rfl (XS.dload X94.here hx rfl (hb hby d2_100) rfl (XS.daddS X94.here hx rfl (hb hby d2_102) rfl (own_nn Dq95) hd95 k))))) ?_
  show OwnGo _ _ _ _ (T94.setTop (mkF m 103 #[sR o0, sI (6 : Int32), sR o0, sI (7 : Int32), sR o0, sI (4 : Int32), sR o0, sI (5 : Int32), sD uc, uS, sD us, uS, sD u0_6, uS, sD u0_7, uS, sD u0_4, uS, sD u0_5, uS, sD d81, uS, sD d82, uS, sD d83, uS, sD d84, uS, sD d87, uS, sD d90, uS] [(.double d95), (.int (4 : Int32)), (.ref o0)]))
  obtain ⟨T96, h96, X96, e96, W96, A96, st96⟩ := own_daS X94 hx hZ e94 A94n (by decide) (i := 4) (by decide) (by show 4 < 8; decide) (g := (mkF m 103 #[sR o0, sI (6 : Int32), sR o0, sI (7 : Int32), sR o0, sI (4 : Int32), sR o0, sI (5 : Int32), sD uc, uS, sD us, uS, sD u0_6, uS, sD u0_7, uS, sD u0_4, uS, sD u0_5, uS, sD d81, uS, sD d82, uS, sD d83, uS, sD d84, uS, sD d87, uS, sD d90, uS] [(.double d95), (.int (4 : Int32)), (.ref o0)])) rfl rfl (hb hby d2_103)
  have A96n : OwnDA Z h96 o0 [u0_0, u0_1, u0_2, u0_3, d95, u0_5, d91, d93] := A96
  have N96 := Fr.snoc X96 N94 go0
  have P96 := P94.wr W96 (Or.inl (List.mem_of_getElem? (i := 0) rfl))
  have Z96 : n0 ≤ h96.size := by rw [W96.size]; exact Z94
  refine OwnGo.pre (fun t k => st96 t k) ?_
  show OwnGo _ _ _ _ (T96.setTop (mkF m 104 #[sR o0, sI (6 : Int32), sR o0, sI (7 : Int32), sR o0, sI (4 : Int32), sR o0, sI (5 : Int32), sD uc, uS, sD us, uS, sD u0_6, uS, sD u0_7, uS, sD u0_4, uS, sD u0_5, uS, sD d81, uS, sD d82, uS, sD d83, uS, sD d84, uS, sD d87, uS, sD d90, uS] []))
  have Dq97 : OwnDS 0 (j87 - j82) (FP.dsub d87 d82) := own_ds_sub (n := 53) D87 D82 (own_bd_nat (C := 281474993487872) (own_bd_sub B87 B82 (by decide)) (by decide))
  obtain ⟨d97, hd97⟩ : ∃ v, FP.dsub d87 d82 = v := ⟨_, rfl⟩
  obtain ⟨j97, hj97⟩ : ∃ i : Int, i = j87 - j82 := ⟨_, rfl⟩
  have B97 : -281474993487872 ≤ j97 ∧ j97 ≤ 281474993487872 := by rw [hj97]; exact own_bd_sub B87 B82 (by decide)
  have D97 : OwnDS 0 j97 d97 := by rw [hj97, ← hd97]; exact Dq97
  refine OwnGo.pre (fun t k => XS.aload X96.here hx rfl (hb hby d2_104) rfl rfl (XS.iload X96.here hx rfl (hb hby d2_106) rfl (XS.dload X96.here hx rfl (hb hby d2_108) rfl (XS.dload X96.here hx rfl (hb hby d2_110) rfl (XS.dsubS X96.here hx rfl (hb hby d2_112) rfl (own_nn Dq97) hd97 k))))) ?_
  show OwnGo _ _ _ _ (T96.setTop (mkF m 113 #[sR o0, sI (6 : Int32), sR o0, sI (7 : Int32), sR o0, sI (4 : Int32), sR o0, sI (5 : Int32), sD uc, uS, sD us, uS, sD u0_6, uS, sD u0_7, uS, sD u0_4, uS, sD u0_5, uS, sD d81, uS, sD d82, uS, sD d83, uS, sD d84, uS, sD d87, uS, sD d90, uS] [(.double d97), (.int (5 : Int32)), (.ref o0)]))
  obtain ⟨T98, h98, X98, e98, W98, A98, st98⟩ := own_daS X96 hx hZ e96 A96n (by decide) (i := 5) (by decide) (by show 5 < 8; decide) (g := (mkF m 113 #[sR o0, sI (6 : Int32), sR o0, sI (7 : Int32), sR o0, sI (4 : Int32), sR o0, sI (5 : Int32), sD uc, uS, sD us, uS, sD u0_6, uS, sD u0_7, uS, sD u0_4, uS, sD u0_5, uS, sD d81, uS, sD d82, uS, sD d83, uS, sD d84, uS, sD d87, uS, sD d90, uS] [(.double d97), (.int (5 : Int32)), (.ref o0)])) rfl rfl (hb hby d2_113)
  have A98n : OwnDA Z h98 o0 [u0_0, u0_1, u0_2, u0_3, d95, d97, d91, d93] := A98
  have N98 := Fr.snoc X98 N96 go0
  have P98 := P96.wr W98 (Or.inl (List.mem_of_getElem? (i := 0) rfl))
  have Z98 : n0 ≤ h98.size := by rw [W98.size]; exact Z96
  refine OwnGo.pre (fun t k => st98 t k) ?_
  show OwnGo _ _ _ _ (T98.setTop (mkF m 114 #[sR o0, sI (6 : Int32), sR o0, sI (7 : Int32), sR o0, sI (4 : Int32), sR o0, sI (5 : Int32), sD uc, uS, sD us, uS, sD u0_6, uS, sD u0_7, uS, sD u0_4, uS, sD u0_5, uS, sD d81, uS, sD d82, uS, sD d83, uS, sD d84, uS, sD d87, uS, sD d90, uS] []))
  rw [← e98] at A98n Z98 P98
  exact own_ret0 X98 hx hk hrt (hb hby d2_114) ⟨_, _, _, _, rfl, ((by simp only [hj95, hj81, hj90, hj88, hj83, hj89, hj84] : j95 = ((i0_6 + i0_4) + (((i0_6 - i0_4) * is) + ((i0_7 + i0_5) * ic)))) ▸ D95), ((by simp only [hj95, hj81, hj90, hj88, hj83, hj89, hj84] : j95 = ((i0_6 + i0_4) + (((i0_6 - i0_4) * is) + ((i0_7 + i0_5) * ic)))) ▸ B95), ((by simp only [hj97, hj87, hj85, hj83, hj86, hj84, hj82] : j97 = ((((i0_6 - i0_4) * ic) - ((i0_7 + i0_5) * is)) - (i0_7 - i0_5))) ▸ D97), ((by simp only [hj97, hj87, hj85, hj83, hj86, hj84, hj82] : j97 = ((((i0_6 - i0_4) * ic) - ((i0_7 + i0_5) * is)) - (i0_7 - i0_5))) ▸ B97), ((by simp only [hj91, hj81, hj90, hj88, hj83, hj89, hj84] : j91 = ((i0_6 + i0_4) - (((i0_6 - i0_4) * is) + ((i0_7 + i0_5) * ic)))) ▸ D91), ((by simp only [hj91, hj81, hj90, hj88, hj83, hj89, hj84] : j91 = ((i0_6 + i0_4) - (((i0_6 - i0_4) * is) + ((i0_7 + i0_5) * ic)))) ▸ B91), ((by simp only [hj93, hj82, hj87, hj85, hj83, hj86, hj84] : j93 = ((i0_7 - i0_5) + (((i0_6 - i0_4) * ic) - ((i0_7 + i0_5) * is)))) ▸ D93), ((by simp only [hj93, hj82, hj87, hj85, hj83, hj86, hj84] : j93 = ((i0_7 - i0_5) + (((i0_6 - i0_4) * ic) - ((i0_7 + i0_5) * is)))) ▸ B93), A98n, P98, N98, Z98⟩ (by decide) (by decide)
theorem pn_rmL : plainName "com/example/isochron/isochron/dsp/FourierJoinPinLaw" = true := by first | (simp [plainName, overriddenIn]; done) | decide +kernel
theorem own_eq0 (z0 z1 z2 z3 z4 z5 : Int) : ((z0 + z1) + (((z0 - z1) * z2) + ((z3 + z4) * z5))) = ((z0 + z1) + ((z0 - z1) * z2 + (z3 + z4) * z5)) := by grind
theorem own_eq1 (z0 z1 z2 z3 z4 z5 : Int) : (-((((z0 - z1) * z2) - ((z3 + z4) * z5)) - (z3 - z4))) = ((z3 - z4) - ((z0 - z1) * z2 - (z3 + z4) * z5)) := by grind
theorem own_eq2 (z0 z1 z2 z3 z4 z5 : Int) : ((z0 + z1) - (((z0 - z1) * z2) + ((z3 + z4) * z5))) = ((z0 + z1) - ((z0 - z1) * z2 + (z3 + z4) * z5)) := by grind
theorem own_eq3 (z0 z1 z2 z3 z4 z5 : Int) : ((z0 - z1) + (((z2 - z3) * z4) - ((z0 + z1) * z5))) = ((z0 - z1) + ((z2 - z3) * z4 - (z0 + z1) * z5)) := by grind
theorem own_eq4 (z0 z1 z2 z3 : Int) : ((z0 + z0) + (((z0 - z0) * z1) + ((z2 + z2) * z3))) = ((z0 + z0) + ((z0 - z0) * z1 + (z2 + z2) * z3)) := by grind
theorem own_eq5 (z0 z1 z2 z3 : Int) : (-((((z0 - z0) * z1) - ((z2 + z2) * z3)) - (z2 - z2))) = ((z2 - z2) - ((z0 - z0) * z1 - (z2 + z2) * z3)) := by grind
theorem ef_rmL (m : MethodId) (p0 p1 p2 p3 : Int32) (p4 : Int64) (p5 : Int32) : entryFrame m #[(.int p0), (.int p1), (.int p2), (.int p3), (.long p4), (.int p5)] maxLocals = (mkF m 0 #[sI p0, sI p1, sI p2, sI p3, sJ p4, uS, sI p5, uU, uU, uU, uU, uU, uU, uU, uU, uU, uU, uU, uU, uU, uU, uU, uU, uU, uU, uU, uU, uU, uU, uU, uU, uU, uU, uU, uU, uU, uU, uU, uU, uU, uU, uU, uU, uU, uU, uU, uU, uU, uU, uU, uU, uU, uU, uU, uU] []) := by first | (simp [entryFrame, mkF, argsToLocals, Value.category, maxLocals]; done) | rfl
def Q_rmL (Z : State) (p0 p1 p2 p3 : Int32) (p4 : Int64) (p5 : Int32) (h0 : Heap) (n0 : Nat) (v : Option Value) (h : Heap) (L : List Loc) : Prop := v = some (.int 1) ∧ Fr n0 L
set_option maxRecDepth 65536 in
set_option maxHeartbeats 40000000 in
theorem rmL (l : Launch) (Z : State) (a0 : Array Value) (hw : ∀ d ∈ tables_1, d.before a0 Z = true) (ws : List Jvm.Cond) (p0 p1 p2 p3 : Int32) (p4 : Int64) (p5 : Int32) (h0 : Heap) (n0 : Nat) (Z0 : n0 ≤ h0.size)  :
    MetFree l x (head1 (Jvm.Cond.code x code maxLocals ret :: ws) room_1) (fun a U => a = #[(.int p0), (.int p1), (.int p2), (.int p3), (.long p4), (.int p5)] ∧ Z.Warmed39 U.vm ∧ U.heap = h0) (fun _ _ _ _ _ => True) (fun _ U oO U' => ∃ v L, oO = .returned v ∧ Q_rmL Z p0 p1 p2 p3 p4 p5 h0 n0 v U'.heap L ∧ FrameEnd U oO U' L room_1.cells room_1.slots) := by
  refine MetFree.of_bodySF (plainFor_of_name pn_rmL) hisR ?_
  intro p e s m args below meth c s₁ Bd hml0 hP hK
  obtain ⟨rfl, hZ, hh⟩ := hP
  have hx := Bd.exec
  have hby := Bd.bytes
  have hml : c.maxLocals = 55 := hml0
  have hown : s.vm.findClass "com/example/isochron/isochron/dsp/FourierJoinPinLaw" = some m.cls := findClass_of_methodNamed Bd.named
  have hnm := (name_of_methodNamed Bd.named Bd.method).1
  have hk := Bd.notSynchronized
  have hrt := Bd.returns
  have X0 : Stand p l e room_1 s m #[(.int p0), (.int p1), (.int p2), (.int p3), (.long p4), (.int p5)] below meth c s₁ [] 0 0 := Stand.of_body Bd
  have e0 : s₁.heap = h0 := by rw [← hh, Bd.state]; rfl
  have N0 := Fr.nil n0
  show OwnGo p.tables e below (OwnEnd s (Q_rmL Z p0 p1 p2 p3 p4 p5 h0 n0) room_1.cells room_1.slots) _
  refine OwnGo.pre (fun t k => castTop (ef_rmL m p0 p1 p2 p3 p4 p5) k) ?_
  show OwnGo _ _ _ _ (s₁.setTop (mkF m 0 #[sI p0, sI p1, sI p2, sI p3, sJ p4, uS, sI p5, uU, uU, uU, uU, uU, uU, uU, uU, uU, uU, uU, uU, uU, uU, uU, uU, uU, uU, uU, uU, uU, uU, uU, uU, uU, uU, uU, uU, uU, uU, uU, uU, uU, uU, uU, uU, uU, uU, uU, uU, uU, uU, uU, uU, uU, uU, uU, uU] []))
  refine OwnGo.pre (fun t k => XS.iloadN X0.here hx rfl (hb hby at_0) rfl k) ?_
  show OwnGo _ _ _ _ (s₁.setTop (mkF m 1 #[sI p0, sI p1, sI p2, sI p3, sJ p4, uS, sI p5, uU, uU, uU, uU, uU, uU, uU, uU, uU, uU, uU, uU, uU, uU, uU, uU, uU, uU, uU, uU, uU, uU, uU, uU, uU, uU, uU, uU, uU, uU, uU, uU, uU, uU, uU, uU, uU, uU, uU, uU, uU, uU, uU, uU, uU, uU, uU, uU] [(.int p0)]))
  obtain ⟨_, _, ⟨T99, L99, k99, n99⟩, -, X99, ⟨Lc99, hQ99, l99, y99, z99⟩, st99⟩ := Jvm.LawKit.callS X0 hx (y := (⟨"com/example/isochron/isochron/dsp/FourierJoinPinLaw", "sext", "(I)J"⟩ : MethodName)) hown (mvT hZ (hw _ (List.mem_of_getElem? (i := 0) rfl))) (mvT hZ (hw _ (List.mem_of_getElem? (i := 1) rfl))) (mvT hZ (hw _ (List.mem_of_getElem? (i := 2) rfl))) (mvT hZ (hw _ (List.mem_of_getElem? (i := 3) rfl))) (by decide) (backOf (W := 0) (rm := ({ frames := 0, cells := 0, slots := 0, locals := 0 } : Room)) (Q := Q_rmS Z p0 h0 n0) (rmS l Z a0 hw [] p0 h0 n0 Z0 ) hZ (hw _ (List.mem_of_getElem? (i := 3) rfl)) (hw _ (List.mem_of_getElem? (i := 2) rfl)) (by decide) (by decide)) (g := (mkF m 1 #[sI p0, sI p1, sI p2, sI p3, sJ p4, uS, sI p5, uU, uU, uU, uU, uU, uU, uU, uU, uU, uU, uU, uU, uU, uU, uU, uU, uU, uU, uU, uU, uU, uU, uU, uU, uU, uU, uU, uU, uU, uU, uU, uU, uU, uU, uU, uU, uU, uU, uU, uU, uU, uU, uU, uU, uU, uU, uU, uU] [(.int p0)])) rfl (by rw [hml]; rfl) (argsL := [(.int p0)]) (rest := []) (lenOf pd_rmS rfl) rfl (by show 2 * 0 + _ ≤ _; exact Nat.le_of_eq rfl) (hb hby at_1) (fun _ _ => ⟨rfl, e0, (by decide : 0 + 0 ≤ _), (by decide : 0 + 0 ≤ _)⟩)
  dsimp only [Pt.U, Pt.locs, Pt.cells, Pt.slots] at X99 l99 y99 z99 st99 hQ99
  replace l99 := l99.symm
  replace y99 := y99.symm
  replace z99 := z99.symm
  subst l99 y99 z99
  obtain ⟨y0, rfl, by0, N99, e99⟩ := hQ99
  refine OwnGo.pre (fun t k => st99 t k) ?_
  show OwnGo _ _ _ _ (T99.setTop (mkF m 4 #[sI p0, sI p1, sI p2, sI p3, sJ p4, uS, sI p5, uU, uU, uU, uU, uU, uU, uU, uU, uU, uU, uU, uU, uU, uU, uU, uU, uU, uU, uU, uU, uU, uU, uU, uU, uU, uU, uU, uU, uU, uU, uU, uU, uU, uU, uU, uU, uU, uU, uU, uU, uU, uU, uU, uU, uU, uU, uU, uU] [(.long y0)]))
  have M99 := Fr.app N0 N99
  obtain ⟨jy0, Fy0⟩ : ∃ i : Int, y0.toInt = i := ⟨_, rfl⟩
  rw [Fy0] at by0
  refine OwnGo.pre (fun t k => XT.lstore X99.here hx rfl (hb hby at_4) rfl (l' := #[sI p0, sI p1, sI p2, sI p3, sJ p4, uS, sI p5, sJ y0, uS, uU, uU, uU, uU, uU, uU, uU, uU, uU, uU, uU, uU, uU, uU, uU, uU, uU, uU, uU, uU, uU, uU, uU, uU, uU, uU, uU, uU, uU, uU, uU, uU, uU, uU, uU, uU, uU, uU, uU, uU, uU, uU, uU, uU, uU, uU]) rfl (XS.iloadN X99.here hx rfl (hb hby at_6) rfl k)) ?_
  show OwnGo _ _ _ _ (T99.setTop (mkF m 7 #[sI p0, sI p1, sI p2, sI p3, sJ p4, uS, sI p5, sJ y0, uS, uU, uU, uU, uU, uU, uU, uU, uU, uU, uU, uU, uU, uU, uU, uU, uU, uU, uU, uU, uU, uU, uU, uU, uU, uU, uU, uU, uU, uU, uU, uU, uU, uU, uU, uU, uU, uU, uU, uU, uU, uU, uU, uU, uU, uU, uU] [(.int p1)]))
  obtain ⟨_, _, ⟨T100, L100, k100, n100⟩, -, X100, ⟨Lc100, hQ100, l100, y100, z100⟩, st100⟩ := Jvm.LawKit.callS X99 hx (y := (⟨"com/example/isochron/isochron/dsp/FourierJoinPinLaw", "sext", "(I)J"⟩ : MethodName)) hown (mvT hZ (hw _ (List.mem_of_getElem? (i := 0) rfl))) (mvT hZ (hw _ (List.mem_of_getElem? (i := 1) rfl))) (mvT hZ (hw _ (List.mem_of_getElem? (i := 2) rfl))) (mvT hZ (hw _ (List.mem_of_getElem? (i := 3) rfl))) (by decide) (backOf (W := 0) (rm := ({ frames := 0, cells := 0, slots := 0, locals := 0 } : Room)) (Q := Q_rmS Z p1 h0 n0) (rmS l Z a0 hw [] p1 h0 n0 Z0 ) hZ (hw _ (List.mem_of_getElem? (i := 3) rfl)) (hw _ (List.mem_of_getElem? (i := 2) rfl)) (by decide) (by decide)) (g := (mkF m 7 #[sI p0, sI p1, sI p2, sI p3, sJ p4, uS, sI p5, sJ y0, uS, uU, uU, uU, uU, uU, uU, uU, uU, uU, uU, uU, uU, uU, uU, uU, uU, uU, uU, uU, uU, uU, uU, uU, uU, uU, uU, uU, uU, uU, uU, uU, uU, uU, uU, uU, uU, uU, uU, uU, uU, uU, uU, uU, uU, uU, uU] [(.int p1)])) rfl (by rw [hml]; rfl) (argsL := [(.int p1)]) (rest := []) (lenOf pd_rmS rfl) rfl (by show 2 * 0 + _ ≤ _; exact Nat.le_of_eq rfl) (hb hby at_7) (fun _ _ => ⟨rfl, e99, (by decide : 0 + 0 ≤ _), (by decide : 0 + 0 ≤ _)⟩)
  dsimp only [Pt.U, Pt.locs, Pt.cells, Pt.slots] at X100 l100 y100 z100 st100 hQ100
  replace l100 := l100.symm
  replace y100 := y100.symm
  replace z100 := z100.symm
  subst l100 y100 z100
  obtain ⟨y1, rfl, by1, N100, e100⟩ := hQ100
  refine OwnGo.pre (fun t k => st100 t k) ?_
  show OwnGo _ _ _ _ (T100.setTop (mkF m 10 #[sI p0, sI p1, sI p2, sI p3, sJ p4, uS, sI p5, sJ y0, uS, uU, uU, uU, uU, uU, uU, uU, uU, uU, uU, uU, uU, uU, uU, uU, uU, uU, uU, uU, uU, uU, uU, uU, uU, uU, uU, uU, uU, uU, uU, uU, uU, uU, uU, uU, uU, uU, uU, uU, uU, uU, uU, uU, uU, uU, uU] [(.long y1)]))
  have M100 := Fr.app M99 N100
  obtain ⟨jy1, Fy1⟩ : ∃ i : Int, y1.toInt = i := ⟨_, rfl⟩
  rw [Fy1] at by1
  refine OwnGo.pre (fun t k => XT.lstore X100.here hx rfl (hb hby at_10) rfl (l' := #[sI p0, sI p1, sI p2, sI p3, sJ p4, uS, sI p5, sJ y0, uS, sJ y1, uS, uU, uU, uU, uU, uU, uU, uU, uU, uU, uU, uU, uU, uU, uU, uU, uU, uU, uU, uU, uU, uU, uU, uU, uU, uU, uU, uU, uU, uU, uU, uU, uU, uU, uU, uU, uU, uU, uU, uU, uU, uU, uU, uU, uU]) rfl (XS.iloadN X100.here hx rfl (hb hby at_12) rfl k)) ?_
  show OwnGo _ _ _ _ (T100.setTop (mkF m 13 #[sI p0, sI p1, sI p2, sI p3, sJ p4, uS, sI p5, sJ y0, uS, sJ y1, uS, uU, uU, uU, uU, uU, uU, uU, uU, uU, uU, uU, uU, uU, uU, uU, uU, uU, uU, uU, uU, uU, uU, uU, uU, uU, uU, uU, uU, uU, uU, uU, uU, uU, uU, uU, uU, uU, uU, uU, uU, uU, uU, uU, uU] [(.int p2)]))
  obtain ⟨_, _, ⟨T101, L101, k101, n101⟩, -, X101, ⟨Lc101, hQ101, l101, y101, z101⟩, st101⟩ := Jvm.LawKit.callS X100 hx (y := (⟨"com/example/isochron/isochron/dsp/FourierJoinPinLaw", "sext", "(I)J"⟩ : MethodName)) hown (mvT hZ (hw _ (List.mem_of_getElem? (i := 0) rfl))) (mvT hZ (hw _ (List.mem_of_getElem? (i := 1) rfl))) (mvT hZ (hw _ (List.mem_of_getElem? (i := 2) rfl))) (mvT hZ (hw _ (List.mem_of_getElem? (i := 3) rfl))) (by decide) (backOf (W := 0) (rm := ({ frames := 0, cells := 0, slots := 0, locals := 0 } : Room)) (Q := Q_rmS Z p2 h0 n0) (rmS l Z a0 hw [] p2 h0 n0 Z0 ) hZ (hw _ (List.mem_of_getElem? (i := 3) rfl)) (hw _ (List.mem_of_getElem? (i := 2) rfl)) (by decide) (by decide)) (g := (mkF m 13 #[sI p0, sI p1, sI p2, sI p3, sJ p4, uS, sI p5, sJ y0, uS, sJ y1, uS, uU, uU, uU, uU, uU, uU, uU, uU, uU, uU, uU, uU, uU, uU, uU, uU, uU, uU, uU, uU, uU, uU, uU, uU, uU, uU, uU, uU, uU, uU, uU, uU, uU, uU, uU, uU, uU, uU, uU, uU, uU, uU, uU, uU] [(.int p2)])) rfl (by rw [hml]; rfl) (argsL := [(.int p2)]) (rest := []) (lenOf pd_rmS rfl) rfl (by show 2 * 0 + _ ≤ _; exact Nat.le_of_eq rfl) (hb hby at_13) (fun _ _ => ⟨rfl, e100, (by decide : 0 + 0 ≤ _), (by decide : 0 + 0 ≤ _)⟩)
  dsimp only [Pt.U, Pt.locs, Pt.cells, Pt.slots] at X101 l101 y101 z101 st101 hQ101
  replace l101 := l101.symm
  replace y101 := y101.symm
  replace z101 := z101.symm
  subst l101 y101 z101
  obtain ⟨y2, rfl, by2, N101, e101⟩ := hQ101
  refine OwnGo.pre (fun t k => st101 t k) ?_
  show OwnGo _ _ _ _ (T101.setTop (mkF m 16 #[sI p0, sI p1, sI p2, sI p3, sJ p4, uS, sI p5, sJ y0, uS, sJ y1, uS, uU, uU, uU, uU, uU, uU, uU, uU, uU, uU, uU, uU, uU, uU, uU, uU, uU, uU, uU, uU, uU, uU, uU, uU, uU, uU, uU, uU, uU, uU, uU, uU, uU, uU, uU, uU, uU, uU, uU, uU, uU, uU, uU, uU] [(.long y2)]))
  have M101 := Fr.app M100 N101
  obtain ⟨jy2, Fy2⟩ : ∃ i : Int, y2.toInt = i := ⟨_, rfl⟩
  rw [Fy2] at by2
  refine OwnGo.pre (fun t k => XT.lstore X101.here hx rfl (hb hby at_16) rfl (l' := #[sI p0, sI p1, sI p2, sI p3, sJ p4, uS, sI p5, sJ y0, uS, sJ y1, uS, sJ y2, uS, uU, uU, uU, uU, uU, uU, uU, uU, uU, uU, uU, uU, uU, uU, uU, uU, uU, uU, uU, uU, uU, uU, uU, uU, uU, uU, uU, uU, uU, uU, uU, uU, uU, uU, uU, uU, uU, uU, uU, uU, uU, uU]) rfl (XS.iloadN X101.here hx rfl (hb hby at_18) rfl k)) ?_
  show OwnGo _ _ _ _ (T101.setTop (mkF m 19 #[sI p0, sI p1, sI p2, sI p3, sJ p4, uS, sI p5, sJ y0, uS, sJ y1, uS, sJ y2, uS, uU, uU, uU, uU, uU, uU, uU, uU, uU, uU, uU, uU, uU, uU, uU, uU, uU, uU, uU, uU, uU, uU, uU, uU, uU, uU, uU, uU, uU, uU, uU, uU, uU, uU, uU, uU, uU, uU, uU, uU, uU, uU] [(.int p3)]))
  obtain ⟨_, _, ⟨T102, L102, k102, n102⟩, -, X102, ⟨Lc102, hQ102, l102, y102, z102⟩, st102⟩ := Jvm.LawKit.callS X101 hx (y := (⟨"com/example/isochron/isochron/dsp/FourierJoinPinLaw", "sext", "(I)J"⟩ : MethodName)) hown (mvT hZ (hw _ (List.mem_of_getElem? (i := 0) rfl))) (mvT hZ (hw _ (List.mem_of_getElem? (i := 1) rfl))) (mvT hZ (hw _ (List.mem_of_getElem? (i := 2) rfl))) (mvT hZ (hw _ (List.mem_of_getElem? (i := 3) rfl))) (by decide) (backOf (W := 0) (rm := ({ frames := 0, cells := 0, slots := 0, locals := 0 } : Room)) (Q := Q_rmS Z p3 h0 n0) (rmS l Z a0 hw [] p3 h0 n0 Z0 ) hZ (hw _ (List.mem_of_getElem? (i := 3) rfl)) (hw _ (List.mem_of_getElem? (i := 2) rfl)) (by decide) (by decide)) (g := (mkF m 19 #[sI p0, sI p1, sI p2, sI p3, sJ p4, uS, sI p5, sJ y0, uS, sJ y1, uS, sJ y2, uS, uU, uU, uU, uU, uU, uU, uU, uU, uU, uU, uU, uU, uU, uU, uU, uU, uU, uU, uU, uU, uU, uU, uU, uU, uU, uU, uU, uU, uU, uU, uU, uU, uU, uU, uU, uU, uU, uU, uU, uU, uU, uU] [(.int p3)])) rfl (by rw [hml]; rfl) (argsL := [(.int p3)]) (rest := []) (lenOf pd_rmS rfl) rfl (by show 2 * 0 + _ ≤ _; exact Nat.le_of_eq rfl) (hb hby at_19) (fun _ _ => ⟨rfl, e101, (by decide : 0 + 0 ≤ _), (by decide : 0 + 0 ≤ _)⟩)
  dsimp only [Pt.U, Pt.locs, Pt.cells, Pt.slots] at X102 l102 y102 z102 st102 hQ102
  replace l102 := l102.symm
  replace y102 := y102.symm
  replace z102 := z102.symm
  subst l102 y102 z102
  obtain ⟨y3, rfl, by3, N102, e102⟩ := hQ102
  refine OwnGo.pre (fun t k => st102 t k) ?_
  show OwnGo _ _ _ _ (T102.setTop (mkF m 22 #[sI p0, sI p1, sI p2, sI p3, sJ p4, uS, sI p5, sJ y0, uS, sJ y1, uS, sJ y2, uS, uU, uU, uU, uU, uU, uU, uU, uU, uU, uU, uU, uU, uU, uU, uU, uU, uU, uU, uU, uU, uU, uU, uU, uU, uU, uU, uU, uU, uU, uU, uU, uU, uU, uU, uU, uU, uU, uU, uU, uU, uU, uU] [(.long y3)]))
  have M102 := Fr.app M101 N102
  obtain ⟨jy3, Fy3⟩ : ∃ i : Int, y3.toInt = i := ⟨_, rfl⟩
  rw [Fy3] at by3
  refine OwnGo.pre (fun t k => XT.lstore X102.here hx rfl (hb hby at_22) rfl (l' := #[sI p0, sI p1, sI p2, sI p3, sJ p4, uS, sI p5, sJ y0, uS, sJ y1, uS, sJ y2, uS, sJ y3, uS, uU, uU, uU, uU, uU, uU, uU, uU, uU, uU, uU, uU, uU, uU, uU, uU, uU, uU, uU, uU, uU, uU, uU, uU, uU, uU, uU, uU, uU, uU, uU, uU, uU, uU, uU, uU, uU, uU, uU, uU]) rfl (XT.lload X102.here hx rfl (hb hby at_24) rfl (own_l2i X102.here hx rfl (hb hby at_26) rfl rfl k))) ?_
  show OwnGo _ _ _ _ (T102.setTop (mkF m 27 #[sI p0, sI p1, sI p2, sI p3, sJ p4, uS, sI p5, sJ y0, uS, sJ y1, uS, sJ y2, uS, sJ y3, uS, uU, uU, uU, uU, uU, uU, uU, uU, uU, uU, uU, uU, uU, uU, uU, uU, uU, uU, uU, uU, uU, uU, uU, uU, uU, uU, uU, uU, uU, uU, uU, uU, uU, uU, uU, uU, uU, uU, uU, uU] [(.int p4.toInt32)]))
  obtain ⟨_, _, ⟨T103, L103, k103, n103⟩, -, X103, ⟨Lc103, hQ103, l103, y103, z103⟩, st103⟩ := Jvm.LawKit.callS X102 hx (y := (⟨"com/example/isochron/isochron/dsp/FourierJoinPinLaw", "sext", "(I)J"⟩ : MethodName)) hown (mvT hZ (hw _ (List.mem_of_getElem? (i := 0) rfl))) (mvT hZ (hw _ (List.mem_of_getElem? (i := 1) rfl))) (mvT hZ (hw _ (List.mem_of_getElem? (i := 2) rfl))) (mvT hZ (hw _ (List.mem_of_getElem? (i := 3) rfl))) (by decide) (backOf (W := 0) (rm := ({ frames := 0, cells := 0, slots := 0, locals := 0 } : Room)) (Q := Q_rmS Z p4.toInt32 h0 n0) (rmS l Z a0 hw [] p4.toInt32 h0 n0 Z0 ) hZ (hw _ (List.mem_of_getElem? (i := 3) rfl)) (hw _ (List.mem_of_getElem? (i := 2) rfl)) (by decide) (by decide)) (g := (mkF m 27 #[sI p0, sI p1, sI p2, sI p3, sJ p4, uS, sI p5, sJ y0, uS, sJ y1, uS, sJ y2, uS, sJ y3, uS, uU, uU, uU, uU, uU, uU, uU, uU, uU, uU, uU, uU, uU, uU, uU, uU, uU, uU, uU, uU, uU, uU, uU, uU, uU, uU, uU, uU, uU, uU, uU, uU, uU, uU, uU, uU, uU, uU, uU, uU] [(.int p4.toInt32)])) rfl (by rw [hml]; rfl) (argsL := [(.int p4.toInt32)]) (rest := []) (lenOf pd_rmS rfl) rfl (by show 2 * 0 + _ ≤ _; exact Nat.le_of_eq rfl) (hb hby at_27) (fun _ _ => ⟨rfl, e102, (by decide : 0 + 0 ≤ _), (by decide : 0 + 0 ≤ _)⟩)
  dsimp only [Pt.U, Pt.locs, Pt.cells, Pt.slots] at X103 l103 y103 z103 st103 hQ103
  replace l103 := l103.symm
  replace y103 := y103.symm
  replace z103 := z103.symm
  subst l103 y103 z103
  obtain ⟨y4, rfl, by4, N103, e103⟩ := hQ103
  refine OwnGo.pre (fun t k => st103 t k) ?_
  show OwnGo _ _ _ _ (T103.setTop (mkF m 30 #[sI p0, sI p1, sI p2, sI p3, sJ p4, uS, sI p5, sJ y0, uS, sJ y1, uS, sJ y2, uS, sJ y3, uS, uU, uU, uU, uU, uU, uU, uU, uU, uU, uU, uU, uU, uU, uU, uU, uU, uU, uU, uU, uU, uU, uU, uU, uU, uU, uU, uU, uU, uU, uU, uU, uU, uU, uU, uU, uU, uU, uU, uU, uU] [(.long y4)]))
  have M103 := Fr.app M102 N103
  obtain ⟨jy4, Fy4⟩ : ∃ i : Int, y4.toInt = i := ⟨_, rfl⟩
  rw [Fy4] at by4
  refine OwnGo.pre (fun t k => XT.lstore X103.here hx rfl (hb hby at_30) rfl (l' := #[sI p0, sI p1, sI p2, sI p3, sJ p4, uS, sI p5, sJ y0, uS, sJ y1, uS, sJ y2, uS, sJ y3, uS, sJ y4, uS, uU, uU, uU, uU, uU, uU, uU, uU, uU, uU, uU, uU, uU, uU, uU, uU, uU, uU, uU, uU, uU, uU, uU, uU, uU, uU, uU, uU, uU, uU, uU, uU, uU, uU, uU, uU, uU, uU]) rfl (XT.lload X103.here hx rfl (hb hby at_32) rfl (XS.bipush X103.here hx rfl (hb hby at_34) (own_lushr X103.here hx rfl (hb hby at_36) rfl rfl (own_l2i X103.here hx rfl (hb hby at_37) rfl rfl k))))) ?_
  show OwnGo _ _ _ _ (T103.setTop (mkF m 38 #[sI p0, sI p1, sI p2, sI p3, sJ p4, uS, sI p5, sJ y0, uS, sJ y1, uS, sJ y2, uS, sJ y3, uS, sJ y4, uS, uU, uU, uU, uU, uU, uU, uU, uU, uU, uU, uU, uU, uU, uU, uU, uU, uU, uU, uU, uU, uU, uU, uU, uU, uU, uU, uU, uU, uU, uU, uU, uU, uU, uU, uU, uU, uU, uU] [(.int ((XT.ushrL p4 (32 : Int32)).toInt32))]))
  obtain ⟨_, _, ⟨T104, L104, k104, n104⟩, -, X104, ⟨Lc104, hQ104, l104, y104, z104⟩, st104⟩ := Jvm.LawKit.callS X103 hx (y := (⟨"com/example/isochron/isochron/dsp/FourierJoinPinLaw", "sext", "(I)J"⟩ : MethodName)) hown (mvT hZ (hw _ (List.mem_of_getElem? (i := 0) rfl))) (mvT hZ (hw _ (List.mem_of_getElem? (i := 1) rfl))) (mvT hZ (hw _ (List.mem_of_getElem? (i := 2) rfl))) (mvT hZ (hw _ (List.mem_of_getElem? (i := 3) rfl))) (by decide) (backOf (W := 0) (rm := ({ frames := 0, cells := 0, slots := 0, locals := 0 } : Room)) (Q := Q_rmS Z ((XT.ushrL p4 (32 : Int32)).toInt32) h0 n0) (rmS l Z a0 hw [] ((XT.ushrL p4 (32 : Int32)).toInt32) h0 n0 Z0 ) hZ (hw _ (List.mem_of_getElem? (i := 3) rfl)) (hw _ (List.mem_of_getElem? (i := 2) rfl)) (by decide) (by decide)) (g := (mkF m 38 #[sI p0, sI p1, sI p2, sI p3, sJ p4, uS, sI p5, sJ y0, uS, sJ y1, uS, sJ y2, uS, sJ y3, uS, sJ y4, uS, uU, uU, uU, uU, uU, uU, uU, uU, uU, uU, uU, uU, uU, uU, uU, uU, uU, uU, uU, uU, uU, uU, uU, uU, uU, uU, uU, uU, uU, uU, uU, uU, uU, uU, uU, uU, uU, uU] [(.int ((XT.ushrL p4 (32 : Int32)).toInt32))])) rfl (by rw [hml]; rfl) (argsL := [(.int ((XT.ushrL p4 (32 : Int32)).toInt32))]) (rest := []) (lenOf pd_rmS rfl) rfl (by show 2 * 0 + _ ≤ _; exact Nat.le_of_eq rfl) (hb hby at_38) (fun _ _ => ⟨rfl, e103, (by decide : 0 + 0 ≤ _), (by decide : 0 + 0 ≤ _)⟩)
  dsimp only [Pt.U, Pt.locs, Pt.cells, Pt.slots] at X104 l104 y104 z104 st104 hQ104
  replace l104 := l104.symm
  replace y104 := y104.symm
  replace z104 := z104.symm
  subst l104 y104 z104
  obtain ⟨y5, rfl, by5, N104, e104⟩ := hQ104
  refine OwnGo.pre (fun t k => st104 t k) ?_
  show OwnGo _ _ _ _ (T104.setTop (mkF m 41 #[sI p0, sI p1, sI p2, sI p3, sJ p4, uS, sI p5, sJ y0, uS, sJ y1, uS, sJ y2, uS, sJ y3, uS, sJ y4, uS, uU, uU, uU, uU, uU, uU, uU, uU, uU, uU, uU, uU, uU, uU, uU, uU, uU, uU, uU, uU, uU, uU, uU, uU, uU, uU, uU, uU, uU, uU, uU, uU, uU, uU, uU, uU, uU, uU] [(.long y5)]))
  have M104 := Fr.app M103 N104
  obtain ⟨jy5, Fy5⟩ : ∃ i : Int, y5.toInt = i := ⟨_, rfl⟩
  rw [Fy5] at by5
  obtain ⟨mo, hmo⟩ : ∃ v, p5 &&& (3 : Int32) = v := ⟨_, rfl⟩
  have cmo : mo = 0 ∨ mo = 1 ∨ mo = 2 ∨ mo = 3 := hmo ▸ own_and3 p5
  refine OwnGo.pre (fun t k => XT.lstore X104.here hx rfl (hb hby at_41) rfl (l' := #[sI p0, sI p1, sI p2, sI p3, sJ p4, uS, sI p5, sJ y0, uS, sJ y1, uS, sJ y2, uS, sJ y3, uS, sJ y4, uS, sJ y5, uS, uU, uU, uU, uU, uU, uU, uU, uU, uU, uU, uU, uU, uU, uU, uU, uU, uU, uU, uU, uU, uU, uU, uU, uU, uU, uU, uU, uU, uU, uU, uU, uU, uU, uU, uU, uU]) rfl (XS.iload X104.here hx rfl (hb hby at_43) rfl (XS.iconst X104.here hx rfl (hb hby at_45) (own_iand X104.here hx rfl (hb hby at_46) rfl hmo (XS.istore X104.here hx rfl (hb hby at_47) rfl (l' := #[sI p0, sI p1, sI p2, sI p3, sJ p4, uS, sI p5, sJ y0, uS, sJ y1, uS, sJ y2, uS, sJ y3, uS, sJ y4, uS, sJ y5, uS, sI mo, uU, uU, uU, uU, uU, uU, uU, uU, uU, uU, uU, uU, uU, uU, uU, uU, uU, uU, uU, uU, uU, uU, uU, uU, uU, uU, uU, uU, uU, uU, uU, uU, uU, uU, uU]) rfl (XS.iload X104.here hx rfl (hb hby at_49) rfl (XS.iconst X104.here hx rfl (hb hby at_51) (own_iushr X104.here hx rfl (hb hby at_52) rfl rfl k)))))))) ?_
  show OwnGo _ _ _ _ (T104.setTop (mkF m 53 #[sI p0, sI p1, sI p2, sI p3, sJ p4, uS, sI p5, sJ y0, uS, sJ y1, uS, sJ y2, uS, sJ y3, uS, sJ y4, uS, sJ y5, uS, sI mo, uU, uU, uU, uU, uU, uU, uU, uU, uU, uU, uU, uU, uU, uU, uU, uU, uU, uU, uU, uU, uU, uU, uU, uU, uU, uU, uU, uU, uU, uU, uU, uU, uU, uU, uU] [(.int (XT.ushr p5 (2 : Int32)))]))
  obtain ⟨ii, hii⟩ : ∃ v, (XT.ushr p5 (2 : Int32)) &&& (1 : Int32) = v := ⟨_, rfl⟩
  have cii : ii = 0 ∨ ii = 1 := hii ▸ and_one _
  refine OwnGo.pre (fun t k => XS.iconst X104.here hx rfl (hb hby at_53) (own_iand X104.here hx rfl (hb hby at_54) rfl hii (XS.istore X104.here hx rfl (hb hby at_55) rfl (l' := #[sI p0, sI p1, sI p2, sI p3, sJ p4, uS, sI p5, sJ y0, uS, sJ y1, uS, sJ y2, uS, sJ y3, uS, sJ y4, uS, sJ y5, uS, sI mo, sI ii, uU, uU, uU, uU, uU, uU, uU, uU, uU, uU, uU, uU, uU, uU, uU, uU, uU, uU, uU, uU, uU, uU, uU, uU, uU, uU, uU, uU, uU, uU, uU, uU, uU, uU]) rfl (XS.bipush X104.here hx rfl (hb hby at_57) k)))) ?_
  show OwnGo _ _ _ _ (T104.setTop (mkF m 59 #[sI p0, sI p1, sI p2, sI p3, sJ p4, uS, sI p5, sJ y0, uS, sJ y1, uS, sJ y2, uS, sJ y3, uS, sJ y4, uS, sJ y5, uS, sI mo, sI ii, uU, uU, uU, uU, uU, uU, uU, uU, uU, uU, uU, uU, uU, uU, uU, uU, uU, uU, uU, uU, uU, uU, uU, uU, uU, uU, uU, uU, uU, uU, uU, uU, uU, uU] [(.int (8 : Int32))]))
  obtain ⟨T105, h105, X105, e105, E105, A105, st105⟩ := own_newD X104 hx hZ (hw _ (List.mem_of_getElem? (i := 4) rfl)) e104 (g := (mkF m 59 #[sI p0, sI p1, sI p2, sI p3, sJ p4, uS, sI p5, sJ y0, uS, sJ y1, uS, sJ y2, uS, sJ y3, uS, sJ y4, uS, sJ y5, uS, sI mo, sI ii, uU, uU, uU, uU, uU, uU, uU, uU, uU, uU, uU, uU, uU, uU, uU, uU, uU, uU, uU, uU, uU, uU, uU, uU, uU, uU, uU, uU, uU, uU, uU, uU, uU, uU] [(.int (8 : Int32))])) rfl (hb hby at_59) rfl (by decide) (n := 8) (by decide) (by decide) (by decide) (by decide)
  obtain ⟨a105, g105⟩ : ∃ z, z = h0.size := ⟨_, rfl⟩
  rw [← g105] at A105 st105
  have G105 : n0 ≤ a105 := Nat.le_trans Z0 (Nat.le_of_eq g105.symm)
  have Z105 : n0 ≤ h105.size := Nat.le_trans Z0 E105.1
  have A105n : OwnDA Z h105 a105 [0, 0, 0, 0, 0, 0, 0, 0] := A105
  refine OwnGo.pre (fun t k => st105 t k) ?_
  show OwnGo _ _ _ _ (T105.setTop (mkF m 61 #[sI p0, sI p1, sI p2, sI p3, sJ p4, uS, sI p5, sJ y0, uS, sJ y1, uS, sJ y2, uS, sJ y3, uS, sJ y4, uS, sJ y5, uS, sI mo, sI ii, uU, uU, uU, uU, uU, uU, uU, uU, uU, uU, uU, uU, uU, uU, uU, uU, uU, uU, uU, uU, uU, uU, uU, uU, uU, uU, uU, uU, uU, uU, uU, uU, uU, uU] [(.ref a105)]))
  refine OwnGo.pre (fun t k => XS.dup X105.here hx rfl (hb hby at_61) rfl rfl (XS.iconst X105.here hx rfl (hb hby at_62) (own_ldcD X105 hx hown (mvT hZ (hw _ (List.mem_of_getElem? (i := 5) rfl))) rfl (hb hby at_63) k))) ?_
  show OwnGo _ _ _ _ (T105.setTop (mkF m 66 #[sI p0, sI p1, sI p2, sI p3, sJ p4, uS, sI p5, sJ y0, uS, sJ y1, uS, sJ y2, uS, sJ y3, uS, sJ y4, uS, sJ y5, uS, sI mo, sI ii, uU, uU, uU, uU, uU, uU, uU, uU, uU, uU, uU, uU, uU, uU, uU, uU, uU, uU, uU, uU, uU, uU, uU, uU, uU, uU, uU, uU, uU, uU, uU, uU, uU, uU] [(.double (4602678819172646912 : UInt64)), (.int (0 : Int32)), (.ref a105), (.ref a105)]))
  obtain ⟨T106, h106, X106, e106, W106, A106, st106⟩ := own_daS X105 hx hZ e105 A105n (by decide) (i := 0) (by decide) (by show 0 < 8; decide) (g := (mkF m 66 #[sI p0, sI p1, sI p2, sI p3, sJ p4, uS, sI p5, sJ y0, uS, sJ y1, uS, sJ y2, uS, sJ y3, uS, sJ y4, uS, sJ y5, uS, sI mo, sI ii, uU, uU, uU, uU, uU, uU, uU, uU, uU, uU, uU, uU, uU, uU, uU, uU, uU, uU, uU, uU, uU, uU, uU, uU, uU, uU, uU, uU, uU, uU, uU, uU, uU, uU] [(.double (4602678819172646912 : UInt64)), (.int (0 : Int32)), (.ref a105), (.ref a105)])) rfl rfl (hb hby at_66)
  have A106n : OwnDA Z h106 a105 [(4602678819172646912 : UInt64), 0, 0, 0, 0, 0, 0, 0] := A106
  have N106 := Fr.snoc X106 M104 G105
  have Z106 : n0 ≤ h106.size := by rw [W106.size]; exact Z105
  refine OwnGo.pre (fun t k => st106 t k) ?_
  show OwnGo _ _ _ _ (T106.setTop (mkF m 67 #[sI p0, sI p1, sI p2, sI p3, sJ p4, uS, sI p5, sJ y0, uS, sJ y1, uS, sJ y2, uS, sJ y3, uS, sJ y4, uS, sJ y5, uS, sI mo, sI ii, uU, uU, uU, uU, uU, uU, uU, uU, uU, uU, uU, uU, uU, uU, uU, uU, uU, uU, uU, uU, uU, uU, uU, uU, uU, uU, uU, uU, uU, uU, uU, uU, uU, uU] [(.ref a105)]))
  refine OwnGo.pre (fun t k => XS.dup X106.here hx rfl (hb hby at_67) rfl rfl (XS.iconst X106.here hx rfl (hb hby at_68) (own_ldcD X106 hx hown (mvT hZ (hw _ (List.mem_of_getElem? (i := 5) rfl))) rfl (hb hby at_69) k))) ?_
  show OwnGo _ _ _ _ (T106.setTop (mkF m 72 #[sI p0, sI p1, sI p2, sI p3, sJ p4, uS, sI p5, sJ y0, uS, sJ y1, uS, sJ y2, uS, sJ y3, uS, sJ y4, uS, sJ y5, uS, sI mo, sI ii, uU, uU, uU, uU, uU, uU, uU, uU, uU, uU, uU, uU, uU, uU, uU, uU, uU, uU, uU, uU, uU, uU, uU, uU, uU, uU, uU, uU, uU, uU, uU, uU, uU, uU] [(.double (4602678819172646912 : UInt64)), (.int (1 : Int32)), (.ref a105), (.ref a105)]))
  obtain ⟨T107, h107, X107, e107, W107, A107, st107⟩ := own_daS X106 hx hZ e106 A106n (by decide) (i := 1) (by decide) (by show 1 < 8; decide) (g := (mkF m 72 #[sI p0, sI p1, sI p2, sI p3, sJ p4, uS, sI p5, sJ y0, uS, sJ y1, uS, sJ y2, uS, sJ y3, uS, sJ y4, uS, sJ y5, uS, sI mo, sI ii, uU, uU, uU, uU, uU, uU, uU, uU, uU, uU, uU, uU, uU, uU, uU, uU, uU, uU, uU, uU, uU, uU, uU, uU, uU, uU, uU, uU, uU, uU, uU, uU, uU, uU] [(.double (4602678819172646912 : UInt64)), (.int (1 : Int32)), (.ref a105), (.ref a105)])) rfl rfl (hb hby at_72)
  have A107n : OwnDA Z h107 a105 [(4602678819172646912 : UInt64), (4602678819172646912 : UInt64), 0, 0, 0, 0, 0, 0] := A107
  have N107 := Fr.snoc X107 N106 G105
  have Z107 : n0 ≤ h107.size := by rw [W107.size]; exact Z106
  refine OwnGo.pre (fun t k => st107 t k) ?_
  show OwnGo _ _ _ _ (T107.setTop (mkF m 73 #[sI p0, sI p1, sI p2, sI p3, sJ p4, uS, sI p5, sJ y0, uS, sJ y1, uS, sJ y2, uS, sJ y3, uS, sJ y4, uS, sJ y5, uS, sI mo, sI ii, uU, uU, uU, uU, uU, uU, uU, uU, uU, uU, uU, uU, uU, uU, uU, uU, uU, uU, uU, uU, uU, uU, uU, uU, uU, uU, uU, uU, uU, uU, uU, uU, uU, uU] [(.ref a105)]))
  refine OwnGo.pre (fun t k => XS.dup X107.here hx rfl (hb hby at_73) rfl rfl (XS.iconst X107.here hx rfl (hb hby at_74) (own_ldcD X107 hx hown (mvT hZ (hw _ (List.mem_of_getElem? (i := 5) rfl))) rfl (hb hby at_75) k))) ?_
  show OwnGo _ _ _ _ (T107.setTop (mkF m 78 #[sI p0, sI p1, sI p2, sI p3, sJ p4, uS, sI p5, sJ y0, uS, sJ y1, uS, sJ y2, uS, sJ y3, uS, sJ y4, uS, sJ y5, uS, sI mo, sI ii, uU, uU, uU, uU, uU, uU, uU, uU, uU, uU, uU, uU, uU, uU, uU, uU, uU, uU, uU, uU, uU, uU, uU, uU, uU, uU, uU, uU, uU, uU, uU, uU, uU, uU] [(.double (4602678819172646912 : UInt64)), (.int (2 : Int32)), (.ref a105), (.ref a105)]))
  obtain ⟨T108, h108, X108, e108, W108, A108, st108⟩ := own_daS X107 hx hZ e107 A107n (by decide) (i := 2) (by decide) (by show 2 < 8; decide) (g := (mkF m 78 #[sI p0, sI p1, sI p2, sI p3, sJ p4, uS, sI p5, sJ y0, uS, sJ y1, uS, sJ y2, uS, sJ y3, uS, sJ y4, uS, sJ y5, uS, sI mo, sI ii, uU, uU, uU, uU, uU, uU, uU, uU, uU, uU, uU, uU, uU, uU, uU, uU, uU, uU, uU, uU, uU, uU, uU, uU, uU, uU, uU, uU, uU, uU, uU, uU, uU, uU] [(.double (4602678819172646912 : UInt64)), (.int (2 : Int32)), (.ref a105), (.ref a105)])) rfl rfl (hb hby at_78)
  have A108n : OwnDA Z h108 a105 [(4602678819172646912 : UInt64), (4602678819172646912 : UInt64), (4602678819172646912 : UInt64), 0, 0, 0, 0, 0] := A108
  have N108 := Fr.snoc X108 N107 G105
  have Z108 : n0 ≤ h108.size := by rw [W108.size]; exact Z107
  refine OwnGo.pre (fun t k => st108 t k) ?_
  show OwnGo _ _ _ _ (T108.setTop (mkF m 79 #[sI p0, sI p1, sI p2, sI p3, sJ p4, uS, sI p5, sJ y0, uS, sJ y1, uS, sJ y2, uS, sJ y3, uS, sJ y4, uS, sJ y5, uS, sI mo, sI ii, uU, uU, uU, uU, uU, uU, uU, uU, uU, uU, uU, uU, uU, uU, uU, uU, uU, uU, uU, uU, uU, uU, uU, uU, uU, uU, uU, uU, uU, uU, uU, uU, uU, uU] [(.ref a105)]))
  refine OwnGo.pre (fun t k => XS.dup X108.here hx rfl (hb hby at_79) rfl rfl (XS.iconst X108.here hx rfl (hb hby at_80) (own_ldcD X108 hx hown (mvT hZ (hw _ (List.mem_of_getElem? (i := 5) rfl))) rfl (hb hby at_81) k))) ?_
  show OwnGo _ _ _ _ (T108.setTop (mkF m 84 #[sI p0, sI p1, sI p2, sI p3, sJ p4, uS, sI p5, sJ y0, uS, sJ y1, uS, sJ y2, uS, sJ y3, uS, sJ y4, uS, sJ y5, uS, sI mo, sI ii, uU, uU, uU, uU, uU, uU, uU, uU, uU, uU, uU, uU, uU, uU, uU, uU, uU, uU, uU, uU, uU, uU, uU, uU, uU, uU, uU, uU, uU, uU, uU, uU, uU, uU] [(.double (4602678819172646912 : UInt64)), (.int (3 : Int32)), (.ref a105), (.ref a105)]))
  obtain ⟨T109, h109, X109, e109, W109, A109, st109⟩ := own_daS X108 hx hZ e108 A108n (by decide) (i := 3) (by decide) (by show 3 < 8; decide) (g := (mkF m 84 #[sI p0, sI p1, sI p2, sI p3, sJ p4, uS, sI p5, sJ y0, uS, sJ y1, uS, sJ y2, uS, sJ y3, uS, sJ y4, uS, sJ y5, uS, sI mo, sI ii, uU, uU, uU, uU, uU, uU, uU, uU, uU, uU, uU, uU, uU, uU, uU, uU, uU, uU, uU, uU, uU, uU, uU, uU, uU, uU, uU, uU, uU, uU, uU, uU, uU, uU] [(.double (4602678819172646912 : UInt64)), (.int (3 : Int32)), (.ref a105), (.ref a105)])) rfl rfl (hb hby at_84)
  have A109n : OwnDA Z h109 a105 [(4602678819172646912 : UInt64), (4602678819172646912 : UInt64), (4602678819172646912 : UInt64), (4602678819172646912 : UInt64), 0, 0, 0, 0] := A109
  have N109 := Fr.snoc X109 N108 G105
  have Z109 : n0 ≤ h109.size := by rw [W109.size]; exact Z108
  refine OwnGo.pre (fun t k => st109 t k) ?_
  show OwnGo _ _ _ _ (T109.setTop (mkF m 85 #[sI p0, sI p1, sI p2, sI p3, sJ p4, uS, sI p5, sJ y0, uS, sJ y1, uS, sJ y2, uS, sJ y3, uS, sJ y4, uS, sJ y5, uS, sI mo, sI ii, uU, uU, uU, uU, uU, uU, uU, uU, uU, uU, uU, uU, uU, uU, uU, uU, uU, uU, uU, uU, uU, uU, uU, uU, uU, uU, uU, uU, uU, uU, uU, uU, uU, uU] [(.ref a105)]))
  refine OwnGo.pre (fun t k => XS.dup X109.here hx rfl (hb hby at_85) rfl rfl (XS.iconst X109.here hx rfl (hb hby at_86) (own_ldcD X109 hx hown (mvT hZ (hw _ (List.mem_of_getElem? (i := 5) rfl))) rfl (hb hby at_87) k))) ?_
  show OwnGo _ _ _ _ (T109.setTop (mkF m 90 #[sI p0, sI p1, sI p2, sI p3, sJ p4, uS, sI p5, sJ y0, uS, sJ y1, uS, sJ y2, uS, sJ y3, uS, sJ y4, uS, sJ y5, uS, sI mo, sI ii, uU, uU, uU, uU, uU, uU, uU, uU, uU, uU, uU, uU, uU, uU, uU, uU, uU, uU, uU, uU, uU, uU, uU, uU, uU, uU, uU, uU, uU, uU, uU, uU, uU, uU] [(.double (4602678819172646912 : UInt64)), (.int (4 : Int32)), (.ref a105), (.ref a105)]))
  obtain ⟨T110, h110, X110, e110, W110, A110, st110⟩ := own_daS X109 hx hZ e109 A109n (by decide) (i := 4) (by decide) (by show 4 < 8; decide) (g := (mkF m 90 #[sI p0, sI p1, sI p2, sI p3, sJ p4, uS, sI p5, sJ y0, uS, sJ y1, uS, sJ y2, uS, sJ y3, uS, sJ y4, uS, sJ y5, uS, sI mo, sI ii, uU, uU, uU, uU, uU, uU, uU, uU, uU, uU, uU, uU, uU, uU, uU, uU, uU, uU, uU, uU, uU, uU, uU, uU, uU, uU, uU, uU, uU, uU, uU, uU, uU, uU] [(.double (4602678819172646912 : UInt64)), (.int (4 : Int32)), (.ref a105), (.ref a105)])) rfl rfl (hb hby at_90)
  have A110n : OwnDA Z h110 a105 [(4602678819172646912 : UInt64), (4602678819172646912 : UInt64), (4602678819172646912 : UInt64), (4602678819172646912 : UInt64), (4602678819172646912 : UInt64), 0, 0, 0] := A110
  have N110 := Fr.snoc X110 N109 G105
  have Z110 : n0 ≤ h110.size := by rw [W110.size]; exact Z109
  refine OwnGo.pre (fun t k => st110 t k) ?_
  show OwnGo _ _ _ _ (T110.setTop (mkF m 91 #[sI p0, sI p1, sI p2, sI p3, sJ p4, uS, sI p5, sJ y0, uS, sJ y1, uS, sJ y2, uS, sJ y3, uS, sJ y4, uS, sJ y5, uS, sI mo, sI ii, uU, uU, uU, uU, uU, uU, uU, uU, uU, uU, uU, uU, uU, uU, uU, uU, uU, uU, uU, uU, uU, uU, uU, uU, uU, uU, uU, uU, uU, uU, uU, uU, uU, uU] [(.ref a105)]))
  refine OwnGo.pre (fun t k => XS.dup X110.here hx rfl (hb hby at_91) rfl rfl (XS.iconst X110.here hx rfl (hb hby at_92) (own_ldcD X110 hx hown (mvT hZ (hw _ (List.mem_of_getElem? (i := 5) rfl))) rfl (hb hby at_93) k))) ?_
  show OwnGo _ _ _ _ (T110.setTop (mkF m 96 #[sI p0, sI p1, sI p2, sI p3, sJ p4, uS, sI p5, sJ y0, uS, sJ y1, uS, sJ y2, uS, sJ y3, uS, sJ y4, uS, sJ y5, uS, sI mo, sI ii, uU, uU, uU, uU, uU, uU, uU, uU, uU, uU, uU, uU, uU, uU, uU, uU, uU, uU, uU, uU, uU, uU, uU, uU, uU, uU, uU, uU, uU, uU, uU, uU, uU, uU] [(.double (4602678819172646912 : UInt64)), (.int (5 : Int32)), (.ref a105), (.ref a105)]))
  obtain ⟨T111, h111, X111, e111, W111, A111, st111⟩ := own_daS X110 hx hZ e110 A110n (by decide) (i := 5) (by decide) (by show 5 < 8; decide) (g := (mkF m 96 #[sI p0, sI p1, sI p2, sI p3, sJ p4, uS, sI p5, sJ y0, uS, sJ y1, uS, sJ y2, uS, sJ y3, uS, sJ y4, uS, sJ y5, uS, sI mo, sI ii, uU, uU, uU, uU, uU, uU, uU, uU, uU, uU, uU, uU, uU, uU, uU, uU, uU, uU, uU, uU, uU, uU, uU, uU, uU, uU, uU, uU, uU, uU, uU, uU, uU, uU] [(.double (4602678819172646912 : UInt64)), (.int (5 : Int32)), (.ref a105), (.ref a105)])) rfl rfl (hb hby at_96)
  have A111n : OwnDA Z h111 a105 [(4602678819172646912 : UInt64), (4602678819172646912 : UInt64), (4602678819172646912 : UInt64), (4602678819172646912 : UInt64), (4602678819172646912 : UInt64), (4602678819172646912 : UInt64), 0, 0] := A111
  have N111 := Fr.snoc X111 N110 G105
  have Z111 : n0 ≤ h111.size := by rw [W111.size]; exact Z110
  refine OwnGo.pre (fun t k => st111 t k) ?_
  show OwnGo _ _ _ _ (T111.setTop (mkF m 97 #[sI p0, sI p1, sI p2, sI p3, sJ p4, uS, sI p5, sJ y0, uS, sJ y1, uS, sJ y2, uS, sJ y3, uS, sJ y4, uS, sJ y5, uS, sI mo, sI ii, uU, uU, uU, uU, uU, uU, uU, uU, uU, uU, uU, uU, uU, uU, uU, uU, uU, uU, uU, uU, uU, uU, uU, uU, uU, uU, uU, uU, uU, uU, uU, uU, uU, uU] [(.ref a105)]))
  refine OwnGo.pre (fun t k => XS.dup X111.here hx rfl (hb hby at_97) rfl rfl (XS.bipush X111.here hx rfl (hb hby at_98) (own_ldcD X111 hx hown (mvT hZ (hw _ (List.mem_of_getElem? (i := 5) rfl))) rfl (hb hby at_100) k))) ?_
  show OwnGo _ _ _ _ (T111.setTop (mkF m 103 #[sI p0, sI p1, sI p2, sI p3, sJ p4, uS, sI p5, sJ y0, uS, sJ y1, uS, sJ y2, uS, sJ y3, uS, sJ y4, uS, sJ y5, uS, sI mo, sI ii, uU, uU, uU, uU, uU, uU, uU, uU, uU, uU, uU, uU, uU, uU, uU, uU, uU, uU, uU, uU, uU, uU, uU, uU, uU, uU, uU, uU, uU, uU, uU, uU, uU, uU] [(.double (4602678819172646912 : UInt64)), (.int (6 : Int32)), (.ref a105), (.ref a105)]))
  obtain ⟨T112, h112, X112, e112, W112, A112, st112⟩ := own_daS X111 hx hZ e111 A111n (by decide) (i := 6) (by decide) (by show 6 < 8; decide) (g := (mkF m 103 #[sI p0, sI p1, sI p2, sI p3, sJ p4, uS, sI p5, sJ y0, uS, sJ y1, uS, sJ y2, uS, sJ y3, uS, sJ y4, uS, sJ y5, uS, sI mo, sI ii, uU, uU, uU, uU, uU, uU, uU, uU, uU, uU, uU, uU, uU, uU, uU, uU, uU, uU, uU, uU, uU, uU, uU, uU, uU, uU, uU, uU, uU, uU, uU, uU, uU, uU] [(.double (4602678819172646912 : UInt64)), (.int (6 : Int32)), (.ref a105), (.ref a105)])) rfl rfl (hb hby at_103)
  have A112n : OwnDA Z h112 a105 [(4602678819172646912 : UInt64), (4602678819172646912 : UInt64), (4602678819172646912 : UInt64), (4602678819172646912 : UInt64), (4602678819172646912 : UInt64), (4602678819172646912 : UInt64), (4602678819172646912 : UInt64), 0] := A112
  have N112 := Fr.snoc X112 N111 G105
  have Z112 : n0 ≤ h112.size := by rw [W112.size]; exact Z111
  refine OwnGo.pre (fun t k => st112 t k) ?_
  show OwnGo _ _ _ _ (T112.setTop (mkF m 104 #[sI p0, sI p1, sI p2, sI p3, sJ p4, uS, sI p5, sJ y0, uS, sJ y1, uS, sJ y2, uS, sJ y3, uS, sJ y4, uS, sJ y5, uS, sI mo, sI ii, uU, uU, uU, uU, uU, uU, uU, uU, uU, uU, uU, uU, uU, uU, uU, uU, uU, uU, uU, uU, uU, uU, uU, uU, uU, uU, uU, uU, uU, uU, uU, uU, uU, uU] [(.ref a105)]))
  refine OwnGo.pre (fun t k => XS.dup X112.here hx rfl (hb hby at_104) rfl rfl (XS.bipush X112.here hx rfl (hb hby at_105) (own_ldcD X112 hx hown (mvT hZ (hw _ (List.mem_of_getElem? (i := 5) rfl))) rfl (hb hby at_107) k))) ?_
  show OwnGo _ _ _ _ (T112.setTop (mkF m 110 #[sI p0, sI p1, sI p2, sI p3, sJ p4, uS, sI p5, sJ y0, uS, sJ y1, uS, sJ y2, uS, sJ y3, uS, sJ y4, uS, sJ y5, uS, sI mo, sI ii, uU, uU, uU, uU, uU, uU, uU, uU, uU, uU, uU, uU, uU, uU, uU, uU, uU, uU, uU, uU, uU, uU, uU, uU, uU, uU, uU, uU, uU, uU, uU, uU, uU, uU] [(.double (4602678819172646912 : UInt64)), (.int (7 : Int32)), (.ref a105), (.ref a105)]))
  obtain ⟨T113, h113, X113, e113, W113, A113, st113⟩ := own_daS X112 hx hZ e112 A112n (by decide) (i := 7) (by decide) (by show 7 < 8; decide) (g := (mkF m 110 #[sI p0, sI p1, sI p2, sI p3, sJ p4, uS, sI p5, sJ y0, uS, sJ y1, uS, sJ y2, uS, sJ y3, uS, sJ y4, uS, sJ y5, uS, sI mo, sI ii, uU, uU, uU, uU, uU, uU, uU, uU, uU, uU, uU, uU, uU, uU, uU, uU, uU, uU, uU, uU, uU, uU, uU, uU, uU, uU, uU, uU, uU, uU, uU, uU, uU, uU] [(.double (4602678819172646912 : UInt64)), (.int (7 : Int32)), (.ref a105), (.ref a105)])) rfl rfl (hb hby at_110)
  have A113n : OwnDA Z h113 a105 [(4602678819172646912 : UInt64), (4602678819172646912 : UInt64), (4602678819172646912 : UInt64), (4602678819172646912 : UInt64), (4602678819172646912 : UInt64), (4602678819172646912 : UInt64), (4602678819172646912 : UInt64), (4602678819172646912 : UInt64)] := A113
  have N113 := Fr.snoc X113 N112 G105
  have Z113 : n0 ≤ h113.size := by rw [W113.size]; exact Z112
  refine OwnGo.pre (fun t k => st113 t k) ?_
  show OwnGo _ _ _ _ (T113.setTop (mkF m 111 #[sI p0, sI p1, sI p2, sI p3, sJ p4, uS, sI p5, sJ y0, uS, sJ y1, uS, sJ y2, uS, sJ y3, uS, sJ y4, uS, sJ y5, uS, sI mo, sI ii, uU, uU, uU, uU, uU, uU, uU, uU, uU, uU, uU, uU, uU, uU, uU, uU, uU, uU, uU, uU, uU, uU, uU, uU, uU, uU, uU, uU, uU, uU, uU, uU, uU, uU] [(.ref a105)]))
  refine OwnGo.pre (fun t k => XS.astore X113.here hx rfl (hb hby at_111) rfl rfl (l' := #[sI p0, sI p1, sI p2, sI p3, sJ p4, uS, sI p5, sJ y0, uS, sJ y1, uS, sJ y2, uS, sJ y3, uS, sJ y4, uS, sJ y5, uS, sI mo, sI ii, sR a105, uU, uU, uU, uU, uU, uU, uU, uU, uU, uU, uU, uU, uU, uU, uU, uU, uU, uU, uU, uU, uU, uU, uU, uU, uU, uU, uU, uU, uU, uU, uU, uU, uU]) rfl (XS.iconst X113.here hx rfl (hb hby at_113) k)) ?_
  show OwnGo _ _ _ _ (T113.setTop (mkF m 114 #[sI p0, sI p1, sI p2, sI p3, sJ p4, uS, sI p5, sJ y0, uS, sJ y1, uS, sJ y2, uS, sJ y3, uS, sJ y4, uS, sJ y5, uS, sI mo, sI ii, sR a105, uU, uU, uU, uU, uU, uU, uU, uU, uU, uU, uU, uU, uU, uU, uU, uU, uU, uU, uU, uU, uU, uU, uU, uU, uU, uU, uU, uU, uU, uU, uU, uU, uU] [(.int (2 : Int32))]))
  obtain ⟨T114, h114, X114, e114, E114, A114, st114⟩ := own_newD X113 hx hZ (hw _ (List.mem_of_getElem? (i := 4) rfl)) e113 (g := (mkF m 114 #[sI p0, sI p1, sI p2, sI p3, sJ p4, uS, sI p5, sJ y0, uS, sJ y1, uS, sJ y2, uS, sJ y3, uS, sJ y4, uS, sJ y5, uS, sI mo, sI ii, sR a105, uU, uU, uU, uU, uU, uU, uU, uU, uU, uU, uU, uU, uU, uU, uU, uU, uU, uU, uU, uU, uU, uU, uU, uU, uU, uU, uU, uU, uU, uU, uU, uU, uU] [(.int (2 : Int32))])) rfl (hb hby at_114) rfl (by decide) (n := 2) (by decide) (by decide) (by decide) (by decide)
  obtain ⟨a114, g114⟩ : ∃ z, z = h113.size := ⟨_, rfl⟩
  rw [← g114] at A114 st114
  have G114 : n0 ≤ a114 := Nat.le_trans Z113 (Nat.le_of_eq g114.symm)
  have Z114 : n0 ≤ h114.size := Nat.le_trans Z113 E114.1
  have A114n : OwnDA Z h114 a114 [0, 0] := A114
  have nea105_114 : a105 ≠ a114 := (Nat.ne_of_lt (Nat.lt_of_lt_of_le A113n.lt (Nat.le_of_eq g114.symm)))
  have A114_a105 := A113n.ex E114
  refine OwnGo.pre (fun t k => st114 t k) ?_
  show OwnGo _ _ _ _ (T114.setTop (mkF m 116 #[sI p0, sI p1, sI p2, sI p3, sJ p4, uS, sI p5, sJ y0, uS, sJ y1, uS, sJ y2, uS, sJ y3, uS, sJ y4, uS, sJ y5, uS, sI mo, sI ii, sR a105, uU, uU, uU, uU, uU, uU, uU, uU, uU, uU, uU, uU, uU, uU, uU, uU, uU, uU, uU, uU, uU, uU, uU, uU, uU, uU, uU, uU, uU, uU, uU, uU, uU] [(.ref a114)]))
  refine OwnGo.pre (fun t k => XS.dup X114.here hx rfl (hb hby at_116) rfl rfl (XS.iconst X114.here hx rfl (hb hby at_117) (own_ldcD X114 hx hown (mvT hZ (hw _ (List.mem_of_getElem? (i := 5) rfl))) rfl (hb hby at_118) k))) ?_
  show OwnGo _ _ _ _ (T114.setTop (mkF m 121 #[sI p0, sI p1, sI p2, sI p3, sJ p4, uS, sI p5, sJ y0, uS, sJ y1, uS, sJ y2, uS, sJ y3, uS, sJ y4, uS, sJ y5, uS, sI mo, sI ii, sR a105, uU, uU, uU, uU, uU, uU, uU, uU, uU, uU, uU, uU, uU, uU, uU, uU, uU, uU, uU, uU, uU, uU, uU, uU, uU, uU, uU, uU, uU, uU, uU, uU, uU] [(.double (4602678819172646912 : UInt64)), (.int (0 : Int32)), (.ref a114), (.ref a114)]))
  obtain ⟨T115, h115, X115, e115, W115, A115, st115⟩ := own_daS X114 hx hZ e114 A114n (by decide) (i := 0) (by decide) (by show 0 < 2; decide) (g := (mkF m 121 #[sI p0, sI p1, sI p2, sI p3, sJ p4, uS, sI p5, sJ y0, uS, sJ y1, uS, sJ y2, uS, sJ y3, uS, sJ y4, uS, sJ y5, uS, sI mo, sI ii, sR a105, uU, uU, uU, uU, uU, uU, uU, uU, uU, uU, uU, uU, uU, uU, uU, uU, uU, uU, uU, uU, uU, uU, uU, uU, uU, uU, uU, uU, uU, uU, uU, uU, uU] [(.double (4602678819172646912 : UInt64)), (.int (0 : Int32)), (.ref a114), (.ref a114)])) rfl rfl (hb hby at_121)
  have A115n : OwnDA Z h115 a114 [(4602678819172646912 : UInt64), 0] := A115
  have A115_a105 := A114_a105.ot W115 nea105_114
  have N115 := Fr.snoc X115 N113 G114
  have Z115 : n0 ≤ h115.size := by rw [W115.size]; exact Z114
  refine OwnGo.pre (fun t k => st115 t k) ?_
  show OwnGo _ _ _ _ (T115.setTop (mkF m 122 #[sI p0, sI p1, sI p2, sI p3, sJ p4, uS, sI p5, sJ y0, uS, sJ y1, uS, sJ y2, uS, sJ y3, uS, sJ y4, uS, sJ y5, uS, sI mo, sI ii, sR a105, uU, uU, uU, uU, uU, uU, uU, uU, uU, uU, uU, uU, uU, uU, uU, uU, uU, uU, uU, uU, uU, uU, uU, uU, uU, uU, uU, uU, uU, uU, uU, uU, uU] [(.ref a114)]))
  refine OwnGo.pre (fun t k => XS.dup X115.here hx rfl (hb hby at_122) rfl rfl (XS.iconst X115.here hx rfl (hb hby at_123) (own_ldcD X115 hx hown (mvT hZ (hw _ (List.mem_of_getElem? (i := 5) rfl))) rfl (hb hby at_124) k))) ?_
  show OwnGo _ _ _ _ (T115.setTop (mkF m 127 #[sI p0, sI p1, sI p2, sI p3, sJ p4, uS, sI p5, sJ y0, uS, sJ y1, uS, sJ y2, uS, sJ y3, uS, sJ y4, uS, sJ y5, uS, sI mo, sI ii, sR a105, uU, uU, uU, uU, uU, uU, uU, uU, uU, uU, uU, uU, uU, uU, uU, uU, uU, uU, uU, uU, uU, uU, uU, uU, uU, uU, uU, uU, uU, uU, uU, uU, uU] [(.double (4602678819172646912 : UInt64)), (.int (1 : Int32)), (.ref a114), (.ref a114)]))
  obtain ⟨T116, h116, X116, e116, W116, A116, st116⟩ := own_daS X115 hx hZ e115 A115n (by decide) (i := 1) (by decide) (by show 1 < 2; decide) (g := (mkF m 127 #[sI p0, sI p1, sI p2, sI p3, sJ p4, uS, sI p5, sJ y0, uS, sJ y1, uS, sJ y2, uS, sJ y3, uS, sJ y4, uS, sJ y5, uS, sI mo, sI ii, sR a105, uU, uU, uU, uU, uU, uU, uU, uU, uU, uU, uU, uU, uU, uU, uU, uU, uU, uU, uU, uU, uU, uU, uU, uU, uU, uU, uU, uU, uU, uU, uU, uU, uU] [(.double (4602678819172646912 : UInt64)), (.int (1 : Int32)), (.ref a114), (.ref a114)])) rfl rfl (hb hby at_127)
  have A116n : OwnDA Z h116 a114 [(4602678819172646912 : UInt64), (4602678819172646912 : UInt64)] := A116
  have A116_a105 := A115_a105.ot W116 nea105_114
  have N116 := Fr.snoc X116 N115 G114
  have Z116 : n0 ≤ h116.size := by rw [W116.size]; exact Z115
  refine OwnGo.pre (fun t k => st116 t k) ?_
  show OwnGo _ _ _ _ (T116.setTop (mkF m 128 #[sI p0, sI p1, sI p2, sI p3, sJ p4, uS, sI p5, sJ y0, uS, sJ y1, uS, sJ y2, uS, sJ y3, uS, sJ y4, uS, sJ y5, uS, sI mo, sI ii, sR a105, uU, uU, uU, uU, uU, uU, uU, uU, uU, uU, uU, uU, uU, uU, uU, uU, uU, uU, uU, uU, uU, uU, uU, uU, uU, uU, uU, uU, uU, uU, uU, uU, uU] [(.ref a114)]))
  refine OwnGo.pre (fun t k => XS.astore X116.here hx rfl (hb hby at_128) rfl rfl (l' := #[sI p0, sI p1, sI p2, sI p3, sJ p4, uS, sI p5, sJ y0, uS, sJ y1, uS, sJ y2, uS, sJ y3, uS, sJ y4, uS, sJ y5, uS, sI mo, sI ii, sR a105, sR a114, uU, uU, uU, uU, uU, uU, uU, uU, uU, uU, uU, uU, uU, uU, uU, uU, uU, uU, uU, uU, uU, uU, uU, uU, uU, uU, uU, uU, uU, uU, uU, uU]) rfl (XS.iconst X116.here hx rfl (hb hby at_130) k)) ?_
  show OwnGo _ _ _ _ (T116.setTop (mkF m 131 #[sI p0, sI p1, sI p2, sI p3, sJ p4, uS, sI p5, sJ y0, uS, sJ y1, uS, sJ y2, uS, sJ y3, uS, sJ y4, uS, sJ y5, uS, sI mo, sI ii, sR a105, sR a114, uU, uU, uU, uU, uU, uU, uU, uU, uU, uU, uU, uU, uU, uU, uU, uU, uU, uU, uU, uU, uU, uU, uU, uU, uU, uU, uU, uU, uU, uU, uU, uU] [(.int (2 : Int32))]))
  obtain ⟨T117, h117, X117, e117, E117, A117, st117⟩ := own_newD X116 hx hZ (hw _ (List.mem_of_getElem? (i := 4) rfl)) e116 (g := (mkF m 131 #[sI p0, sI p1, sI p2, sI p3, sJ p4, uS, sI p5, sJ y0, uS, sJ y1, uS, sJ y2, uS, sJ y3, uS, sJ y4, uS, sJ y5, uS, sI mo, sI ii, sR a105, sR a114, uU, uU, uU, uU, uU, uU, uU, uU, uU, uU, uU, uU, uU, uU, uU, uU, uU, uU, uU, uU, uU, uU, uU, uU, uU, uU, uU, uU, uU, uU, uU, uU] [(.int (2 : Int32))])) rfl (hb hby at_131) rfl (by decide) (n := 2) (by decide) (by decide) (by decide) (by decide)
  obtain ⟨a117, g117⟩ : ∃ z, z = h116.size := ⟨_, rfl⟩
  rw [← g117] at A117 st117
  have G117 : n0 ≤ a117 := Nat.le_trans Z116 (Nat.le_of_eq g117.symm)
  have Z117 : n0 ≤ h117.size := Nat.le_trans Z116 E117.1
  have A117n : OwnDA Z h117 a117 [0, 0] := A117
  have nea105_117 : a105 ≠ a117 := (Nat.ne_of_lt (Nat.lt_of_lt_of_le A116_a105.lt (Nat.le_of_eq g117.symm)))
  have A117_a105 := A116_a105.ex E117
  have nea114_117 : a114 ≠ a117 := (Nat.ne_of_lt (Nat.lt_of_lt_of_le A116n.lt (Nat.le_of_eq g117.symm)))
  have A117_a114 := A116n.ex E117
  refine OwnGo.pre (fun t k => st117 t k) ?_
  show OwnGo _ _ _ _ (T117.setTop (mkF m 133 #[sI p0, sI p1, sI p2, sI p3, sJ p4, uS, sI p5, sJ y0, uS, sJ y1, uS, sJ y2, uS, sJ y3, uS, sJ y4, uS, sJ y5, uS, sI mo, sI ii, sR a105, sR a114, uU, uU, uU, uU, uU, uU, uU, uU, uU, uU, uU, uU, uU, uU, uU, uU, uU, uU, uU, uU, uU, uU, uU, uU, uU, uU, uU, uU, uU, uU, uU, uU] [(.ref a117)]))
  refine OwnGo.pre (fun t k => XS.dup X117.here hx rfl (hb hby at_133) rfl rfl (XS.iconst X117.here hx rfl (hb hby at_134) (own_ldcD X117 hx hown (mvT hZ (hw _ (List.mem_of_getElem? (i := 5) rfl))) rfl (hb hby at_135) k))) ?_
  show OwnGo _ _ _ _ (T117.setTop (mkF m 138 #[sI p0, sI p1, sI p2, sI p3, sJ p4, uS, sI p5, sJ y0, uS, sJ y1, uS, sJ y2, uS, sJ y3, uS, sJ y4, uS, sJ y5, uS, sI mo, sI ii, sR a105, sR a114, uU, uU, uU, uU, uU, uU, uU, uU, uU, uU, uU, uU, uU, uU, uU, uU, uU, uU, uU, uU, uU, uU, uU, uU, uU, uU, uU, uU, uU, uU, uU, uU] [(.double (4602678819172646912 : UInt64)), (.int (0 : Int32)), (.ref a117), (.ref a117)]))
  obtain ⟨T118, h118, X118, e118, W118, A118, st118⟩ := own_daS X117 hx hZ e117 A117n (by decide) (i := 0) (by decide) (by show 0 < 2; decide) (g := (mkF m 138 #[sI p0, sI p1, sI p2, sI p3, sJ p4, uS, sI p5, sJ y0, uS, sJ y1, uS, sJ y2, uS, sJ y3, uS, sJ y4, uS, sJ y5, uS, sI mo, sI ii, sR a105, sR a114, uU, uU, uU, uU, uU, uU, uU, uU, uU, uU, uU, uU, uU, uU, uU, uU, uU, uU, uU, uU, uU, uU, uU, uU, uU, uU, uU, uU, uU, uU, uU, uU] [(.double (4602678819172646912 : UInt64)), (.int (0 : Int32)), (.ref a117), (.ref a117)])) rfl rfl (hb hby at_138)
  have A118n : OwnDA Z h118 a117 [(4602678819172646912 : UInt64), 0] := A118
  have A118_a105 := A117_a105.ot W118 nea105_117
  have A118_a114 := A117_a114.ot W118 nea114_117
  have N118 := Fr.snoc X118 N116 G117
  have Z118 : n0 ≤ h118.size := by rw [W118.size]; exact Z117
  refine OwnGo.pre (fun t k => st118 t k) ?_
  show OwnGo _ _ _ _ (T118.setTop (mkF m 139 #[sI p0, sI p1, sI p2, sI p3, sJ p4, uS, sI p5, sJ y0, uS, sJ y1, uS, sJ y2, uS, sJ y3, uS, sJ y4, uS, sJ y5, uS, sI mo, sI ii, sR a105, sR a114, uU, uU, uU, uU, uU, uU, uU, uU, uU, uU, uU, uU, uU, uU, uU, uU, uU, uU, uU, uU, uU, uU, uU, uU, uU, uU, uU, uU, uU, uU, uU, uU] [(.ref a117)]))
  refine OwnGo.pre (fun t k => XS.dup X118.here hx rfl (hb hby at_139) rfl rfl (XS.iconst X118.here hx rfl (hb hby at_140) (own_ldcD X118 hx hown (mvT hZ (hw _ (List.mem_of_getElem? (i := 5) rfl))) rfl (hb hby at_141) k))) ?_
  show OwnGo _ _ _ _ (T118.setTop (mkF m 144 #[sI p0, sI p1, sI p2, sI p3, sJ p4, uS, sI p5, sJ y0, uS, sJ y1, uS, sJ y2, uS, sJ y3, uS, sJ y4, uS, sJ y5, uS, sI mo, sI ii, sR a105, sR a114, uU, uU, uU, uU, uU, uU, uU, uU, uU, uU, uU, uU, uU, uU, uU, uU, uU, uU, uU, uU, uU, uU, uU, uU, uU, uU, uU, uU, uU, uU, uU, uU] [(.double (4602678819172646912 : UInt64)), (.int (1 : Int32)), (.ref a117), (.ref a117)]))
  obtain ⟨T119, h119, X119, e119, W119, A119, st119⟩ := own_daS X118 hx hZ e118 A118n (by decide) (i := 1) (by decide) (by show 1 < 2; decide) (g := (mkF m 144 #[sI p0, sI p1, sI p2, sI p3, sJ p4, uS, sI p5, sJ y0, uS, sJ y1, uS, sJ y2, uS, sJ y3, uS, sJ y4, uS, sJ y5, uS, sI mo, sI ii, sR a105, sR a114, uU, uU, uU, uU, uU, uU, uU, uU, uU, uU, uU, uU, uU, uU, uU, uU, uU, uU, uU, uU, uU, uU, uU, uU, uU, uU, uU, uU, uU, uU, uU, uU] [(.double (4602678819172646912 : UInt64)), (.int (1 : Int32)), (.ref a117), (.ref a117)])) rfl rfl (hb hby at_144)
  have A119n : OwnDA Z h119 a117 [(4602678819172646912 : UInt64), (4602678819172646912 : UInt64)] := A119
  have A119_a105 := A118_a105.ot W119 nea105_117
  have A119_a114 := A118_a114.ot W119 nea114_117
  have N119 := Fr.snoc X119 N118 G117
  have Z119 : n0 ≤ h119.size := by rw [W119.size]; exact Z118
  refine OwnGo.pre (fun t k => st119 t k) ?_
  show OwnGo _ _ _ _ (T119.setTop (mkF m 145 #[sI p0, sI p1, sI p2, sI p3, sJ p4, uS, sI p5, sJ y0, uS, sJ y1, uS, sJ y2, uS, sJ y3, uS, sJ y4, uS, sJ y5, uS, sI mo, sI ii, sR a105, sR a114, uU, uU, uU, uU, uU, uU, uU, uU, uU, uU, uU, uU, uU, uU, uU, uU, uU, uU, uU, uU, uU, uU, uU, uU, uU, uU, uU, uU, uU, uU, uU, uU] [(.ref a117)]))
  refine OwnGo.pre (fun t k => XS.astore X119.here hx rfl (hb hby at_145) rfl rfl (l' := #[sI p0, sI p1, sI p2, sI p3, sJ p4, uS, sI p5, sJ y0, uS, sJ y1, uS, sJ y2, uS, sJ y3, uS, sJ y4, uS, sJ y5, uS, sI mo, sI ii, sR a105, sR a114, sR a117, uU, uU, uU, uU, uU, uU, uU, uU, uU, uU, uU, uU, uU, uU, uU, uU, uU, uU, uU, uU, uU, uU, uU, uU, uU, uU, uU, uU, uU, uU, uU]) rfl (XS.iconst X119.here hx rfl (hb hby at_147) k)) ?_
  show OwnGo _ _ _ _ (T119.setTop (mkF m 148 #[sI p0, sI p1, sI p2, sI p3, sJ p4, uS, sI p5, sJ y0, uS, sJ y1, uS, sJ y2, uS, sJ y3, uS, sJ y4, uS, sJ y5, uS, sI mo, sI ii, sR a105, sR a114, sR a117, uU, uU, uU, uU, uU, uU, uU, uU, uU, uU, uU, uU, uU, uU, uU, uU, uU, uU, uU, uU, uU, uU, uU, uU, uU, uU, uU, uU, uU, uU, uU] [(.int (2 : Int32))]))
  obtain ⟨T120, h120, X120, e120, E120, A120, st120⟩ := own_newD X119 hx hZ (hw _ (List.mem_of_getElem? (i := 4) rfl)) e119 (g := (mkF m 148 #[sI p0, sI p1, sI p2, sI p3, sJ p4, uS, sI p5, sJ y0, uS, sJ y1, uS, sJ y2, uS, sJ y3, uS, sJ y4, uS, sJ y5, uS, sI mo, sI ii, sR a105, sR a114, sR a117, uU, uU, uU, uU, uU, uU, uU, uU, uU, uU, uU, uU, uU, uU, uU, uU, uU, uU, uU, uU, uU, uU, uU, uU, uU, uU, uU, uU, uU, uU, uU] [(.int (2 : Int32))])) rfl (hb hby at_148) rfl (by decide) (n := 2) (by decide) (by decide) (by decide) (by decide)
  obtain ⟨a120, g120⟩ : ∃ z, z = h119.size := ⟨_, rfl⟩
  rw [← g120] at A120 st120
  have G120 : n0 ≤ a120 := Nat.le_trans Z119 (Nat.le_of_eq g120.symm)
  have Z120 : n0 ≤ h120.size := Nat.le_trans Z119 E120.1
  have A120n : OwnDA Z h120 a120 [0, 0] := A120
  have nea105_120 : a105 ≠ a120 := (Nat.ne_of_lt (Nat.lt_of_lt_of_le A119_a105.lt (Nat.le_of_eq g120.symm)))
  have A120_a105 := A119_a105.ex E120
  have nea114_120 : a114 ≠ a120 := (Nat.ne_of_lt (Nat.lt_of_lt_of_le A119_a114.lt (Nat.le_of_eq g120.symm)))
  have A120_a114 := A119_a114.ex E120
  have nea117_120 : a117 ≠ a120 := (Nat.ne_of_lt (Nat.lt_of_lt_of_le A119n.lt (Nat.le_of_eq g120.symm)))
  have A120_a117 := A119n.ex E120
  refine OwnGo.pre (fun t k => st120 t k) ?_
  show OwnGo _ _ _ _ (T120.setTop (mkF m 150 #[sI p0, sI p1, sI p2, sI p3, sJ p4, uS, sI p5, sJ y0, uS, sJ y1, uS, sJ y2, uS, sJ y3, uS, sJ y4, uS, sJ y5, uS, sI mo, sI ii, sR a105, sR a114, sR a117, uU, uU, uU, uU, uU, uU, uU, uU, uU, uU, uU, uU, uU, uU, uU, uU, uU, uU, uU, uU, uU, uU, uU, uU, uU, uU, uU, uU, uU, uU, uU] [(.ref a120)]))
  refine OwnGo.pre (fun t k => XS.dup X120.here hx rfl (hb hby at_150) rfl rfl (XS.iconst X120.here hx rfl (hb hby at_151) (own_ldcD X120 hx hown (mvT hZ (hw _ (List.mem_of_getElem? (i := 5) rfl))) rfl (hb hby at_152) k))) ?_
  show OwnGo _ _ _ _ (T120.setTop (mkF m 155 #[sI p0, sI p1, sI p2, sI p3, sJ p4, uS, sI p5, sJ y0, uS, sJ y1, uS, sJ y2, uS, sJ y3, uS, sJ y4, uS, sJ y5, uS, sI mo, sI ii, sR a105, sR a114, sR a117, uU, uU, uU, uU, uU, uU, uU, uU, uU, uU, uU, uU, uU, uU, uU, uU, uU, uU, uU, uU, uU, uU, uU, uU, uU, uU, uU, uU, uU, uU, uU] [(.double (4602678819172646912 : UInt64)), (.int (0 : Int32)), (.ref a120), (.ref a120)]))
  obtain ⟨T121, h121, X121, e121, W121, A121, st121⟩ := own_daS X120 hx hZ e120 A120n (by decide) (i := 0) (by decide) (by show 0 < 2; decide) (g := (mkF m 155 #[sI p0, sI p1, sI p2, sI p3, sJ p4, uS, sI p5, sJ y0, uS, sJ y1, uS, sJ y2, uS, sJ y3, uS, sJ y4, uS, sJ y5, uS, sI mo, sI ii, sR a105, sR a114, sR a117, uU, uU, uU, uU, uU, uU, uU, uU, uU, uU, uU, uU, uU, uU, uU, uU, uU, uU, uU, uU, uU, uU, uU, uU, uU, uU, uU, uU, uU, uU, uU] [(.double (4602678819172646912 : UInt64)), (.int (0 : Int32)), (.ref a120), (.ref a120)])) rfl rfl (hb hby at_155)
  have A121n : OwnDA Z h121 a120 [(4602678819172646912 : UInt64), 0] := A121
  have A121_a105 := A120_a105.ot W121 nea105_120
  have A121_a114 := A120_a114.ot W121 nea114_120
  have A121_a117 := A120_a117.ot W121 nea117_120
  have N121 := Fr.snoc X121 N119 G120
  have Z121 : n0 ≤ h121.size := by rw [W121.size]; exact Z120
  refine OwnGo.pre (fun t k => st121 t k) ?_
  show OwnGo _ _ _ _ (T121.setTop (mkF m 156 #[sI p0, sI p1, sI p2, sI p3, sJ p4, uS, sI p5, sJ y0, uS, sJ y1, uS, sJ y2, uS, sJ y3, uS, sJ y4, uS, sJ y5, uS, sI mo, sI ii, sR a105, sR a114, sR a117, uU, uU, uU, uU, uU, uU, uU, uU, uU, uU, uU, uU, uU, uU, uU, uU, uU, uU, uU, uU, uU, uU, uU, uU, uU, uU, uU, uU, uU, uU, uU] [(.ref a120)]))
  refine OwnGo.pre (fun t k => XS.dup X121.here hx rfl (hb hby at_156) rfl rfl (XS.iconst X121.here hx rfl (hb hby at_157) (own_ldcD X121 hx hown (mvT hZ (hw _ (List.mem_of_getElem? (i := 5) rfl))) rfl (hb hby at_158) k))) ?_
  show OwnGo _ _ _ _ (T121.setTop (mkF m 161 #[sI p0, sI p1, sI p2, sI p3, sJ p4, uS, sI p5, sJ y0, uS, sJ y1, uS, sJ y2, uS, sJ y3, uS, sJ y4, uS, sJ y5, uS, sI mo, sI ii, sR a105, sR a114, sR a117, uU, uU, uU, uU, uU, uU, uU, uU, uU, uU, uU, uU, uU, uU, uU, uU, uU, uU, uU, uU, uU, uU, uU, uU, uU, uU, uU, uU, uU, uU, uU] [(.double (4602678819172646912 : UInt64)), (.int (1 : Int32)), (.ref a120), (.ref a120)]))
  obtain ⟨T122, h122, X122, e122, W122, A122, st122⟩ := own_daS X121 hx hZ e121 A121n (by decide) (i := 1) (by decide) (by show 1 < 2; decide) (g := (mkF m 161 #[sI p0, sI p1, sI p2, sI p3, sJ p4, uS, sI p5, sJ y0, uS, sJ y1, uS, sJ y2, uS, sJ y3, uS, sJ y4, uS, sJ y5, uS, sI mo, sI ii, sR a105, sR a114, sR a117, uU, uU, uU, uU, uU, uU, uU, uU, uU, uU, uU, uU, uU, uU, uU, uU, uU, uU, uU, uU, uU, uU, uU, uU, uU, uU, uU, uU, uU, uU, uU] [(.double (4602678819172646912 : UInt64)), (.int (1 : Int32)), (.ref a120), (.ref a120)])) rfl rfl (hb hby at_161)
  have A122n : OwnDA Z h122 a120 [(4602678819172646912 : UInt64), (4602678819172646912 : UInt64)] := A122
  have A122_a105 := A121_a105.ot W122 nea105_120
  have A122_a114 := A121_a114.ot W122 nea114_120
  have A122_a117 := A121_a117.ot W122 nea117_120
  have N122 := Fr.snoc X122 N121 G120
  have Z122 : n0 ≤ h122.size := by rw [W122.size]; exact Z121
  refine OwnGo.pre (fun t k => st122 t k) ?_
  show OwnGo _ _ _ _ (T122.setTop (mkF m 162 #[sI p0, sI p1, sI p2, sI p3, sJ p4, uS, sI p5, sJ y0, uS, sJ y1, uS, sJ y2, uS, sJ y3, uS, sJ y4, uS, sJ y5, uS, sI mo, sI ii, sR a105, sR a114, sR a117, uU, uU, uU, uU, uU, uU, uU, uU, uU, uU, uU, uU, uU, uU, uU, uU, uU, uU, uU, uU, uU, uU, uU, uU, uU, uU, uU, uU, uU, uU, uU] [(.ref a120)]))
  refine OwnGo.pre (fun t k => XS.astore X122.here hx rfl (hb hby at_162) rfl rfl (l' := #[sI p0, sI p1, sI p2, sI p3, sJ p4, uS, sI p5, sJ y0, uS, sJ y1, uS, sJ y2, uS, sJ y3, uS, sJ y4, uS, sJ y5, uS, sI mo, sI ii, sR a105, sR a114, sR a117, sR a120, uU, uU, uU, uU, uU, uU, uU, uU, uU, uU, uU, uU, uU, uU, uU, uU, uU, uU, uU, uU, uU, uU, uU, uU, uU, uU, uU, uU, uU, uU]) rfl (XS.iconst X122.here hx rfl (hb hby at_164) k)) ?_
  show OwnGo _ _ _ _ (T122.setTop (mkF m 165 #[sI p0, sI p1, sI p2, sI p3, sJ p4, uS, sI p5, sJ y0, uS, sJ y1, uS, sJ y2, uS, sJ y3, uS, sJ y4, uS, sJ y5, uS, sI mo, sI ii, sR a105, sR a114, sR a117, sR a120, uU, uU, uU, uU, uU, uU, uU, uU, uU, uU, uU, uU, uU, uU, uU, uU, uU, uU, uU, uU, uU, uU, uU, uU, uU, uU, uU, uU, uU, uU] [(.int (2 : Int32))]))
  obtain ⟨T123, h123, X123, e123, E123, A123, st123⟩ := own_newD X122 hx hZ (hw _ (List.mem_of_getElem? (i := 4) rfl)) e122 (g := (mkF m 165 #[sI p0, sI p1, sI p2, sI p3, sJ p4, uS, sI p5, sJ y0, uS, sJ y1, uS, sJ y2, uS, sJ y3, uS, sJ y4, uS, sJ y5, uS, sI mo, sI ii, sR a105, sR a114, sR a117, sR a120, uU, uU, uU, uU, uU, uU, uU, uU, uU, uU, uU, uU, uU, uU, uU, uU, uU, uU, uU, uU, uU, uU, uU, uU, uU, uU, uU, uU, uU, uU] [(.int (2 : Int32))])) rfl (hb hby at_165) rfl (by decide) (n := 2) (by decide) (by decide) (by decide) (by decide)
  obtain ⟨a123, g123⟩ : ∃ z, z = h122.size := ⟨_, rfl⟩
  rw [← g123] at A123 st123
  have G123 : n0 ≤ a123 := Nat.le_trans Z122 (Nat.le_of_eq g123.symm)
  have Z123 : n0 ≤ h123.size := Nat.le_trans Z122 E123.1
  have A123n : OwnDA Z h123 a123 [0, 0] := A123
  have nea105_123 : a105 ≠ a123 := (Nat.ne_of_lt (Nat.lt_of_lt_of_le A122_a105.lt (Nat.le_of_eq g123.symm)))
  have A123_a105 := A122_a105.ex E123
  have nea114_123 : a114 ≠ a123 := (Nat.ne_of_lt (Nat.lt_of_lt_of_le A122_a114.lt (Nat.le_of_eq g123.symm)))
  have A123_a114 := A122_a114.ex E123
  have nea117_123 : a117 ≠ a123 := (Nat.ne_of_lt (Nat.lt_of_lt_of_le A122_a117.lt (Nat.le_of_eq g123.symm)))
  have A123_a117 := A122_a117.ex E123
  have nea120_123 : a120 ≠ a123 := (Nat.ne_of_lt (Nat.lt_of_lt_of_le A122n.lt (Nat.le_of_eq g123.symm)))
  have A123_a120 := A122n.ex E123
  refine OwnGo.pre (fun t k => st123 t k) ?_
  show OwnGo _ _ _ _ (T123.setTop (mkF m 167 #[sI p0, sI p1, sI p2, sI p3, sJ p4, uS, sI p5, sJ y0, uS, sJ y1, uS, sJ y2, uS, sJ y3, uS, sJ y4, uS, sJ y5, uS, sI mo, sI ii, sR a105, sR a114, sR a117, sR a120, uU, uU, uU, uU, uU, uU, uU, uU, uU, uU, uU, uU, uU, uU, uU, uU, uU, uU, uU, uU, uU, uU, uU, uU, uU, uU, uU, uU, uU, uU] [(.ref a123)]))
  refine OwnGo.pre (fun t k => XS.dup X123.here hx rfl (hb hby at_167) rfl rfl (XS.iconst X123.here hx rfl (hb hby at_168) (own_ldcD X123 hx hown (mvT hZ (hw _ (List.mem_of_getElem? (i := 5) rfl))) rfl (hb hby at_169) k))) ?_
  show OwnGo _ _ _ _ (T123.setTop (mkF m 172 #[sI p0, sI p1, sI p2, sI p3, sJ p4, uS, sI p5, sJ y0, uS, sJ y1, uS, sJ y2, uS, sJ y3, uS, sJ y4, uS, sJ y5, uS, sI mo, sI ii, sR a105, sR a114, sR a117, sR a120, uU, uU, uU, uU, uU, uU, uU, uU, uU, uU, uU, uU, uU, uU, uU, uU, uU, uU, uU, uU, uU, uU, uU, uU, uU, uU, uU, uU, uU, uU] [(.double (4602678819172646912 : UInt64)), (.int (0 : Int32)), (.ref a123), (.ref a123)]))
  obtain ⟨T124, h124, X124, e124, W124, A124, st124⟩ := own_daS X123 hx hZ e123 A123n (by decide) (i := 0) (by decide) (by show 0 < 2; decide) (g := (mkF m 172 #[sI p0, sI p1, sI p2, sI p3, sJ p4, uS, sI p5, sJ y0, uS, sJ y1, uS, sJ y2, uS, sJ y3, uS, sJ y4, uS, sJ y5, uS, sI mo, sI ii, sR a105, sR a114, sR a117, sR a120, uU, uU, uU, uU, uU, uU, uU, uU, uU, uU, uU, uU, uU, uU, uU, uU, uU, uU, uU, uU, uU, uU, uU, uU, uU, uU, uU, uU, uU, uU] [(.double (4602678819172646912 : UInt64)), (.int (0 : Int32)), (.ref a123), (.ref a123)])) rfl rfl (hb hby at_172)
  have A124n : OwnDA Z h124 a123 [(4602678819172646912 : UInt64), 0] := A124
  have A124_a105 := A123_a105.ot W124 nea105_123
  have A124_a114 := A123_a114.ot W124 nea114_123
  have A124_a117 := A123_a117.ot W124 nea117_123
  have A124_a120 := A123_a120.ot W124 nea120_123
  have N124 := Fr.snoc X124 N122 G123
  have Z124 : n0 ≤ h124.size := by rw [W124.size]; exact Z123
  refine OwnGo.pre (fun t k => st124 t k) ?_
  show OwnGo _ _ _ _ (T124.setTop (mkF m 173 #[sI p0, sI p1, sI p2, sI p3, sJ p4, uS, sI p5, sJ y0, uS, sJ y1, uS, sJ y2, uS, sJ y3, uS, sJ y4, uS, sJ y5, uS, sI mo, sI ii, sR a105, sR a114, sR a117, sR a120, uU, uU, uU, uU, uU, uU, uU, uU, uU, uU, uU, uU, uU, uU, uU, uU, uU, uU, uU, uU, uU, uU, uU, uU, uU, uU, uU, uU, uU, uU] [(.ref a123)]))
  refine OwnGo.pre (fun t k => XS.dup X124.here hx rfl (hb hby at_173) rfl rfl (XS.iconst X124.here hx rfl (hb hby at_174) (own_ldcD X124 hx hown (mvT hZ (hw _ (List.mem_of_getElem? (i := 5) rfl))) rfl (hb hby at_175) k))) ?_
  show OwnGo _ _ _ _ (T124.setTop (mkF m 178 #[sI p0, sI p1, sI p2, sI p3, sJ p4, uS, sI p5, sJ y0, uS, sJ y1, uS, sJ y2, uS, sJ y3, uS, sJ y4, uS, sJ y5, uS, sI mo, sI ii, sR a105, sR a114, sR a117, sR a120, uU, uU, uU, uU, uU, uU, uU, uU, uU, uU, uU, uU, uU, uU, uU, uU, uU, uU, uU, uU, uU, uU, uU, uU, uU, uU, uU, uU, uU, uU] [(.double (4602678819172646912 : UInt64)), (.int (1 : Int32)), (.ref a123), (.ref a123)]))
  obtain ⟨T125, h125, X125, e125, W125, A125, st125⟩ := own_daS X124 hx hZ e124 A124n (by decide) (i := 1) (by decide) (by show 1 < 2; decide) (g := (mkF m 178 #[sI p0, sI p1, sI p2, sI p3, sJ p4, uS, sI p5, sJ y0, uS, sJ y1, uS, sJ y2, uS, sJ y3, uS, sJ y4, uS, sJ y5, uS, sI mo, sI ii, sR a105, sR a114, sR a117, sR a120, uU, uU, uU, uU, uU, uU, uU, uU, uU, uU, uU, uU, uU, uU, uU, uU, uU, uU, uU, uU, uU, uU, uU, uU, uU, uU, uU, uU, uU, uU] [(.double (4602678819172646912 : UInt64)), (.int (1 : Int32)), (.ref a123), (.ref a123)])) rfl rfl (hb hby at_178)
  have A125n : OwnDA Z h125 a123 [(4602678819172646912 : UInt64), (4602678819172646912 : UInt64)] := A125
  have A125_a105 := A124_a105.ot W125 nea105_123
  have A125_a114 := A124_a114.ot W125 nea114_123
  have A125_a117 := A124_a117.ot W125 nea117_123
  have A125_a120 := A124_a120.ot W125 nea120_123
  have N125 := Fr.snoc X125 N124 G123
  have Z125 : n0 ≤ h125.size := by rw [W125.size]; exact Z124
  refine OwnGo.pre (fun t k => st125 t k) ?_
  show OwnGo _ _ _ _ (T125.setTop (mkF m 179 #[sI p0, sI p1, sI p2, sI p3, sJ p4, uS, sI p5, sJ y0, uS, sJ y1, uS, sJ y2, uS, sJ y3, uS, sJ y4, uS, sJ y5, uS, sI mo, sI ii, sR a105, sR a114, sR a117, sR a120, uU, uU, uU, uU, uU, uU, uU, uU, uU, uU, uU, uU, uU, uU, uU, uU, uU, uU, uU, uU, uU, uU, uU, uU, uU, uU, uU, uU, uU, uU] [(.ref a123)]))
  refine OwnGo.pre (fun t k => XS.astore X125.here hx rfl (hb hby at_179) rfl rfl (l' := #[sI p0, sI p1, sI p2, sI p3, sJ p4, uS, sI p5, sJ y0, uS, sJ y1, uS, sJ y2, uS, sJ y3, uS, sJ y4, uS, sJ y5, uS, sI mo, sI ii, sR a105, sR a114, sR a117, sR a120, sR a123, uU, uU, uU, uU, uU, uU, uU, uU, uU, uU, uU, uU, uU, uU, uU, uU, uU, uU, uU, uU, uU, uU, uU, uU, uU, uU, uU, uU, uU]) rfl (XS.aload X125.here hx rfl (hb hby at_181) rfl rfl (XS.astore X125.here hx rfl (hb hby at_183) rfl rfl (l' := #[sI p0, sI p1, sI p2, sI p3, sJ p4, uS, sI p5, sJ y0, uS, sJ y1, uS, sJ y2, uS, sJ y3, uS, sJ y4, uS, sJ y5, uS, sI mo, sI ii, sR a105, sR a114, sR a117, sR a120, sR a123, sR a105, uU, uU, uU, uU, uU, uU, uU, uU, uU, uU, uU, uU, uU, uU, uU, uU, uU, uU, uU, uU, uU, uU, uU, uU, uU, uU, uU, uU]) rfl (XS.aload X125.here hx rfl (hb hby at_185) rfl rfl (XS.astore X125.here hx rfl (hb hby at_187) rfl rfl (l' := #[sI p0, sI p1, sI p2, sI p3, sJ p4, uS, sI p5, sJ y0, uS, sJ y1, uS, sJ y2, uS, sJ y3, uS, sJ y4, uS, sJ y5, uS, sI mo, sI ii, sR a105, sR a114, sR a117, sR a120, sR a123, sR a105, sR a105, uU, uU, uU, uU, uU, uU, uU, uU, uU, uU, uU, uU, uU, uU, uU, uU, uU, uU, uU, uU, uU, uU, uU, uU, uU, uU, uU]) rfl (XS.aload X125.here hx rfl (hb hby at_189) rfl rfl (XS.astore X125.here hx rfl (hb hby at_191) rfl rfl (l' := #[sI p0, sI p1, sI p2, sI p3, sJ p4, uS, sI p5, sJ y0, uS, sJ y1, uS, sJ y2, uS, sJ y3, uS, sJ y4, uS, sJ y5, uS, sI mo, sI ii, sR a105, sR a114, sR a117, sR a120, sR a123, sR a105, sR a105, sR a105, uU, uU, uU, uU, uU, uU, uU, uU, uU, uU, uU, uU, uU, uU, uU, uU, uU, uU, uU, uU, uU, uU, uU, uU, uU, uU]) rfl (XS.aload X125.here hx rfl (hb hby at_193) rfl rfl k)))))))) ?_
  show OwnGo _ _ _ _ (T125.setTop (mkF m 195 #[sI p0, sI p1, sI p2, sI p3, sJ p4, uS, sI p5, sJ y0, uS, sJ y1, uS, sJ y2, uS, sJ y3, uS, sJ y4, uS, sJ y5, uS, sI mo, sI ii, sR a105, sR a114, sR a117, sR a120, sR a123, sR a105, sR a105, sR a105, uU, uU, uU, uU, uU, uU, uU, uU, uU, uU, uU, uU, uU, uU, uU, uU, uU, uU, uU, uU, uU, uU, uU, uU, uU, uU] [(.ref a105)]))
  refine OwnGo.pre (fun t k => XS.astore X125.here hx rfl (hb hby at_195) rfl rfl (l' := #[sI p0, sI p1, sI p2, sI p3, sJ p4, uS, sI p5, sJ y0, uS, sJ y1, uS, sJ y2, uS, sJ y3, uS, sJ y4, uS, sJ y5, uS, sI mo, sI ii, sR a105, sR a114, sR a117, sR a120, sR a123, sR a105, sR a105, sR a105, sR a105, uU, uU, uU, uU, uU, uU, uU, uU, uU, uU, uU, uU, uU, uU, uU, uU, uU, uU, uU, uU, uU, uU, uU, uU, uU]) rfl (XS.iconst X125.here hx rfl (hb hby at_197) (XS.istore X125.here hx rfl (hb hby at_198) rfl (l' := #[sI p0, sI p1, sI p2, sI p3, sJ p4, uS, sI p5, sJ y0, uS, sJ y1, uS, sJ y2, uS, sJ y3, uS, sJ y4, uS, sJ y5, uS, sI mo, sI ii, sR a105, sR a114, sR a117, sR a120, sR a123, sR a105, sR a105, sR a105, sR a105, sI (0 : Int32), uU, uU, uU, uU, uU, uU, uU, uU, uU, uU, uU, uU, uU, uU, uU, uU, uU, uU, uU, uU, uU, uU, uU, uU]) rfl (XS.iconst X125.here hx rfl (hb hby at_200) (XS.istore X125.here hx rfl (hb hby at_201) rfl (l' := #[sI p0, sI p1, sI p2, sI p3, sJ p4, uS, sI p5, sJ y0, uS, sJ y1, uS, sJ y2, uS, sJ y3, uS, sJ y4, uS, sJ y5, uS, sI mo, sI ii, sR a105, sR a114, sR a117, sR a120, sR a123, sR a105, sR a105, sR a105, sR a105, sI (0 : Int32), sI (1 : Int32), uU, uU, uU, uU, uU, uU, uU, uU, uU, uU, uU, uU, uU, uU, uU, uU, uU, uU, uU, uU, uU, uU, uU]) rfl (XS.iconst X125.here hx rfl (hb hby at_203) (XS.istore X125.here hx rfl (hb hby at_204) rfl (l' := #[sI p0, sI p1, sI p2, sI p3, sJ p4, uS, sI p5, sJ y0, uS, sJ y1, uS, sJ y2, uS, sJ y3, uS, sJ y4, uS, sJ y5, uS, sI mo, sI ii, sR a105, sR a114, sR a117, sR a120, sR a123, sR a105, sR a105, sR a105, sR a105, sI (0 : Int32), sI (1 : Int32), sI (2 : Int32), uU, uU, uU, uU, uU, uU, uU, uU, uU, uU, uU, uU, uU, uU, uU, uU, uU, uU, uU, uU, uU, uU]) rfl (XS.iconst X125.here hx rfl (hb hby at_206) k)))))))) ?_
  show OwnGo _ _ _ _ (T125.setTop (mkF m 207 #[sI p0, sI p1, sI p2, sI p3, sJ p4, uS, sI p5, sJ y0, uS, sJ y1, uS, sJ y2, uS, sJ y3, uS, sJ y4, uS, sJ y5, uS, sI mo, sI ii, sR a105, sR a114, sR a117, sR a120, sR a123, sR a105, sR a105, sR a105, sR a105, sI (0 : Int32), sI (1 : Int32), sI (2 : Int32), uU, uU, uU, uU, uU, uU, uU, uU, uU, uU, uU, uU, uU, uU, uU, uU, uU, uU, uU, uU, uU, uU] [(.int (3 : Int32))]))
  refine OwnGo.pre (fun t k => XS.istore X125.here hx rfl (hb hby at_207) rfl (l' := #[sI p0, sI p1, sI p2, sI p3, sJ p4, uS, sI p5, sJ y0, uS, sJ y1, uS, sJ y2, uS, sJ y3, uS, sJ y4, uS, sJ y5, uS, sI mo, sI ii, sR a105, sR a114, sR a117, sR a120, sR a123, sR a105, sR a105, sR a105, sR a105, sI (0 : Int32), sI (1 : Int32), sI (2 : Int32), sI (3 : Int32), uU, uU, uU, uU, uU, uU, uU, uU, uU, uU, uU, uU, uU, uU, uU, uU, uU, uU, uU, uU, uU]) rfl (XS.iload X125.here hx rfl (hb hby at_209) rfl (XS.iconst X125.here hx rfl (hb hby at_211) k))) ?_
  show OwnGo _ _ _ _ (T125.setTop (mkF m 212 #[sI p0, sI p1, sI p2, sI p3, sJ p4, uS, sI p5, sJ y0, uS, sJ y1, uS, sJ y2, uS, sJ y3, uS, sJ y4, uS, sJ y5, uS, sI mo, sI ii, sR a105, sR a114, sR a117, sR a120, sR a123, sR a105, sR a105, sR a105, sR a105, sI (0 : Int32), sI (1 : Int32), sI (2 : Int32), sI (3 : Int32), uU, uU, uU, uU, uU, uU, uU, uU, uU, uU, uU, uU, uU, uU, uU, uU, uU, uU, uU, uU, uU] [(.int (1 : Int32)), (.int mo)]))
  rcases cmo with rfl | rfl | rfl | rfl
  · skip
    show OwnGo _ _ _ _ (T125.setTop (mkF m 212 #[sI p0, sI p1, sI p2, sI p3, sJ p4, uS, sI p5, sJ y0, uS, sJ y1, uS, sJ y2, uS, sJ y3, uS, sJ y4, uS, sJ y5, uS, sI (0 : Int32), sI ii, sR a105, sR a114, sR a117, sR a120, sR a123, sR a105, sR a105, sR a105, sR a105, sI (0 : Int32), sI (1 : Int32), sI (2 : Int32), sI (3 : Int32), uU, uU, uU, uU, uU, uU, uU, uU, uU, uU, uU, uU, uU, uU, uU, uU, uU, uU, uU, uU, uU] [(.int (1 : Int32)), (.int (0 : Int32))]))
    refine OwnGo.pre (fun t k => XS.icmpYes X125.here hx rfl (pc0 := 212) (pc' := 232) rfl (hb hby at_212) rfl (by decide) (by decide) (by decide) (XS.iload X125.here hx rfl (hb hby at_232) rfl (XS.iconst X125.here hx rfl (hb hby at_234) (XS.icmpYes X125.here hx rfl (pc0 := 235) (pc' := 273) rfl (hb hby at_235) rfl (by decide) (by decide) (by decide) (XS.iload X125.here hx rfl (hb hby at_273) rfl (XS.iconst X125.here hx rfl (hb hby at_275) (XS.icmpYes X125.here hx rfl (pc0 := 276) (pc' := 293) rfl (hb hby at_276) rfl (by decide) (by decide) (by decide) (XS.aload X125.here hx rfl (hb hby at_293) rfl rfl k)))))))) ?_
    show OwnGo _ _ _ _ (T125.setTop (mkF m 295 #[sI p0, sI p1, sI p2, sI p3, sJ p4, uS, sI p5, sJ y0, uS, sJ y1, uS, sJ y2, uS, sJ y3, uS, sJ y4, uS, sJ y5, uS, sI (0 : Int32), sI ii, sR a105, sR a114, sR a117, sR a120, sR a123, sR a105, sR a105, sR a105, sR a105, sI (0 : Int32), sI (1 : Int32), sI (2 : Int32), sI (3 : Int32), uU, uU, uU, uU, uU, uU, uU, uU, uU, uU, uU, uU, uU, uU, uU, uU, uU, uU, uU, uU, uU] [(.ref a105)]))
    obtain ⟨d126, hd126⟩ : ∃ v, FP.l2d y0 = v := ⟨_, rfl⟩
    have D126 : OwnDS 0 jy0 d126 := by rw [← hd126]; exact own_l2db Fy0 by0 (by decide)
    refine OwnGo.pre (fun t k => XS.iload X125.here hx rfl (hb hby at_295) rfl (XT.lload X125.here hx rfl (hb hby at_297) rfl (XS.l2dS X125.here hx rfl (hb hby at_299) rfl hd126 k))) ?_
    show OwnGo _ _ _ _ (T125.setTop (mkF m 300 #[sI p0, sI p1, sI p2, sI p3, sJ p4, uS, sI p5, sJ y0, uS, sJ y1, uS, sJ y2, uS, sJ y3, uS, sJ y4, uS, sJ y5, uS, sI (0 : Int32), sI ii, sR a105, sR a114, sR a117, sR a120, sR a123, sR a105, sR a105, sR a105, sR a105, sI (0 : Int32), sI (1 : Int32), sI (2 : Int32), sI (3 : Int32), uU, uU, uU, uU, uU, uU, uU, uU, uU, uU, uU, uU, uU, uU, uU, uU, uU, uU, uU, uU, uU] [(.double d126), (.int (0 : Int32)), (.ref a105)]))
    obtain ⟨T127, h127, X127, e127, W127, A127, st127⟩ := own_daS X125 hx hZ e125 A125_a105 (by decide) (i := 0) (by decide) (by show 0 < 8; decide) (g := (mkF m 300 #[sI p0, sI p1, sI p2, sI p3, sJ p4, uS, sI p5, sJ y0, uS, sJ y1, uS, sJ y2, uS, sJ y3, uS, sJ y4, uS, sJ y5, uS, sI (0 : Int32), sI ii, sR a105, sR a114, sR a117, sR a120, sR a123, sR a105, sR a105, sR a105, sR a105, sI (0 : Int32), sI (1 : Int32), sI (2 : Int32), sI (3 : Int32), uU, uU, uU, uU, uU, uU, uU, uU, uU, uU, uU, uU, uU, uU, uU, uU, uU, uU, uU, uU, uU] [(.double d126), (.int (0 : Int32)), (.ref a105)])) rfl rfl (hb hby at_300)
    have A127n : OwnDA Z h127 a105 [d126, (4602678819172646912 : UInt64), (4602678819172646912 : UInt64), (4602678819172646912 : UInt64), (4602678819172646912 : UInt64), (4602678819172646912 : UInt64), (4602678819172646912 : UInt64), (4602678819172646912 : UInt64)] := A127
    have A127_a114 := A125_a114.ot W127 nea105_114.symm
    have A127_a117 := A125_a117.ot W127 nea105_117.symm
    have A127_a120 := A125_a120.ot W127 nea105_120.symm
    have A127_a123 := A125n.ot W127 nea105_123.symm
    have N127 := Fr.snoc X127 N125 G105
    have Z127 : n0 ≤ h127.size := by rw [W127.size]; exact Z125
    refine OwnGo.pre (fun t k => st127 t k) ?_
    show OwnGo _ _ _ _ (T127.setTop (mkF m 301 #[sI p0, sI p1, sI p2, sI p3, sJ p4, uS, sI p5, sJ y0, uS, sJ y1, uS, sJ y2, uS, sJ y3, uS, sJ y4, uS, sJ y5, uS, sI (0 : Int32), sI ii, sR a105, sR a114, sR a117, sR a120, sR a123, sR a105, sR a105, sR a105, sR a105, sI (0 : Int32), sI (1 : Int32), sI (2 : Int32), sI (3 : Int32), uU, uU, uU, uU, uU, uU, uU, uU, uU, uU, uU, uU, uU, uU, uU, uU, uU, uU, uU, uU, uU] []))
    obtain ⟨d128, hd128⟩ : ∃ v, FP.l2d y1 = v := ⟨_, rfl⟩
    have D128 : OwnDS 0 jy1 d128 := by rw [← hd128]; exact own_l2db Fy1 by1 (by decide)
    refine OwnGo.pre (fun t k => XS.aload X127.here hx rfl (hb hby at_301) rfl rfl (XS.iload X127.here hx rfl (hb hby at_303) rfl (XT.lload X127.here hx rfl (hb hby at_305) rfl (XS.l2dS X127.here hx rfl (hb hby at_307) rfl hd128 k)))) ?_
    show OwnGo _ _ _ _ (T127.setTop (mkF m 308 #[sI p0, sI p1, sI p2, sI p3, sJ p4, uS, sI p5, sJ y0, uS, sJ y1, uS, sJ y2, uS, sJ y3, uS, sJ y4, uS, sJ y5, uS, sI (0 : Int32), sI ii, sR a105, sR a114, sR a117, sR a120, sR a123, sR a105, sR a105, sR a105, sR a105, sI (0 : Int32), sI (1 : Int32), sI (2 : Int32), sI (3 : Int32), uU, uU, uU, uU, uU, uU, uU, uU, uU, uU, uU, uU, uU, uU, uU, uU, uU, uU, uU, uU, uU] [(.double d128), (.int (1 : Int32)), (.ref a105)]))
    obtain ⟨T129, h129, X129, e129, W129, A129, st129⟩ := own_daS X127 hx hZ e127 A127n (by decide) (i := 1) (by decide) (by show 1 < 8; decide) (g := (mkF m 308 #[sI p0, sI p1, sI p2, sI p3, sJ p4, uS, sI p5, sJ y0, uS, sJ y1, uS, sJ y2, uS, sJ y3, uS, sJ y4, uS, sJ y5, uS, sI (0 : Int32), sI ii, sR a105, sR a114, sR a117, sR a120, sR a123, sR a105, sR a105, sR a105, sR a105, sI (0 : Int32), sI (1 : Int32), sI (2 : Int32), sI (3 : Int32), uU, uU, uU, uU, uU, uU, uU, uU, uU, uU, uU, uU, uU, uU, uU, uU, uU, uU, uU, uU, uU] [(.double d128), (.int (1 : Int32)), (.ref a105)])) rfl rfl (hb hby at_308)
    have A129n : OwnDA Z h129 a105 [d126, d128, (4602678819172646912 : UInt64), (4602678819172646912 : UInt64), (4602678819172646912 : UInt64), (4602678819172646912 : UInt64), (4602678819172646912 : UInt64), (4602678819172646912 : UInt64)] := A129
    have A129_a114 := A127_a114.ot W129 nea105_114.symm
    have A129_a117 := A127_a117.ot W129 nea105_117.symm
    have A129_a120 := A127_a120.ot W129 nea105_120.symm
    have A129_a123 := A127_a123.ot W129 nea105_123.symm
    have N129 := Fr.snoc X129 N127 G105
    have Z129 : n0 ≤ h129.size := by rw [W129.size]; exact Z127
    refine OwnGo.pre (fun t k => st129 t k) ?_
    show OwnGo _ _ _ _ (T129.setTop (mkF m 309 #[sI p0, sI p1, sI p2, sI p3, sJ p4, uS, sI p5, sJ y0, uS, sJ y1, uS, sJ y2, uS, sJ y3, uS, sJ y4, uS, sJ y5, uS, sI (0 : Int32), sI ii, sR a105, sR a114, sR a117, sR a120, sR a123, sR a105, sR a105, sR a105, sR a105, sI (0 : Int32), sI (1 : Int32), sI (2 : Int32), sI (3 : Int32), uU, uU, uU, uU, uU, uU, uU, uU, uU, uU, uU, uU, uU, uU, uU, uU, uU, uU, uU, uU, uU] []))
    obtain ⟨d130, hd130⟩ : ∃ v, FP.l2d y2 = v := ⟨_, rfl⟩
    have D130 : OwnDS 0 jy2 d130 := by rw [← hd130]; exact own_l2db Fy2 by2 (by decide)
    refine OwnGo.pre (fun t k => XS.aload X129.here hx rfl (hb hby at_309) rfl rfl (XS.iload X129.here hx rfl (hb hby at_311) rfl (XT.lload X129.here hx rfl (hb hby at_313) rfl (XS.l2dS X129.here hx rfl (hb hby at_315) rfl hd130 k)))) ?_
    show OwnGo _ _ _ _ (T129.setTop (mkF m 316 #[sI p0, sI p1, sI p2, sI p3, sJ p4, uS, sI p5, sJ y0, uS, sJ y1, uS, sJ y2, uS, sJ y3, uS, sJ y4, uS, sJ y5, uS, sI (0 : Int32), sI ii, sR a105, sR a114, sR a117, sR a120, sR a123, sR a105, sR a105, sR a105, sR a105, sI (0 : Int32), sI (1 : Int32), sI (2 : Int32), sI (3 : Int32), uU, uU, uU, uU, uU, uU, uU, uU, uU, uU, uU, uU, uU, uU, uU, uU, uU, uU, uU, uU, uU] [(.double d130), (.int (2 : Int32)), (.ref a105)]))
    obtain ⟨T131, h131, X131, e131, W131, A131, st131⟩ := own_daS X129 hx hZ e129 A129n (by decide) (i := 2) (by decide) (by show 2 < 8; decide) (g := (mkF m 316 #[sI p0, sI p1, sI p2, sI p3, sJ p4, uS, sI p5, sJ y0, uS, sJ y1, uS, sJ y2, uS, sJ y3, uS, sJ y4, uS, sJ y5, uS, sI (0 : Int32), sI ii, sR a105, sR a114, sR a117, sR a120, sR a123, sR a105, sR a105, sR a105, sR a105, sI (0 : Int32), sI (1 : Int32), sI (2 : Int32), sI (3 : Int32), uU, uU, uU, uU, uU, uU, uU, uU, uU, uU, uU, uU, uU, uU, uU, uU, uU, uU, uU, uU, uU] [(.double d130), (.int (2 : Int32)), (.ref a105)])) rfl rfl (hb hby at_316)
    have A131n : OwnDA Z h131 a105 [d126, d128, d130, (4602678819172646912 : UInt64), (4602678819172646912 : UInt64), (4602678819172646912 : UInt64), (4602678819172646912 : UInt64), (4602678819172646912 : UInt64)] := A131
    have A131_a114 := A129_a114.ot W131 nea105_114.symm
    have A131_a117 := A129_a117.ot W131 nea105_117.symm
    have A131_a120 := A129_a120.ot W131 nea105_120.symm
    have A131_a123 := A129_a123.ot W131 nea105_123.symm
    have N131 := Fr.snoc X131 N129 G105
    have Z131 : n0 ≤ h131.size := by rw [W131.size]; exact Z129
    refine OwnGo.pre (fun t k => st131 t k) ?_
    show OwnGo _ _ _ _ (T131.setTop (mkF m 317 #[sI p0, sI p1, sI p2, sI p3, sJ p4, uS, sI p5, sJ y0, uS, sJ y1, uS, sJ y2, uS, sJ y3, uS, sJ y4, uS, sJ y5, uS, sI (0 : Int32), sI ii, sR a105, sR a114, sR a117, sR a120, sR a123, sR a105, sR a105, sR a105, sR a105, sI (0 : Int32), sI (1 : Int32), sI (2 : Int32), sI (3 : Int32), uU, uU, uU, uU, uU, uU, uU, uU, uU, uU, uU, uU, uU, uU, uU, uU, uU, uU, uU, uU, uU] []))
    obtain ⟨d132, hd132⟩ : ∃ v, FP.l2d y3 = v := ⟨_, rfl⟩
    have D132 : OwnDS 0 jy3 d132 := by rw [← hd132]; exact own_l2db Fy3 by3 (by decide)
    refine OwnGo.pre (fun t k => XS.aload X131.here hx rfl (hb hby at_317) rfl rfl (XS.iload X131.here hx rfl (hb hby at_319) rfl (XT.lload X131.here hx rfl (hb hby at_321) rfl (XS.l2dS X131.here hx rfl (hb hby at_323) rfl hd132 k)))) ?_
    show OwnGo _ _ _ _ (T131.setTop (mkF m 324 #[sI p0, sI p1, sI p2, sI p3, sJ p4, uS, sI p5, sJ y0, uS, sJ y1, uS, sJ y2, uS, sJ y3, uS, sJ y4, uS, sJ y5, uS, sI (0 : Int32), sI ii, sR a105, sR a114, sR a117, sR a120, sR a123, sR a105, sR a105, sR a105, sR a105, sI (0 : Int32), sI (1 : Int32), sI (2 : Int32), sI (3 : Int32), uU, uU, uU, uU, uU, uU, uU, uU, uU, uU, uU, uU, uU, uU, uU, uU, uU, uU, uU, uU, uU] [(.double d132), (.int (3 : Int32)), (.ref a105)]))
    obtain ⟨T133, h133, X133, e133, W133, A133, st133⟩ := own_daS X131 hx hZ e131 A131n (by decide) (i := 3) (by decide) (by show 3 < 8; decide) (g := (mkF m 324 #[sI p0, sI p1, sI p2, sI p3, sJ p4, uS, sI p5, sJ y0, uS, sJ y1, uS, sJ y2, uS, sJ y3, uS, sJ y4, uS, sJ y5, uS, sI (0 : Int32), sI ii, sR a105, sR a114, sR a117, sR a120, sR a123, sR a105, sR a105, sR a105, sR a105, sI (0 : Int32), sI (1 : Int32), sI (2 : Int32), sI (3 : Int32), uU, uU, uU, uU, uU, uU, uU, uU, uU, uU, uU, uU, uU, uU, uU, uU, uU, uU, uU, uU, uU] [(.double d132), (.int (3 : Int32)), (.ref a105)])) rfl rfl (hb hby at_324)
    have A133n : OwnDA Z h133 a105 [d126, d128, d130, d132, (4602678819172646912 : UInt64), (4602678819172646912 : UInt64), (4602678819172646912 : UInt64), (4602678819172646912 : UInt64)] := A133
    have A133_a114 := A131_a114.ot W133 nea105_114.symm
    have A133_a117 := A131_a117.ot W133 nea105_117.symm
    have A133_a120 := A131_a120.ot W133 nea105_120.symm
    have A133_a123 := A131_a123.ot W133 nea105_123.symm
    have N133 := Fr.snoc X133 N131 G105
    have Z133 : n0 ≤ h133.size := by rw [W133.size]; exact Z131
    refine OwnGo.pre (fun t k => st133 t k) ?_
    show OwnGo _ _ _ _ (T133.setTop (mkF m 325 #[sI p0, sI p1, sI p2, sI p3, sJ p4, uS, sI p5, sJ y0, uS, sJ y1, uS, sJ y2, uS, sJ y3, uS, sJ y4, uS, sJ y5, uS, sI (0 : Int32), sI ii, sR a105, sR a114, sR a117, sR a120, sR a123, sR a105, sR a105, sR a105, sR a105, sI (0 : Int32), sI (1 : Int32), sI (2 : Int32), sI (3 : Int32), uU, uU, uU, uU, uU, uU, uU, uU, uU, uU, uU, uU, uU, uU, uU, uU, uU, uU, uU, uU, uU] []))
    refine OwnGo.pre (fun t k => XS.aload X133.here hx rfl (hb hby at_325) rfl rfl (XS.iload X133.here hx rfl (hb hby at_327) rfl (XS.aload X133.here hx rfl (hb hby at_329) rfl rfl (XS.iload X133.here hx rfl (hb hby at_331) rfl (XS.aload X133.here hx rfl (hb hby at_333) rfl rfl (XS.iload X133.here hx rfl (hb hby at_335) rfl (XS.aload X133.here hx rfl (hb hby at_337) rfl rfl (XS.iload X133.here hx rfl (hb hby at_339) rfl k)))))))) ?_
    show OwnGo _ _ _ _ (T133.setTop (mkF m 341 #[sI p0, sI p1, sI p2, sI p3, sJ p4, uS, sI p5, sJ y0, uS, sJ y1, uS, sJ y2, uS, sJ y3, uS, sJ y4, uS, sJ y5, uS, sI (0 : Int32), sI ii, sR a105, sR a114, sR a117, sR a120, sR a123, sR a105, sR a105, sR a105, sR a105, sI (0 : Int32), sI (1 : Int32), sI (2 : Int32), sI (3 : Int32), uU, uU, uU, uU, uU, uU, uU, uU, uU, uU, uU, uU, uU, uU, uU, uU, uU, uU, uU, uU, uU] [(.int (3 : Int32)), (.ref a105), (.int (2 : Int32)), (.ref a105), (.int (1 : Int32)), (.ref a105), (.int (0 : Int32)), (.ref a105)]))
    obtain ⟨d134, hd134⟩ : ∃ v, FP.l2d y4 = v := ⟨_, rfl⟩
    have D134 : OwnDS 0 jy4 d134 := by rw [← hd134]; exact own_l2db Fy4 by4 (by decide)
    obtain ⟨d135, hd135⟩ : ∃ v, FP.l2d y5 = v := ⟨_, rfl⟩
    have D135 : OwnDS 0 jy5 d135 := by rw [← hd135]; exact own_l2db Fy5 by5 (by decide)
    refine OwnGo.pre (fun t k => XT.lload X133.here hx rfl (hb hby at_341) rfl (XS.l2dS X133.here hx rfl (hb hby at_343) rfl hd134 (XT.lload X133.here hx rfl (hb hby at_344) rfl (XS.l2dS X133.here hx rfl (hb hby at_346) rfl hd135 k)))) ?_
    show OwnGo _ _ _ _ (T133.setTop (mkF m 347 #[sI p0, sI p1, sI p2, sI p3, sJ p4, uS, sI p5, sJ y0, uS, sJ y1, uS, sJ y2, uS, sJ y3, uS, sJ y4, uS, sJ y5, uS, sI (0 : Int32), sI ii, sR a105, sR a114, sR a117, sR a120, sR a123, sR a105, sR a105, sR a105, sR a105, sI (0 : Int32), sI (1 : Int32), sI (2 : Int32), sI (3 : Int32), uU, uU, uU, uU, uU, uU, uU, uU, uU, uU, uU, uU, uU, uU, uU, uU, uU, uU, uU, uU, uU] [(.double d135), (.double d134), (.int (3 : Int32)), (.ref a105), (.int (2 : Int32)), (.ref a105), (.int (1 : Int32)), (.ref a105), (.int (0 : Int32)), (.ref a105)]))
    obtain ⟨_, _, ⟨T136, L136, k136, n136⟩, -, X136, ⟨Lc136, hQ136, l136, y136, z136⟩, st136⟩ := Jvm.LawKit.callS X133 hx (y := (⟨"com/example/isochron/isochron/dsp/Fourier", "join", "([DI[DI[DI[DIDD)V"⟩ : MethodName)) hown (mvT hZ (hw _ (List.mem_of_getElem? (i := 6) rfl))) (mvT hZ (hw _ (List.mem_of_getElem? (i := 7) rfl))) (mvT hZ (hw _ (List.mem_of_getElem? (i := 8) rfl))) (mvT hZ (hw _ (List.mem_of_getElem? (i := 9) rfl))) (by decide) (backOf (W := 0) (rm := ({ frames := 0, cells := 0, slots := 0, locals := 0 } : Room)) (Q := Q_rmK0 Z a105 d126 d128 d130 d132 (4602678819172646912 : UInt64) (4602678819172646912 : UInt64) (4602678819172646912 : UInt64) (4602678819172646912 : UInt64) d134 d135 jy0 jy1 jy2 jy3 jy4 jy5 h133 n0) (rmK0 l Z a0 hw [] a105 d126 d128 d130 d132 (4602678819172646912 : UInt64) (4602678819172646912 : UInt64) (4602678819172646912 : UInt64) (4602678819172646912 : UInt64) d134 d135 jy0 jy1 jy2 jy3 jy4 jy5 h133 n0 Z133 A133n G105 D126 by0 D128 by1 D130 by2 D132 by3 D134 by4 D135 by5) hZ (hw _ (List.mem_of_getElem? (i := 9) rfl)) (hw _ (List.mem_of_getElem? (i := 8) rfl)) (by decide) (by decide)) (g := (mkF m 347 #[sI p0, sI p1, sI p2, sI p3, sJ p4, uS, sI p5, sJ y0, uS, sJ y1, uS, sJ y2, uS, sJ y3, uS, sJ y4, uS, sJ y5, uS, sI (0 : Int32), sI ii, sR a105, sR a114, sR a117, sR a120, sR a123, sR a105, sR a105, sR a105, sR a105, sI (0 : Int32), sI (1 : Int32), sI (2 : Int32), sI (3 : Int32), uU, uU, uU, uU, uU, uU, uU, uU, uU, uU, uU, uU, uU, uU, uU, uU, uU, uU, uU, uU, uU] [(.double d135), (.double d134), (.int (3 : Int32)), (.ref a105), (.int (2 : Int32)), (.ref a105), (.int (1 : Int32)), (.ref a105), (.int (0 : Int32)), (.ref a105)])) rfl (by rw [hml]; rfl) (argsL := [(.ref a105), (.int (0 : Int32)), (.ref a105), (.int (1 : Int32)), (.ref a105), (.int (2 : Int32)), (.ref a105), (.int (3 : Int32)), (.double d134), (.double d135)]) (rest := []) (lenOf pd_rmK0 rfl) rfl (by show 2 * 0 + _ ≤ _; exact Nat.le_of_eq rfl) (hb hby at_347) (fun _ _ => ⟨rfl, e133, (by decide : 5 + 0 ≤ _), (by decide : 16 + 0 ≤ _)⟩)
    dsimp only [Pt.U, Pt.locs, Pt.cells, Pt.slots] at X136 l136 y136 z136 st136 hQ136
    replace l136 := l136.symm
    replace y136 := y136.symm
    replace z136 := z136.symm
    subst l136 y136 z136
    obtain ⟨ro0_0z, ro0_1z, ro0_2z, ro0_3z, rfl, Hro0_0z, Bjro0_0z, Hro0_1z, Bjro0_1z, Hro0_2z, Bjro0_2z, Hro0_3z, Bjro0_3z, AFo0z, KF136, N136, Z136⟩ := hQ136
    refine OwnGo.pre (fun t k => st136 t k) ?_
    show OwnGo _ _ _ _ (T136.setTop (mkF m 350 #[sI p0, sI p1, sI p2, sI p3, sJ p4, uS, sI p5, sJ y0, uS, sJ y1, uS, sJ y2, uS, sJ y3, uS, sJ y4, uS, sJ y5, uS, sI (0 : Int32), sI ii, sR a105, sR a114, sR a117, sR a120, sR a123, sR a105, sR a105, sR a105, sR a105, sI (0 : Int32), sI (1 : Int32), sI (2 : Int32), sI (3 : Int32), uU, uU, uU, uU, uU, uU, uU, uU, uU, uU, uU, uU, uU, uU, uU, uU, uU, uU, uU, uU, uU] []))
    have M136 := Fr.app N133 N136
    have A136_a114 := A133_a114.kp KF136 (ninS nea105_114.symm nin0)
    have A136_a117 := A133_a117.kp KF136 (ninS nea105_117.symm nin0)
    have A136_a120 := A133_a120.kp KF136 (ninS nea105_120.symm nin0)
    have A136_a123 := A133_a123.kp KF136 (ninS nea105_123.symm nin0)
    obtain ⟨jro0_0z, hjro0_0z⟩ : ∃ i : Int, i = ((jy0 + jy2) - (((jy0 - jy2) * jy5) + ((jy1 + jy3) * jy4))) := ⟨_, rfl⟩
    rw [← hjro0_0z] at Hro0_0z Bjro0_0z
    obtain ⟨jro0_1z, hjro0_1z⟩ : ∃ i : Int, i = ((jy1 - jy3) + (((jy0 - jy2) * jy4) - ((jy1 + jy3) * jy5))) := ⟨_, rfl⟩
    rw [← hjro0_1z] at Hro0_1z Bjro0_1z
    obtain ⟨jro0_2z, hjro0_2z⟩ : ∃ i : Int, i = ((jy0 + jy2) + (((jy0 - jy2) * jy5) + ((jy1 + jy3) * jy4))) := ⟨_, rfl⟩
    rw [← hjro0_2z] at Hro0_2z Bjro0_2z
    obtain ⟨jro0_3z, hjro0_3z⟩ : ∃ i : Int, i = ((((jy0 - jy2) * jy4) - ((jy1 + jy3) * jy5)) - (jy1 - jy3)) := ⟨_, rfl⟩
    rw [← hjro0_3z] at Hro0_3z Bjro0_3z
    obtain ⟨v137, hv137⟩ : ∃ v, y0 + y2 = v := ⟨_, rfl⟩
    obtain ⟨j137, hj137⟩ : ∃ i : Int, i = jy0 + jy2 := ⟨_, rfl⟩
    have B137 : -16777216 ≤ j137 ∧ j137 ≤ 16777216 := by rw [hj137]; exact own_bd_add by0 by2 (by decide)
    have F137 : v137.toInt = j137 := own_lf_add hv137 Fy0 Fy2 by0 by2 (by decide) hj137
    obtain ⟨v138, hv138⟩ : ∃ v, y1 - y3 = v := ⟨_, rfl⟩
    obtain ⟨j138, hj138⟩ : ∃ i : Int, i = jy1 - jy3 := ⟨_, rfl⟩
    have B138 : -16777216 ≤ j138 ∧ j138 ≤ 16777216 := by rw [hj138]; exact own_bd_sub by1 by3 (by decide)
    have F138 : v138.toInt = j138 := own_lf_sub hv138 Fy1 Fy3 by1 by3 (by decide) hj138
    refine OwnGo.pre (fun t k => XT.lload X136.here hx rfl (hb hby at_350) rfl (XT.lload X136.here hx rfl (hb hby at_352) rfl (own_ladd X136.here hx rfl (hb hby at_354) rfl hv137 (XT.lstore X136.here hx rfl (hb hby at_355) rfl (l' := #[sI p0, sI p1, sI p2, sI p3, sJ p4, uS, sI p5, sJ y0, uS, sJ y1, uS, sJ y2, uS, sJ y3, uS, sJ y4, uS, sJ y5, uS, sI (0 : Int32), sI ii, sR a105, sR a114, sR a117, sR a120, sR a123, sR a105, sR a105, sR a105, sR a105, sI (0 : Int32), sI (1 : Int32), sI (2 : Int32), sI (3 : Int32), sJ v137, uS, uU, uU, uU, uU, uU, uU, uU, uU, uU, uU, uU, uU, uU, uU, uU, uU, uU, uU, uU]) rfl (XT.lload X136.here hx rfl (hb hby at_357) rfl (XT.lload X136.here hx rfl (hb hby at_359) rfl (own_lsub X136.here hx rfl (hb hby at_361) rfl hv138 (XT.lstore X136.here hx rfl (hb hby at_362) rfl (l' := #[sI p0, sI p1, sI p2, sI p3, sJ p4, uS, sI p5, sJ y0, uS, sJ y1, uS, sJ y2, uS, sJ y3, uS, sJ y4, uS, sJ y5, uS, sI (0 : Int32), sI ii, sR a105, sR a114, sR a117, sR a120, sR a123, sR a105, sR a105, sR a105, sR a105, sI (0 : Int32), sI (1 : Int32), sI (2 : Int32), sI (3 : Int32), sJ v137, uS, sJ v138, uS, uU, uU, uU, uU, uU, uU, uU, uU, uU, uU, uU, uU, uU, uU, uU, uU, uU]) rfl k)))))))) ?_
    show OwnGo _ _ _ _ (T136.setTop (mkF m 364 #[sI p0, sI p1, sI p2, sI p3, sJ p4, uS, sI p5, sJ y0, uS, sJ y1, uS, sJ y2, uS, sJ y3, uS, sJ y4, uS, sJ y5, uS, sI (0 : Int32), sI ii, sR a105, sR a114, sR a117, sR a120, sR a123, sR a105, sR a105, sR a105, sR a105, sI (0 : Int32), sI (1 : Int32), sI (2 : Int32), sI (3 : Int32), sJ v137, uS, sJ v138, uS, uU, uU, uU, uU, uU, uU, uU, uU, uU, uU, uU, uU, uU, uU, uU, uU, uU] []))
    obtain ⟨v139, hv139⟩ : ∃ v, y0 - y2 = v := ⟨_, rfl⟩
    obtain ⟨j139, hj139⟩ : ∃ i : Int, i = jy0 - jy2 := ⟨_, rfl⟩
    have B139 : -16777216 ≤ j139 ∧ j139 ≤ 16777216 := by rw [hj139]; exact own_bd_sub by0 by2 (by decide)
    have F139 : v139.toInt = j139 := own_lf_sub hv139 Fy0 Fy2 by0 by2 (by decide) hj139
    obtain ⟨v140, hv140⟩ : ∃ v, y1 + y3 = v := ⟨_, rfl⟩
    obtain ⟨j140, hj140⟩ : ∃ i : Int, i = jy1 + jy3 := ⟨_, rfl⟩
    have B140 : -16777216 ≤ j140 ∧ j140 ≤ 16777216 := by rw [hj140]; exact own_bd_add by1 by3 (by decide)
    have F140 : v140.toInt = j140 := own_lf_add hv140 Fy1 Fy3 by1 by3 (by decide) hj140
    refine OwnGo.pre (fun t k => XT.lload X136.here hx rfl (hb hby at_364) rfl (XT.lload X136.here hx rfl (hb hby at_366) rfl (own_lsub X136.here hx rfl (hb hby at_368) rfl hv139 (XT.lstore X136.here hx rfl (hb hby at_369) rfl (l' := #[sI p0, sI p1, sI p2, sI p3, sJ p4, uS, sI p5, sJ y0, uS, sJ y1, uS, sJ y2, uS, sJ y3, uS, sJ y4, uS, sJ y5, uS, sI (0 : Int32), sI ii, sR a105, sR a114, sR a117, sR a120, sR a123, sR a105, sR a105, sR a105, sR a105, sI (0 : Int32), sI (1 : Int32), sI (2 : Int32), sI (3 : Int32), sJ v137, uS, sJ v138, uS, sJ v139, uS, uU, uU, uU, uU, uU, uU, uU, uU, uU, uU, uU, uU, uU, uU, uU]) rfl (XT.lload X136.here hx rfl (hb hby at_371) rfl (XT.lload X136.here hx rfl (hb hby at_373) rfl (own_ladd X136.here hx rfl (hb hby at_375) rfl hv140 (XT.lstore X136.here hx rfl (hb hby at_376) rfl (l' := #[sI p0, sI p1, sI p2, sI p3, sJ p4, uS, sI p5, sJ y0, uS, sJ y1, uS, sJ y2, uS, sJ y3, uS, sJ y4, uS, sJ y5, uS, sI (0 : Int32), sI ii, sR a105, sR a114, sR a117, sR a120, sR a123, sR a105, sR a105, sR a105, sR a105, sI (0 : Int32), sI (1 : Int32), sI (2 : Int32), sI (3 : Int32), sJ v137, uS, sJ v138, uS, sJ v139, uS, sJ v140, uS, uU, uU, uU, uU, uU, uU, uU, uU, uU, uU, uU, uU, uU]) rfl k)))))))) ?_
    show OwnGo _ _ _ _ (T136.setTop (mkF m 378 #[sI p0, sI p1, sI p2, sI p3, sJ p4, uS, sI p5, sJ y0, uS, sJ y1, uS, sJ y2, uS, sJ y3, uS, sJ y4, uS, sJ y5, uS, sI (0 : Int32), sI ii, sR a105, sR a114, sR a117, sR a120, sR a123, sR a105, sR a105, sR a105, sR a105, sI (0 : Int32), sI (1 : Int32), sI (2 : Int32), sI (3 : Int32), sJ v137, uS, sJ v138, uS, sJ v139, uS, sJ v140, uS, uU, uU, uU, uU, uU, uU, uU, uU, uU, uU, uU, uU, uU] []))
    refine OwnGo.pre (fun t k => XT.lload X136.here hx rfl (hb hby at_378) rfl (XT.lload X136.here hx rfl (hb hby at_380) rfl (XT.lload X136.here hx rfl (hb hby at_382) rfl (XT.lload X136.here hx rfl (hb hby at_384) rfl k)))) ?_
    show OwnGo _ _ _ _ (T136.setTop (mkF m 386 #[sI p0, sI p1, sI p2, sI p3, sJ p4, uS, sI p5, sJ y0, uS, sJ y1, uS, sJ y2, uS, sJ y3, uS, sJ y4, uS, sJ y5, uS, sI (0 : Int32), sI ii, sR a105, sR a114, sR a117, sR a120, sR a123, sR a105, sR a105, sR a105, sR a105, sI (0 : Int32), sI (1 : Int32), sI (2 : Int32), sI (3 : Int32), sJ v137, uS, sJ v138, uS, sJ v139, uS, sJ v140, uS, uU, uU, uU, uU, uU, uU, uU, uU, uU, uU, uU, uU, uU] [(.long y5), (.long y4), (.long v140), (.long v139)]))
    obtain ⟨_, _, ⟨T141, L141, k141, n141⟩, -, X141, ⟨Lc141, hQ141, l141, y141, z141⟩, st141⟩ := Jvm.LawKit.callS X136 hx (y := (⟨"com/example/isochron/isochron/dsp/FourierJoinPinLaw", "mulRe", "(JJJJ)J"⟩ : MethodName)) hown (mvT hZ (hw _ (List.mem_of_getElem? (i := 10) rfl))) (mvT hZ (hw _ (List.mem_of_getElem? (i := 11) rfl))) (mvT hZ (hw _ (List.mem_of_getElem? (i := 2) rfl))) (mvT hZ (hw _ (List.mem_of_getElem? (i := 12) rfl))) (by decide) (backOf (W := 0) (rm := ({ frames := 0, cells := 0, slots := 0, locals := 0 } : Room)) (Q := Q_rmRe Z v139 v140 y4 y5 j139 j140 jy4 jy5 T136.heap n0) (rmRe l Z a0 hw [] v139 v140 y4 y5 j139 j140 jy4 jy5 T136.heap n0 Z136 F139 (own_bd_le B139 (by decide)) F140 (own_bd_le B140 (by decide)) Fy4 (own_bd_le by4 (by decide)) Fy5 (own_bd_le by5 (by decide))) hZ (hw _ (List.mem_of_getElem? (i := 12) rfl)) (hw _ (List.mem_of_getElem? (i := 2) rfl)) (by decide) (by decide)) (g := (mkF m 386 #[sI p0, sI p1, sI p2, sI p3, sJ p4, uS, sI p5, sJ y0, uS, sJ y1, uS, sJ y2, uS, sJ y3, uS, sJ y4, uS, sJ y5, uS, sI (0 : Int32), sI ii, sR a105, sR a114, sR a117, sR a120, sR a123, sR a105, sR a105, sR a105, sR a105, sI (0 : Int32), sI (1 : Int32), sI (2 : Int32), sI (3 : Int32), sJ v137, uS, sJ v138, uS, sJ v139, uS, sJ v140, uS, uU, uU, uU, uU, uU, uU, uU, uU, uU, uU, uU, uU, uU] [(.long y5), (.long y4), (.long v140), (.long v139)])) rfl (by rw [hml]; rfl) (argsL := [(.long v139), (.long v140), (.long y4), (.long y5)]) (rest := []) (lenOf pd_rmRe rfl) rfl (by show 2 * 0 + _ ≤ _; exact Nat.le_of_eq rfl) (hb hby at_386) (fun _ _ => ⟨rfl, rfl, (by decide : 5 + 0 ≤ _), (by decide : 16 + 0 ≤ _)⟩)
    dsimp only [Pt.U, Pt.locs, Pt.cells, Pt.slots] at X141 l141 y141 z141 st141 hQ141
    replace l141 := l141.symm
    replace y141 := y141.symm
    replace z141 := z141.symm
    subst l141 y141 z141
    obtain ⟨wr, rfl, Fwr, N141, e141⟩ := hQ141
    refine OwnGo.pre (fun t k => st141 t k) ?_
    show OwnGo _ _ _ _ (T141.setTop (mkF m 389 #[sI p0, sI p1, sI p2, sI p3, sJ p4, uS, sI p5, sJ y0, uS, sJ y1, uS, sJ y2, uS, sJ y3, uS, sJ y4, uS, sJ y5, uS, sI (0 : Int32), sI ii, sR a105, sR a114, sR a117, sR a120, sR a123, sR a105, sR a105, sR a105, sR a105, sI (0 : Int32), sI (1 : Int32), sI (2 : Int32), sI (3 : Int32), sJ v137, uS, sJ v138, uS, sJ v139, uS, sJ v140, uS, uU, uU, uU, uU, uU, uU, uU, uU, uU, uU, uU, uU, uU] [(.long wr)]))
    have M141 := Fr.app M136 N141
    obtain ⟨jwr, hjwr⟩ : ∃ i : Int, i = j139 * jy4 - j140 * jy5 := ⟨_, rfl⟩
    rw [← hjwr] at Fwr
    have Bwr : -281474976710656 ≤ jwr ∧ jwr ≤ 281474976710656 := by rw [hjwr]; exact own_bd_sub (own_bd_mul B139 by4 rfl) (own_bd_mul B140 by5 rfl) (by decide)
    refine OwnGo.pre (fun t k => XT.lstore X141.here hx rfl (hb hby at_389) rfl (l' := #[sI p0, sI p1, sI p2, sI p3, sJ p4, uS, sI p5, sJ y0, uS, sJ y1, uS, sJ y2, uS, sJ y3, uS, sJ y4, uS, sJ y5, uS, sI (0 : Int32), sI ii, sR a105, sR a114, sR a117, sR a120, sR a123, sR a105, sR a105, sR a105, sR a105, sI (0 : Int32), sI (1 : Int32), sI (2 : Int32), sI (3 : Int32), sJ v137, uS, sJ v138, uS, sJ v139, uS, sJ v140, uS, sJ wr, uS, uU, uU, uU, uU, uU, uU, uU, uU, uU, uU, uU]) rfl (XT.lload X141.here hx rfl (hb hby at_391) rfl (XT.lload X141.here hx rfl (hb hby at_393) rfl (XT.lload X141.here hx rfl (hb hby at_395) rfl (XT.lload X141.here hx rfl (hb hby at_397) rfl k))))) ?_
    show OwnGo _ _ _ _ (T141.setTop (mkF m 399 #[sI p0, sI p1, sI p2, sI p3, sJ p4, uS, sI p5, sJ y0, uS, sJ y1, uS, sJ y2, uS, sJ y3, uS, sJ y4, uS, sJ y5, uS, sI (0 : Int32), sI ii, sR a105, sR a114, sR a117, sR a120, sR a123, sR a105, sR a105, sR a105, sR a105, sI (0 : Int32), sI (1 : Int32), sI (2 : Int32), sI (3 : Int32), sJ v137, uS, sJ v138, uS, sJ v139, uS, sJ v140, uS, sJ wr, uS, uU, uU, uU, uU, uU, uU, uU, uU, uU, uU, uU] [(.long y5), (.long y4), (.long v140), (.long v139)]))
    obtain ⟨_, _, ⟨T142, L142, k142, n142⟩, -, X142, ⟨Lc142, hQ142, l142, y142, z142⟩, st142⟩ := Jvm.LawKit.callS X141 hx (y := (⟨"com/example/isochron/isochron/dsp/FourierJoinPinLaw", "mulIm", "(JJJJ)J"⟩ : MethodName)) hown (mvT hZ (hw _ (List.mem_of_getElem? (i := 13) rfl))) (mvT hZ (hw _ (List.mem_of_getElem? (i := 14) rfl))) (mvT hZ (hw _ (List.mem_of_getElem? (i := 2) rfl))) (mvT hZ (hw _ (List.mem_of_getElem? (i := 15) rfl))) (by decide) (backOf (W := 0) (rm := ({ frames := 0, cells := 0, slots := 0, locals := 0 } : Room)) (Q := Q_rmIm Z v139 v140 y4 y5 j139 j140 jy4 jy5 T136.heap n0) (rmIm l Z a0 hw [] v139 v140 y4 y5 j139 j140 jy4 jy5 T136.heap n0 Z136 F139 (own_bd_le B139 (by decide)) F140 (own_bd_le B140 (by decide)) Fy4 (own_bd_le by4 (by decide)) Fy5 (own_bd_le by5 (by decide))) hZ (hw _ (List.mem_of_getElem? (i := 15) rfl)) (hw _ (List.mem_of_getElem? (i := 2) rfl)) (by decide) (by decide)) (g := (mkF m 399 #[sI p0, sI p1, sI p2, sI p3, sJ p4, uS, sI p5, sJ y0, uS, sJ y1, uS, sJ y2, uS, sJ y3, uS, sJ y4, uS, sJ y5, uS, sI (0 : Int32), sI ii, sR a105, sR a114, sR a117, sR a120, sR a123, sR a105, sR a105, sR a105, sR a105, sI (0 : Int32), sI (1 : Int32), sI (2 : Int32), sI (3 : Int32), sJ v137, uS, sJ v138, uS, sJ v139, uS, sJ v140, uS, sJ wr, uS, uU, uU, uU, uU, uU, uU, uU, uU, uU, uU, uU] [(.long y5), (.long y4), (.long v140), (.long v139)])) rfl (by rw [hml]; rfl) (argsL := [(.long v139), (.long v140), (.long y4), (.long y5)]) (rest := []) (lenOf pd_rmIm rfl) rfl (by show 2 * 0 + _ ≤ _; exact Nat.le_of_eq rfl) (hb hby at_399) (fun _ _ => ⟨rfl, e141, (by decide : 5 + 0 ≤ _), (by decide : 16 + 0 ≤ _)⟩)
    dsimp only [Pt.U, Pt.locs, Pt.cells, Pt.slots] at X142 l142 y142 z142 st142 hQ142
    replace l142 := l142.symm
    replace y142 := y142.symm
    replace z142 := z142.symm
    subst l142 y142 z142
    obtain ⟨wi, rfl, Fwi, N142, e142⟩ := hQ142
    refine OwnGo.pre (fun t k => st142 t k) ?_
    show OwnGo _ _ _ _ (T142.setTop (mkF m 402 #[sI p0, sI p1, sI p2, sI p3, sJ p4, uS, sI p5, sJ y0, uS, sJ y1, uS, sJ y2, uS, sJ y3, uS, sJ y4, uS, sJ y5, uS, sI (0 : Int32), sI ii, sR a105, sR a114, sR a117, sR a120, sR a123, sR a105, sR a105, sR a105, sR a105, sI (0 : Int32), sI (1 : Int32), sI (2 : Int32), sI (3 : Int32), sJ v137, uS, sJ v138, uS, sJ v139, uS, sJ v140, uS, sJ wr, uS, uU, uU, uU, uU, uU, uU, uU, uU, uU, uU, uU] [(.long wi)]))
    have M142 := Fr.app M141 N142
    obtain ⟨jwi, hjwi⟩ : ∃ i : Int, i = j139 * jy5 + j140 * jy4 := ⟨_, rfl⟩
    rw [← hjwi] at Fwi
    have Bwi : -281474976710656 ≤ jwi ∧ jwi ≤ 281474976710656 := by rw [hjwi]; exact own_bd_add (own_bd_mul B139 by5 rfl) (own_bd_mul B140 by4 rfl) (by decide)
    refine OwnGo.pre (fun t k => XT.lstore X142.here hx rfl (hb hby at_402) rfl (l' := #[sI p0, sI p1, sI p2, sI p3, sJ p4, uS, sI p5, sJ y0, uS, sJ y1, uS, sJ y2, uS, sJ y3, uS, sJ y4, uS, sJ y5, uS, sI (0 : Int32), sI ii, sR a105, sR a114, sR a117, sR a120, sR a123, sR a105, sR a105, sR a105, sR a105, sI (0 : Int32), sI (1 : Int32), sI (2 : Int32), sI (3 : Int32), sJ v137, uS, sJ v138, uS, sJ v139, uS, sJ v140, uS, sJ wr, uS, sJ wi, uS, uU, uU, uU, uU, uU, uU, uU, uU, uU]) rfl (XS.aload X142.here hx rfl (hb hby at_404) rfl rfl (XS.iload X142.here hx rfl (hb hby at_406) rfl (own_daL X142 hx hZ e142 AFo0z (j := (0 : Int32)) (by decide) (i := 0) (by decide) (x := ro0_0z) rfl (g := (mkF m 408 #[sI p0, sI p1, sI p2, sI p3, sJ p4, uS, sI p5, sJ y0, uS, sJ y1, uS, sJ y2, uS, sJ y3, uS, sJ y4, uS, sJ y5, uS, sI (0 : Int32), sI ii, sR a105, sR a114, sR a117, sR a120, sR a123, sR a105, sR a105, sR a105, sR a105, sI (0 : Int32), sI (1 : Int32), sI (2 : Int32), sI (3 : Int32), sJ v137, uS, sJ v138, uS, sJ v139, uS, sJ v140, uS, sJ wr, uS, sJ wi, uS, uU, uU, uU, uU, uU, uU, uU, uU, uU] [(.int (0 : Int32)), (.ref a105)])) rfl (rest := []) rfl (hb hby at_408) (XS.dstore X142.here hx rfl (hb hby at_409) rfl (l' := #[sI p0, sI p1, sI p2, sI p3, sJ p4, uS, sI p5, sJ y0, uS, sJ y1, uS, sJ y2, uS, sJ y3, uS, sJ y4, uS, sJ y5, uS, sI (0 : Int32), sI ii, sR a105, sR a114, sR a117, sR a120, sR a123, sR a105, sR a105, sR a105, sR a105, sI (0 : Int32), sI (1 : Int32), sI (2 : Int32), sI (3 : Int32), sJ v137, uS, sJ v138, uS, sJ v139, uS, sJ v140, uS, sJ wr, uS, sJ wi, uS, sD ro0_0z, uS, uU, uU, uU, uU, uU, uU, uU]) rfl (XS.aload X142.here hx rfl (hb hby at_411) rfl rfl (XS.iload X142.here hx rfl (hb hby at_413) rfl (own_daL X142 hx hZ e142 AFo0z (j := (1 : Int32)) (by decide) (i := 1) (by decide) (x := ro0_1z) rfl (g := (mkF m 415 #[sI p0, sI p1, sI p2, sI p3, sJ p4, uS, sI p5, sJ y0, uS, sJ y1, uS, sJ y2, uS, sJ y3, uS, sJ y4, uS, sJ y5, uS, sI (0 : Int32), sI ii, sR a105, sR a114, sR a117, sR a120, sR a123, sR a105, sR a105, sR a105, sR a105, sI (0 : Int32), sI (1 : Int32), sI (2 : Int32), sI (3 : Int32), sJ v137, uS, sJ v138, uS, sJ v139, uS, sJ v140, uS, sJ wr, uS, sJ wi, uS, sD ro0_0z, uS, uU, uU, uU, uU, uU, uU, uU] [(.int (1 : Int32)), (.ref a105)])) rfl (rest := []) rfl (hb hby at_415) k)))))))) ?_
    show OwnGo _ _ _ _ (T142.setTop (mkF m 416 #[sI p0, sI p1, sI p2, sI p3, sJ p4, uS, sI p5, sJ y0, uS, sJ y1, uS, sJ y2, uS, sJ y3, uS, sJ y4, uS, sJ y5, uS, sI (0 : Int32), sI ii, sR a105, sR a114, sR a117, sR a120, sR a123, sR a105, sR a105, sR a105, sR a105, sI (0 : Int32), sI (1 : Int32), sI (2 : Int32), sI (3 : Int32), sJ v137, uS, sJ v138, uS, sJ v139, uS, sJ v140, uS, sJ wr, uS, sJ wi, uS, sD ro0_0z, uS, uU, uU, uU, uU, uU, uU, uU] [(.double ro0_1z)]))
    refine OwnGo.pre (fun t k => XS.dstore X142.here hx rfl (hb hby at_416) rfl (l' := #[sI p0, sI p1, sI p2, sI p3, sJ p4, uS, sI p5, sJ y0, uS, sJ y1, uS, sJ y2, uS, sJ y3, uS, sJ y4, uS, sJ y5, uS, sI (0 : Int32), sI ii, sR a105, sR a114, sR a117, sR a120, sR a123, sR a105, sR a105, sR a105, sR a105, sI (0 : Int32), sI (1 : Int32), sI (2 : Int32), sI (3 : Int32), sJ v137, uS, sJ v138, uS, sJ v139, uS, sJ v140, uS, sJ wr, uS, sJ wi, uS, sD ro0_0z, uS, sD ro0_1z, uS, uU, uU, uU, uU, uU]) rfl (XS.aload X142.here hx rfl (hb hby at_418) rfl rfl (XS.iload X142.here hx rfl (hb hby at_420) rfl (own_daL X142 hx hZ e142 AFo0z (j := (2 : Int32)) (by decide) (i := 2) (by decide) (x := ro0_2z) rfl (g := (mkF m 422 #[sI p0, sI p1, sI p2, sI p3, sJ p4, uS, sI p5, sJ y0, uS, sJ y1, uS, sJ y2, uS, sJ y3, uS, sJ y4, uS, sJ y5, uS, sI (0 : Int32), sI ii, sR a105, sR a114, sR a117, sR a120, sR a123, sR a105, sR a105, sR a105, sR a105, sI (0 : Int32), sI (1 : Int32), sI (2 : Int32), sI (3 : Int32), sJ v137, uS, sJ v138, uS, sJ v139, uS, sJ v140, uS, sJ wr, uS, sJ wi, uS, sD ro0_0z, uS, sD ro0_1z, uS, uU, uU, uU, uU, uU] [(.int (2 : Int32)), (.ref a105)])) rfl (rest := []) rfl (hb hby at_422) (XS.dstore X142.here hx rfl (hb hby at_423) rfl (l' := #[sI p0, sI p1, sI p2, sI p3, sJ p4, uS, sI p5, sJ y0, uS, sJ y1, uS, sJ y2, uS, sJ y3, uS, sJ y4, uS, sJ y5, uS, sI (0 : Int32), sI ii, sR a105, sR a114, sR a117, sR a120, sR a123, sR a105, sR a105, sR a105, sR a105, sI (0 : Int32), sI (1 : Int32), sI (2 : Int32), sI (3 : Int32), sJ v137, uS, sJ v138, uS, sJ v139, uS, sJ v140, uS, sJ wr, uS, sJ wi, uS, sD ro0_0z, uS, sD ro0_1z, uS, sD ro0_2z, uS, uU, uU, uU]) rfl (XS.aload X142.here hx rfl (hb hby at_425) rfl rfl (XS.iload X142.here hx rfl (hb hby at_427) rfl (own_daL X142 hx hZ e142 AFo0z (j := (3 : Int32)) (by decide) (i := 3) (by decide) (x := ro0_3z) rfl (g := (mkF m 429 #[sI p0, sI p1, sI p2, sI p3, sJ p4, uS, sI p5, sJ y0, uS, sJ y1, uS, sJ y2, uS, sJ y3, uS, sJ y4, uS, sJ y5, uS, sI (0 : Int32), sI ii, sR a105, sR a114, sR a117, sR a120, sR a123, sR a105, sR a105, sR a105, sR a105, sI (0 : Int32), sI (1 : Int32), sI (2 : Int32), sI (3 : Int32), sJ v137, uS, sJ v138, uS, sJ v139, uS, sJ v140, uS, sJ wr, uS, sJ wi, uS, sD ro0_0z, uS, sD ro0_1z, uS, sD ro0_2z, uS, uU, uU, uU] [(.int (3 : Int32)), (.ref a105)])) rfl (rest := []) rfl (hb hby at_429) k)))))))) ?_
    show OwnGo _ _ _ _ (T142.setTop (mkF m 430 #[sI p0, sI p1, sI p2, sI p3, sJ p4, uS, sI p5, sJ y0, uS, sJ y1, uS, sJ y2, uS, sJ y3, uS, sJ y4, uS, sJ y5, uS, sI (0 : Int32), sI ii, sR a105, sR a114, sR a117, sR a120, sR a123, sR a105, sR a105, sR a105, sR a105, sI (0 : Int32), sI (1 : Int32), sI (2 : Int32), sI (3 : Int32), sJ v137, uS, sJ v138, uS, sJ v139, uS, sJ v140, uS, sJ wr, uS, sJ wi, uS, sD ro0_0z, uS, sD ro0_1z, uS, sD ro0_2z, uS, uU, uU, uU] [(.double ro0_3z)]))
    refine OwnGo.pre (fun t k => XS.dstore X142.here hx rfl (hb hby at_430) rfl (l' := #[sI p0, sI p1, sI p2, sI p3, sJ p4, uS, sI p5, sJ y0, uS, sJ y1, uS, sJ y2, uS, sJ y3, uS, sJ y4, uS, sJ y5, uS, sI (0 : Int32), sI ii, sR a105, sR a114, sR a117, sR a120, sR a123, sR a105, sR a105, sR a105, sR a105, sI (0 : Int32), sI (1 : Int32), sI (2 : Int32), sI (3 : Int32), sJ v137, uS, sJ v138, uS, sJ v139, uS, sJ v140, uS, sJ wr, uS, sJ wi, uS, sD ro0_0z, uS, sD ro0_1z, uS, sD ro0_2z, uS, sD ro0_3z, uS, uU]) rfl (XS.dload X142.here hx rfl (hb hby at_432) rfl k)) ?_
    show OwnGo _ _ _ _ (T142.setTop (mkF m 434 #[sI p0, sI p1, sI p2, sI p3, sJ p4, uS, sI p5, sJ y0, uS, sJ y1, uS, sJ y2, uS, sJ y3, uS, sJ y4, uS, sJ y5, uS, sI (0 : Int32), sI ii, sR a105, sR a114, sR a117, sR a120, sR a123, sR a105, sR a105, sR a105, sR a105, sI (0 : Int32), sI (1 : Int32), sI (2 : Int32), sI (3 : Int32), sJ v137, uS, sJ v138, uS, sJ v139, uS, sJ v140, uS, sJ wr, uS, sJ wi, uS, sD ro0_0z, uS, sD ro0_1z, uS, sD ro0_2z, uS, sD ro0_3z, uS, uU] [(.double ro0_2z)]))
    obtain ⟨_, _, ⟨T143, L143, k143, n143⟩, -, X143, ⟨Lc143, hQ143, l143, y143, z143⟩, st143⟩ := Jvm.LawKit.callS X142 hx (y := (⟨"com/example/isochron/isochron/dsp/FourierJoinPinLaw", "whole", "(D)Z"⟩ : MethodName)) hown (mvT hZ (hw _ (List.mem_of_getElem? (i := 16) rfl))) (mvT hZ (hw _ (List.mem_of_getElem? (i := 17) rfl))) (mvT hZ (hw _ (List.mem_of_getElem? (i := 2) rfl))) (mvT hZ (hw _ (List.mem_of_getElem? (i := 18) rfl))) (by decide) (backOf (W := 0) (rm := ({ frames := 0, cells := 0, slots := 0, locals := 0 } : Room)) (Q := Q_rmW Z ro0_2z jro0_2z T136.heap n0) (rmW l Z a0 hw [] ro0_2z jro0_2z T136.heap n0 Z136 Hro0_2z (own_bd_le Bjro0_2z (by decide))) hZ (hw _ (List.mem_of_getElem? (i := 18) rfl)) (hw _ (List.mem_of_getElem? (i := 2) rfl)) (by decide) (by decide)) (g := (mkF m 434 #[sI p0, sI p1, sI p2, sI p3, sJ p4, uS, sI p5, sJ y0, uS, sJ y1, uS, sJ y2, uS, sJ y3, uS, sJ y4, uS, sJ y5, uS, sI (0 : Int32), sI ii, sR a105, sR a114, sR a117, sR a120, sR a123, sR a105, sR a105, sR a105, sR a105, sI (0 : Int32), sI (1 : Int32), sI (2 : Int32), sI (3 : Int32), sJ v137, uS, sJ v138, uS, sJ v139, uS, sJ v140, uS, sJ wr, uS, sJ wi, uS, sD ro0_0z, uS, sD ro0_1z, uS, sD ro0_2z, uS, sD ro0_3z, uS, uU] [(.double ro0_2z)])) rfl (by rw [hml]; rfl) (argsL := [(.double ro0_2z)]) (rest := []) (lenOf pd_rmW rfl) rfl (by show 2 * 0 + _ ≤ _; exact Nat.le_of_eq rfl) (hb hby at_434) (fun _ _ => ⟨rfl, e142, (by decide : 5 + 0 ≤ _), (by decide : 16 + 0 ≤ _)⟩)
    dsimp only [Pt.U, Pt.locs, Pt.cells, Pt.slots] at X143 l143 y143 z143 st143 hQ143
    replace l143 := l143.symm
    replace y143 := y143.symm
    replace z143 := z143.symm
    subst l143 y143 z143
    obtain ⟨rfl, N143, e143⟩ := hQ143
    refine OwnGo.pre (fun t k => st143 t k) ?_
    show OwnGo _ _ _ _ (T143.setTop (mkF m 437 #[sI p0, sI p1, sI p2, sI p3, sJ p4, uS, sI p5, sJ y0, uS, sJ y1, uS, sJ y2, uS, sJ y3, uS, sJ y4, uS, sJ y5, uS, sI (0 : Int32), sI ii, sR a105, sR a114, sR a117, sR a120, sR a123, sR a105, sR a105, sR a105, sR a105, sI (0 : Int32), sI (1 : Int32), sI (2 : Int32), sI (3 : Int32), sJ v137, uS, sJ v138, uS, sJ v139, uS, sJ v140, uS, sJ wr, uS, sJ wi, uS, sD ro0_0z, uS, sD ro0_1z, uS, sD ro0_2z, uS, sD ro0_3z, uS, uU] [(.int (1 : Int32))]))
    have M143 := Fr.app M142 N143
    refine OwnGo.pre (fun t k => XS.ifNo X143.here hx rfl (hb hby at_437) rfl (by decide) (XS.dload X143.here hx rfl (hb hby at_440) rfl k)) ?_
    show OwnGo _ _ _ _ (T143.setTop (mkF m 442 #[sI p0, sI p1, sI p2, sI p3, sJ p4, uS, sI p5, sJ y0, uS, sJ y1, uS, sJ y2, uS, sJ y3, uS, sJ y4, uS, sJ y5, uS, sI (0 : Int32), sI ii, sR a105, sR a114, sR a117, sR a120, sR a123, sR a105, sR a105, sR a105, sR a105, sI (0 : Int32), sI (1 : Int32), sI (2 : Int32), sI (3 : Int32), sJ v137, uS, sJ v138, uS, sJ v139, uS, sJ v140, uS, sJ wr, uS, sJ wi, uS, sD ro0_0z, uS, sD ro0_1z, uS, sD ro0_2z, uS, sD ro0_3z, uS, uU] [(.double ro0_3z)]))
    obtain ⟨_, _, ⟨T144, L144, k144, n144⟩, -, X144, ⟨Lc144, hQ144, l144, y144, z144⟩, st144⟩ := Jvm.LawKit.callS X143 hx (y := (⟨"com/example/isochron/isochron/dsp/FourierJoinPinLaw", "whole", "(D)Z"⟩ : MethodName)) hown (mvT hZ (hw _ (List.mem_of_getElem? (i := 16) rfl))) (mvT hZ (hw _ (List.mem_of_getElem? (i := 17) rfl))) (mvT hZ (hw _ (List.mem_of_getElem? (i := 2) rfl))) (mvT hZ (hw _ (List.mem_of_getElem? (i := 18) rfl))) (by decide) (backOf (W := 0) (rm := ({ frames := 0, cells := 0, slots := 0, locals := 0 } : Room)) (Q := Q_rmW Z ro0_3z jro0_3z T136.heap n0) (rmW l Z a0 hw [] ro0_3z jro0_3z T136.heap n0 Z136 Hro0_3z (own_bd_le Bjro0_3z (by decide))) hZ (hw _ (List.mem_of_getElem? (i := 18) rfl)) (hw _ (List.mem_of_getElem? (i := 2) rfl)) (by decide) (by decide)) (g := (mkF m 442 #[sI p0, sI p1, sI p2, sI p3, sJ p4, uS, sI p5, sJ y0, uS, sJ y1, uS, sJ y2, uS, sJ y3, uS, sJ y4, uS, sJ y5, uS, sI (0 : Int32), sI ii, sR a105, sR a114, sR a117, sR a120, sR a123, sR a105, sR a105, sR a105, sR a105, sI (0 : Int32), sI (1 : Int32), sI (2 : Int32), sI (3 : Int32), sJ v137, uS, sJ v138, uS, sJ v139, uS, sJ v140, uS, sJ wr, uS, sJ wi, uS, sD ro0_0z, uS, sD ro0_1z, uS, sD ro0_2z, uS, sD ro0_3z, uS, uU] [(.double ro0_3z)])) rfl (by rw [hml]; rfl) (argsL := [(.double ro0_3z)]) (rest := []) (lenOf pd_rmW rfl) rfl (by show 2 * 0 + _ ≤ _; exact Nat.le_of_eq rfl) (hb hby at_442) (fun _ _ => ⟨rfl, e143, (by decide : 5 + 0 ≤ _), (by decide : 16 + 0 ≤ _)⟩)
    dsimp only [Pt.U, Pt.locs, Pt.cells, Pt.slots] at X144 l144 y144 z144 st144 hQ144
    replace l144 := l144.symm
    replace y144 := y144.symm
    replace z144 := z144.symm
    subst l144 y144 z144
    obtain ⟨rfl, N144, e144⟩ := hQ144
    refine OwnGo.pre (fun t k => st144 t k) ?_
    show OwnGo _ _ _ _ (T144.setTop (mkF m 445 #[sI p0, sI p1, sI p2, sI p3, sJ p4, uS, sI p5, sJ y0, uS, sJ y1, uS, sJ y2, uS, sJ y3, uS, sJ y4, uS, sJ y5, uS, sI (0 : Int32), sI ii, sR a105, sR a114, sR a117, sR a120, sR a123, sR a105, sR a105, sR a105, sR a105, sI (0 : Int32), sI (1 : Int32), sI (2 : Int32), sI (3 : Int32), sJ v137, uS, sJ v138, uS, sJ v139, uS, sJ v140, uS, sJ wr, uS, sJ wi, uS, sD ro0_0z, uS, sD ro0_1z, uS, sD ro0_2z, uS, sD ro0_3z, uS, uU] [(.int (1 : Int32))]))
    have M144 := Fr.app M143 N144
    obtain ⟨v145, hv145⟩ : ∃ v, FP.d2l ro0_2z = v := ⟨_, rfl⟩
    have F145 : v145.toInt = jro0_2z := by rw [← hv145]; exact own_d2lb Hro0_2z Bjro0_2z (by decide)
    obtain ⟨v146, hv146⟩ : ∃ v, v137 + wi = v := ⟨_, rfl⟩
    obtain ⟨j146, hj146⟩ : ∃ i : Int, i = j137 + jwi := ⟨_, rfl⟩
    have B146 : -281474993487872 ≤ j146 ∧ j146 ≤ 281474993487872 := by rw [hj146]; exact own_bd_add B137 Bwi (by decide)
    have F146 : v146.toInt = j146 := own_lf_add hv146 F137 Fwi B137 Bwi (by decide) hj146
    refine OwnGo.pre (fun t k => XS.ifNo X144.here hx rfl (hb hby at_445) rfl (by decide) (XS.dload X144.here hx rfl (hb hby at_448) rfl (XS.d2lS X144.here hx rfl (hb hby at_450) rfl hv145 (XT.lload X144.here hx rfl (hb hby at_451) rfl (XT.lload X144.here hx rfl (hb hby at_453) rfl (own_ladd X144.here hx rfl (hb hby at_455) rfl hv146 (own_lcmp X144.here hx rfl (hb hby at_456) rfl rfl k))))))) ?_
    show OwnGo _ _ _ _ (T144.setTop (mkF m 457 #[sI p0, sI p1, sI p2, sI p3, sJ p4, uS, sI p5, sJ y0, uS, sJ y1, uS, sJ y2, uS, sJ y3, uS, sJ y4, uS, sJ y5, uS, sI (0 : Int32), sI ii, sR a105, sR a114, sR a117, sR a120, sR a123, sR a105, sR a105, sR a105, sR a105, sI (0 : Int32), sI (1 : Int32), sI (2 : Int32), sI (3 : Int32), sJ v137, uS, sJ v138, uS, sJ v139, uS, sJ v140, uS, sJ wr, uS, sJ wi, uS, sD ro0_0z, uS, sD ro0_1z, uS, sD ro0_2z, uS, sD ro0_3z, uS, uU] [(.int (XT.cmpL v145 v146))]))
    have q457 : v145.toInt = v146.toInt := by rw [F145, F146]; simp only [hjro0_2z, hj146, hj137, hjwi, hj139, hj140] <;> exact own_eq0 jy0 jy2 jy5 jy1 jy3 jy4
    obtain ⟨v147, hv147⟩ : ∃ v, FP.d2l ro0_3z = v := ⟨_, rfl⟩
    have F147 : v147.toInt = jro0_3z := by rw [← hv147]; exact own_d2lb Hro0_3z Bjro0_3z (by decide)
    obtain ⟨v148, hv148⟩ : ∃ v, -v147 = v := ⟨_, rfl⟩
    obtain ⟨j148, hj148⟩ : ∃ i : Int, i = -jro0_3z := ⟨_, rfl⟩
    have B148 : -281474993487872 ≤ j148 ∧ j148 ≤ 281474993487872 := by rw [hj148]; exact own_bd_neg Bjro0_3z
    have F148 : v148.toInt = j148 := own_lf_neg hv148 F147 Bjro0_3z (by decide) hj148
    obtain ⟨v149, hv149⟩ : ∃ v, v138 - wr = v := ⟨_, rfl⟩
    obtain ⟨j149, hj149⟩ : ∃ i : Int, i = j138 - jwr := ⟨_, rfl⟩
    have B149 : -281474993487872 ≤ j149 ∧ j149 ≤ 281474993487872 := by rw [hj149]; exact own_bd_sub B138 Bwr (by decide)
    have F149 : v149.toInt = j149 := own_lf_sub hv149 F138 Fwr B138 Bwr (by decide) hj149
    refine OwnGo.pre (fun t k => XS.ifNo X144.here hx rfl (hb hby at_457) rfl ((own_brL .ne _ _).trans (decide_eq_false (fun q => q q457))) (XS.dload X144.here hx rfl (hb hby at_460) rfl (XS.d2lS X144.here hx rfl (hb hby at_462) rfl hv147 (own_lneg X144.here hx rfl (hb hby at_463) rfl hv148 (XT.lload X144.here hx rfl (hb hby at_464) rfl (XT.lload X144.here hx rfl (hb hby at_466) rfl (own_lsub X144.here hx rfl (hb hby at_468) rfl hv149 (own_lcmp X144.here hx rfl (hb hby at_469) rfl rfl k)))))))) ?_
    show OwnGo _ _ _ _ (T144.setTop (mkF m 470 #[sI p0, sI p1, sI p2, sI p3, sJ p4, uS, sI p5, sJ y0, uS, sJ y1, uS, sJ y2, uS, sJ y3, uS, sJ y4, uS, sJ y5, uS, sI (0 : Int32), sI ii, sR a105, sR a114, sR a117, sR a120, sR a123, sR a105, sR a105, sR a105, sR a105, sI (0 : Int32), sI (1 : Int32), sI (2 : Int32), sI (3 : Int32), sJ v137, uS, sJ v138, uS, sJ v139, uS, sJ v140, uS, sJ wr, uS, sJ wi, uS, sD ro0_0z, uS, sD ro0_1z, uS, sD ro0_2z, uS, sD ro0_3z, uS, uU] [(.int (XT.cmpL v148 v149))]))
    have q470 : v148.toInt = v149.toInt := by rw [F148, F149]; simp only [hj148, hjro0_3z, hj149, hj138, hjwr, hj139, hj140] <;> exact own_eq1 jy0 jy2 jy4 jy1 jy3 jy5
    refine OwnGo.pre (fun t k => XS.ifNo X144.here hx rfl (hb hby at_470) rfl ((own_brL .ne _ _).trans (decide_eq_false (fun q => q q470))) (XS.iconst X144.here hx rfl (hb hby at_473) (XS.goto X144.here hx rfl (pc0 := 474) (pc' := 478) rfl (hb hby at_474) (by decide) (by decide) (XS.istore X144.here hx rfl (hb hby at_478) rfl (l' := #[sI p0, sI p1, sI p2, sI p3, sJ p4, uS, sI p5, sJ y0, uS, sJ y1, uS, sJ y2, uS, sJ y3, uS, sJ y4, uS, sJ y5, uS, sI (0 : Int32), sI ii, sR a105, sR a114, sR a117, sR a120, sR a123, sR a105, sR a105, sR a105, sR a105, sI (0 : Int32), sI (1 : Int32), sI (2 : Int32), sI (3 : Int32), sJ v137, uS, sJ v138, uS, sJ v139, uS, sJ v140, uS, sJ wr, uS, sJ wi, uS, sD ro0_0z, uS, sD ro0_1z, uS, sD ro0_2z, uS, sD ro0_3z, uS, sI (1 : Int32)]) rfl (XS.iload X144.here hx rfl (hb hby at_480) rfl (XS.iconst X144.here hx rfl (hb hby at_482) (XS.icmpNo X144.here hx rfl (hb hby at_483) rfl (by decide) (XS.iload X144.here hx rfl (hb hby at_486) rfl k)))))))) ?_
    show OwnGo _ _ _ _ (T144.setTop (mkF m 488 #[sI p0, sI p1, sI p2, sI p3, sJ p4, uS, sI p5, sJ y0, uS, sJ y1, uS, sJ y2, uS, sJ y3, uS, sJ y4, uS, sJ y5, uS, sI (0 : Int32), sI ii, sR a105, sR a114, sR a117, sR a120, sR a123, sR a105, sR a105, sR a105, sR a105, sI (0 : Int32), sI (1 : Int32), sI (2 : Int32), sI (3 : Int32), sJ v137, uS, sJ v138, uS, sJ v139, uS, sJ v140, uS, sJ wr, uS, sJ wi, uS, sD ro0_0z, uS, sD ro0_1z, uS, sD ro0_2z, uS, sD ro0_3z, uS, sI (1 : Int32)] [(.int (1 : Int32))]))
    refine OwnGo.pre (fun t k => XS.ifNo X144.here hx rfl (hb hby at_488) rfl (by decide) (XS.dload X144.here hx rfl (hb hby at_491) rfl k)) ?_
    show OwnGo _ _ _ _ (T144.setTop (mkF m 493 #[sI p0, sI p1, sI p2, sI p3, sJ p4, uS, sI p5, sJ y0, uS, sJ y1, uS, sJ y2, uS, sJ y3, uS, sJ y4, uS, sJ y5, uS, sI (0 : Int32), sI ii, sR a105, sR a114, sR a117, sR a120, sR a123, sR a105, sR a105, sR a105, sR a105, sI (0 : Int32), sI (1 : Int32), sI (2 : Int32), sI (3 : Int32), sJ v137, uS, sJ v138, uS, sJ v139, uS, sJ v140, uS, sJ wr, uS, sJ wi, uS, sD ro0_0z, uS, sD ro0_1z, uS, sD ro0_2z, uS, sD ro0_3z, uS, sI (1 : Int32)] [(.double ro0_0z)]))
    obtain ⟨_, _, ⟨T150, L150, k150, n150⟩, -, X150, ⟨Lc150, hQ150, l150, y150, z150⟩, st150⟩ := Jvm.LawKit.callS X144 hx (y := (⟨"com/example/isochron/isochron/dsp/FourierJoinPinLaw", "whole", "(D)Z"⟩ : MethodName)) hown (mvT hZ (hw _ (List.mem_of_getElem? (i := 16) rfl))) (mvT hZ (hw _ (List.mem_of_getElem? (i := 17) rfl))) (mvT hZ (hw _ (List.mem_of_getElem? (i := 2) rfl))) (mvT hZ (hw _ (List.mem_of_getElem? (i := 18) rfl))) (by decide) (backOf (W := 0) (rm := ({ frames := 0, cells := 0, slots := 0, locals := 0 } : Room)) (Q := Q_rmW Z ro0_0z jro0_0z T136.heap n0) (rmW l Z a0 hw [] ro0_0z jro0_0z T136.heap n0 Z136 Hro0_0z (own_bd_le Bjro0_0z (by decide))) hZ (hw _ (List.mem_of_getElem? (i := 18) rfl)) (hw _ (List.mem_of_getElem? (i := 2) rfl)) (by decide) (by decide)) (g := (mkF m 493 #[sI p0, sI p1, sI p2, sI p3, sJ p4, uS, sI p5, sJ y0, uS, sJ y1, uS, sJ y2, uS, sJ y3, uS, sJ y4, uS, sJ y5, uS, sI (0 : Int32), sI ii, sR a105, sR a114, sR a117, sR a120, sR a123, sR a105, sR a105, sR a105, sR a105, sI (0 : Int32), sI (1 : Int32), sI (2 : Int32), sI (3 : Int32), sJ v137, uS, sJ v138, uS, sJ v139, uS, sJ v140, uS, sJ wr, uS, sJ wi, uS, sD ro0_0z, uS, sD ro0_1z, uS, sD ro0_2z, uS, sD ro0_3z, uS, sI (1 : Int32)] [(.double ro0_0z)])) rfl (by rw [hml]; rfl) (argsL := [(.double ro0_0z)]) (rest := []) (lenOf pd_rmW rfl) rfl (by show 2 * 0 + _ ≤ _; exact Nat.le_of_eq rfl) (hb hby at_493) (fun _ _ => ⟨rfl, e144, (by decide : 5 + 0 ≤ _), (by decide : 16 + 0 ≤ _)⟩)
    dsimp only [Pt.U, Pt.locs, Pt.cells, Pt.slots] at X150 l150 y150 z150 st150 hQ150
    replace l150 := l150.symm
    replace y150 := y150.symm
    replace z150 := z150.symm
    subst l150 y150 z150
    obtain ⟨rfl, N150, e150⟩ := hQ150
    refine OwnGo.pre (fun t k => st150 t k) ?_
    show OwnGo _ _ _ _ (T150.setTop (mkF m 496 #[sI p0, sI p1, sI p2, sI p3, sJ p4, uS, sI p5, sJ y0, uS, sJ y1, uS, sJ y2, uS, sJ y3, uS, sJ y4, uS, sJ y5, uS, sI (0 : Int32), sI ii, sR a105, sR a114, sR a117, sR a120, sR a123, sR a105, sR a105, sR a105, sR a105, sI (0 : Int32), sI (1 : Int32), sI (2 : Int32), sI (3 : Int32), sJ v137, uS, sJ v138, uS, sJ v139, uS, sJ v140, uS, sJ wr, uS, sJ wi, uS, sD ro0_0z, uS, sD ro0_1z, uS, sD ro0_2z, uS, sD ro0_3z, uS, sI (1 : Int32)] [(.int (1 : Int32))]))
    have M150 := Fr.app M144 N150
    refine OwnGo.pre (fun t k => XS.ifNo X150.here hx rfl (hb hby at_496) rfl (by decide) (XS.dload X150.here hx rfl (hb hby at_499) rfl k)) ?_
    show OwnGo _ _ _ _ (T150.setTop (mkF m 501 #[sI p0, sI p1, sI p2, sI p3, sJ p4, uS, sI p5, sJ y0, uS, sJ y1, uS, sJ y2, uS, sJ y3, uS, sJ y4, uS, sJ y5, uS, sI (0 : Int32), sI ii, sR a105, sR a114, sR a117, sR a120, sR a123, sR a105, sR a105, sR a105, sR a105, sI (0 : Int32), sI (1 : Int32), sI (2 : Int32), sI (3 : Int32), sJ v137, uS, sJ v138, uS, sJ v139, uS, sJ v140, uS, sJ wr, uS, sJ wi, uS, sD ro0_0z, uS, sD ro0_1z, uS, sD ro0_2z, uS, sD ro0_3z, uS, sI (1 : Int32)] [(.double ro0_1z)]))
    obtain ⟨_, _, ⟨T151, L151, k151, n151⟩, -, X151, ⟨Lc151, hQ151, l151, y151, z151⟩, st151⟩ := Jvm.LawKit.callS X150 hx (y := (⟨"com/example/isochron/isochron/dsp/FourierJoinPinLaw", "whole", "(D)Z"⟩ : MethodName)) hown (mvT hZ (hw _ (List.mem_of_getElem? (i := 16) rfl))) (mvT hZ (hw _ (List.mem_of_getElem? (i := 17) rfl))) (mvT hZ (hw _ (List.mem_of_getElem? (i := 2) rfl))) (mvT hZ (hw _ (List.mem_of_getElem? (i := 18) rfl))) (by decide) (backOf (W := 0) (rm := ({ frames := 0, cells := 0, slots := 0, locals := 0 } : Room)) (Q := Q_rmW Z ro0_1z jro0_1z T136.heap n0) (rmW l Z a0 hw [] ro0_1z jro0_1z T136.heap n0 Z136 Hro0_1z (own_bd_le Bjro0_1z (by decide))) hZ (hw _ (List.mem_of_getElem? (i := 18) rfl)) (hw _ (List.mem_of_getElem? (i := 2) rfl)) (by decide) (by decide)) (g := (mkF m 501 #[sI p0, sI p1, sI p2, sI p3, sJ p4, uS, sI p5, sJ y0, uS, sJ y1, uS, sJ y2, uS, sJ y3, uS, sJ y4, uS, sJ y5, uS, sI (0 : Int32), sI ii, sR a105, sR a114, sR a117, sR a120, sR a123, sR a105, sR a105, sR a105, sR a105, sI (0 : Int32), sI (1 : Int32), sI (2 : Int32), sI (3 : Int32), sJ v137, uS, sJ v138, uS, sJ v139, uS, sJ v140, uS, sJ wr, uS, sJ wi, uS, sD ro0_0z, uS, sD ro0_1z, uS, sD ro0_2z, uS, sD ro0_3z, uS, sI (1 : Int32)] [(.double ro0_1z)])) rfl (by rw [hml]; rfl) (argsL := [(.double ro0_1z)]) (rest := []) (lenOf pd_rmW rfl) rfl (by show 2 * 0 + _ ≤ _; exact Nat.le_of_eq rfl) (hb hby at_501) (fun _ _ => ⟨rfl, e150, (by decide : 5 + 0 ≤ _), (by decide : 16 + 0 ≤ _)⟩)
    dsimp only [Pt.U, Pt.locs, Pt.cells, Pt.slots] at X151 l151 y151 z151 st151 hQ151
    replace l151 := l151.symm
    replace y151 := y151.symm
    replace z151 := z151.symm
    subst l151 y151 z151
    obtain ⟨rfl, N151, e151⟩ := hQ151
    refine OwnGo.pre (fun t k => st151 t k) ?_
    show OwnGo _ _ _ _ (T151.setTop (mkF m 504 #[sI p0, sI p1, sI p2, sI p3, sJ p4, uS, sI p5, sJ y0, uS, sJ y1, uS, sJ y2, uS, sJ y3, uS, sJ y4, uS, sJ y5, uS, sI (0 : Int32), sI ii, sR a105, sR a114, sR a117, sR a120, sR a123, sR a105, sR a105, sR a105, sR a105, sI (0 : Int32), sI (1 : Int32), sI (2 : Int32), sI (3 : Int32), sJ v137, uS, sJ v138, uS, sJ v139, uS, sJ v140, uS, sJ wr, uS, sJ wi, uS, sD ro0_0z, uS, sD ro0_1z, uS, sD ro0_2z, uS, sD ro0_3z, uS, sI (1 : Int32)] [(.int (1 : Int32))]))
    have M151 := Fr.app M150 N151
    obtain ⟨v152, hv152⟩ : ∃ v, FP.d2l ro0_0z = v := ⟨_, rfl⟩
    have F152 : v152.toInt = jro0_0z := by rw [← hv152]; exact own_d2lb Hro0_0z Bjro0_0z (by decide)
    obtain ⟨v153, hv153⟩ : ∃ v, v137 - wi = v := ⟨_, rfl⟩
    obtain ⟨j153, hj153⟩ : ∃ i : Int, i = j137 - jwi := ⟨_, rfl⟩
    have B153 : -281474993487872 ≤ j153 ∧ j153 ≤ 281474993487872 := by rw [hj153]; exact own_bd_sub B137 Bwi (by decide)
    have F153 : v153.toInt = j153 := own_lf_sub hv153 F137 Fwi B137 Bwi (by decide) hj153
    refine OwnGo.pre (fun t k => XS.ifNo X151.here hx rfl (hb hby at_504) rfl (by decide) (XS.dload X151.here hx rfl (hb hby at_507) rfl (XS.d2lS X151.here hx rfl (hb hby at_509) rfl hv152 (XT.lload X151.here hx rfl (hb hby at_510) rfl (XT.lload X151.here hx rfl (hb hby at_512) rfl (own_lsub X151.here hx rfl (hb hby at_514) rfl hv153 (own_lcmp X151.here hx rfl (hb hby at_515) rfl rfl k))))))) ?_
    show OwnGo _ _ _ _ (T151.setTop (mkF m 516 #[sI p0, sI p1, sI p2, sI p3, sJ p4, uS, sI p5, sJ y0, uS, sJ y1, uS, sJ y2, uS, sJ y3, uS, sJ y4, uS, sJ y5, uS, sI (0 : Int32), sI ii, sR a105, sR a114, sR a117, sR a120, sR a123, sR a105, sR a105, sR a105, sR a105, sI (0 : Int32), sI (1 : Int32), sI (2 : Int32), sI (3 : Int32), sJ v137, uS, sJ v138, uS, sJ v139, uS, sJ v140, uS, sJ wr, uS, sJ wi, uS, sD ro0_0z, uS, sD ro0_1z, uS, sD ro0_2z, uS, sD ro0_3z, uS, sI (1 : Int32)] [(.int (XT.cmpL v152 v153))]))
    have q516 : v152.toInt = v153.toInt := by rw [F152, F153]; simp only [hjro0_0z, hj153, hj137, hjwi, hj139, hj140] <;> exact own_eq2 jy0 jy2 jy5 jy1 jy3 jy4
    obtain ⟨v154, hv154⟩ : ∃ v, FP.d2l ro0_1z = v := ⟨_, rfl⟩
    have F154 : v154.toInt = jro0_1z := by rw [← hv154]; exact own_d2lb Hro0_1z Bjro0_1z (by decide)
    obtain ⟨v155, hv155⟩ : ∃ v, v138 + wr = v := ⟨_, rfl⟩
    obtain ⟨j155, hj155⟩ : ∃ i : Int, i = j138 + jwr := ⟨_, rfl⟩
    have B155 : -281474993487872 ≤ j155 ∧ j155 ≤ 281474993487872 := by rw [hj155]; exact own_bd_add B138 Bwr (by decide)
    have F155 : v155.toInt = j155 := own_lf_add hv155 F138 Fwr B138 Bwr (by decide) hj155
    refine OwnGo.pre (fun t k => XS.ifNo X151.here hx rfl (hb hby at_516) rfl ((own_brL .ne _ _).trans (decide_eq_false (fun q => q q516))) (XS.dload X151.here hx rfl (hb hby at_519) rfl (XS.d2lS X151.here hx rfl (hb hby at_521) rfl hv154 (XT.lload X151.here hx rfl (hb hby at_522) rfl (XT.lload X151.here hx rfl (hb hby at_524) rfl (own_ladd X151.here hx rfl (hb hby at_526) rfl hv155 (own_lcmp X151.here hx rfl (hb hby at_527) rfl rfl k))))))) ?_
    show OwnGo _ _ _ _ (T151.setTop (mkF m 528 #[sI p0, sI p1, sI p2, sI p3, sJ p4, uS, sI p5, sJ y0, uS, sJ y1, uS, sJ y2, uS, sJ y3, uS, sJ y4, uS, sJ y5, uS, sI (0 : Int32), sI ii, sR a105, sR a114, sR a117, sR a120, sR a123, sR a105, sR a105, sR a105, sR a105, sI (0 : Int32), sI (1 : Int32), sI (2 : Int32), sI (3 : Int32), sJ v137, uS, sJ v138, uS, sJ v139, uS, sJ v140, uS, sJ wr, uS, sJ wi, uS, sD ro0_0z, uS, sD ro0_1z, uS, sD ro0_2z, uS, sD ro0_3z, uS, sI (1 : Int32)] [(.int (XT.cmpL v154 v155))]))
    have q528 : v154.toInt = v155.toInt := by rw [F154, F155]; simp only [hjro0_1z, hj155, hj138, hjwr, hj139, hj140] <;> exact own_eq3 jy1 jy3 jy0 jy2 jy4 jy5
    refine OwnGo.pre (fun t k => XS.ifNo X151.here hx rfl (hb hby at_528) rfl ((own_brL .ne _ _).trans (decide_eq_false (fun q => q q528))) (XS.iconst X151.here hx rfl (hb hby at_531) (XS.goto X151.here hx rfl (pc0 := 532) (pc' := 536) rfl (hb hby at_532) (by decide) (by decide) (XS.istore X151.here hx rfl (hb hby at_536) rfl (l' := #[sI p0, sI p1, sI p2, sI p3, sJ p4, uS, sI p5, sJ y0, uS, sJ y1, uS, sJ y2, uS, sJ y3, uS, sJ y4, uS, sJ y5, uS, sI (0 : Int32), sI ii, sR a105, sR a114, sR a117, sR a120, sR a123, sR a105, sR a105, sR a105, sR a105, sI (0 : Int32), sI (1 : Int32), sI (2 : Int32), sI (3 : Int32), sJ v137, uS, sJ v138, uS, sJ v139, uS, sJ v140, uS, sJ wr, uS, sJ wi, uS, sD ro0_0z, uS, sD ro0_1z, uS, sD ro0_2z, uS, sD ro0_3z, uS, sI (1 : Int32)]) rfl (XS.iload X151.here hx rfl (hb hby at_538) rfl (XS.ifNo X151.here hx rfl (hb hby at_540) rfl (by decide) (XS.iload X151.here hx rfl (hb hby at_543) rfl (XS.ifNo X151.here hx rfl (hb hby at_545) rfl (by decide) k)))))))) ?_
    show OwnGo _ _ _ _ (T151.setTop (mkF m 548 #[sI p0, sI p1, sI p2, sI p3, sJ p4, uS, sI p5, sJ y0, uS, sJ y1, uS, sJ y2, uS, sJ y3, uS, sJ y4, uS, sJ y5, uS, sI (0 : Int32), sI ii, sR a105, sR a114, sR a117, sR a120, sR a123, sR a105, sR a105, sR a105, sR a105, sI (0 : Int32), sI (1 : Int32), sI (2 : Int32), sI (3 : Int32), sJ v137, uS, sJ v138, uS, sJ v139, uS, sJ v140, uS, sJ wr, uS, sJ wi, uS, sD ro0_0z, uS, sD ro0_1z, uS, sD ro0_2z, uS, sD ro0_3z, uS, sI (1 : Int32)] []))
    refine OwnGo.pre (fun t k => XS.aload X151.here hx rfl (hb hby at_548) rfl rfl (XS.iconst X151.here hx rfl (hb hby at_550) (own_daL X151 hx hZ e151 AFo0z (j := (4 : Int32)) (by decide) (i := 4) (by decide) (x := (4602678819172646912 : UInt64)) rfl (g := (mkF m 551 #[sI p0, sI p1, sI p2, sI p3, sJ p4, uS, sI p5, sJ y0, uS, sJ y1, uS, sJ y2, uS, sJ y3, uS, sJ y4, uS, sJ y5, uS, sI (0 : Int32), sI ii, sR a105, sR a114, sR a117, sR a120, sR a123, sR a105, sR a105, sR a105, sR a105, sI (0 : Int32), sI (1 : Int32), sI (2 : Int32), sI (3 : Int32), sJ v137, uS, sJ v138, uS, sJ v139, uS, sJ v140, uS, sJ wr, uS, sJ wi, uS, sD ro0_0z, uS, sD ro0_1z, uS, sD ro0_2z, uS, sD ro0_3z, uS, sI (1 : Int32)] [(.int (4 : Int32)), (.ref a105)])) rfl (rest := []) rfl (hb hby at_551) (own_ldcD X151 hx hown (mvT hZ (hw _ (List.mem_of_getElem? (i := 5) rfl))) rfl (hb hby at_552) (XS.dcmpS X151.here hx rfl (hb hby at_555) rfl rfl (XS.ifNo X151.here hx rfl (hb hby at_556) rfl (by decide +kernel) (XS.aload X151.here hx rfl (hb hby at_559) rfl rfl (XS.iconst X151.here hx rfl (hb hby at_561) k)))))))) ?_
    show OwnGo _ _ _ _ (T151.setTop (mkF m 562 #[sI p0, sI p1, sI p2, sI p3, sJ p4, uS, sI p5, sJ y0, uS, sJ y1, uS, sJ y2, uS, sJ y3, uS, sJ y4, uS, sJ y5, uS, sI (0 : Int32), sI ii, sR a105, sR a114, sR a117, sR a120, sR a123, sR a105, sR a105, sR a105, sR a105, sI (0 : Int32), sI (1 : Int32), sI (2 : Int32), sI (3 : Int32), sJ v137, uS, sJ v138, uS, sJ v139, uS, sJ v140, uS, sJ wr, uS, sJ wi, uS, sD ro0_0z, uS, sD ro0_1z, uS, sD ro0_2z, uS, sD ro0_3z, uS, sI (1 : Int32)] [(.int (5 : Int32)), (.ref a105)]))
    refine OwnGo.pre (fun t k => own_daL X151 hx hZ e151 AFo0z (j := (5 : Int32)) (by decide) (i := 5) (by decide) (x := (4602678819172646912 : UInt64)) rfl (g := (mkF m 562 #[sI p0, sI p1, sI p2, sI p3, sJ p4, uS, sI p5, sJ y0, uS, sJ y1, uS, sJ y2, uS, sJ y3, uS, sJ y4, uS, sJ y5, uS, sI (0 : Int32), sI ii, sR a105, sR a114, sR a117, sR a120, sR a123, sR a105, sR a105, sR a105, sR a105, sI (0 : Int32), sI (1 : Int32), sI (2 : Int32), sI (3 : Int32), sJ v137, uS, sJ v138, uS, sJ v139, uS, sJ v140, uS, sJ wr, uS, sJ wi, uS, sD ro0_0z, uS, sD ro0_1z, uS, sD ro0_2z, uS, sD ro0_3z, uS, sI (1 : Int32)] [(.int (5 : Int32)), (.ref a105)])) rfl (rest := []) rfl (hb hby at_562) (own_ldcD X151 hx hown (mvT hZ (hw _ (List.mem_of_getElem? (i := 5) rfl))) rfl (hb hby at_563) (XS.dcmpS X151.here hx rfl (hb hby at_566) rfl rfl (XS.ifNo X151.here hx rfl (hb hby at_567) rfl (by decide +kernel) (XS.aload X151.here hx rfl (hb hby at_570) rfl rfl (XS.bipush X151.here hx rfl (hb hby at_572) (own_daL X151 hx hZ e151 AFo0z (j := (6 : Int32)) (by decide) (i := 6) (by decide) (x := (4602678819172646912 : UInt64)) rfl (g := (mkF m 574 #[sI p0, sI p1, sI p2, sI p3, sJ p4, uS, sI p5, sJ y0, uS, sJ y1, uS, sJ y2, uS, sJ y3, uS, sJ y4, uS, sJ y5, uS, sI (0 : Int32), sI ii, sR a105, sR a114, sR a117, sR a120, sR a123, sR a105, sR a105, sR a105, sR a105, sI (0 : Int32), sI (1 : Int32), sI (2 : Int32), sI (3 : Int32), sJ v137, uS, sJ v138, uS, sJ v139, uS, sJ v140, uS, sJ wr, uS, sJ wi, uS, sD ro0_0z, uS, sD ro0_1z, uS, sD ro0_2z, uS, sD ro0_3z, uS, sI (1 : Int32)] [(.int (6 : Int32)), (.ref a105)])) rfl (rest := []) rfl (hb hby at_574) (own_ldcD X151 hx hown (mvT hZ (hw _ (List.mem_of_getElem? (i := 5) rfl))) rfl (hb hby at_575) k)))))))) ?_
    show OwnGo _ _ _ _ (T151.setTop (mkF m 578 #[sI p0, sI p1, sI p2, sI p3, sJ p4, uS, sI p5, sJ y0, uS, sJ y1, uS, sJ y2, uS, sJ y3, uS, sJ y4, uS, sJ y5, uS, sI (0 : Int32), sI ii, sR a105, sR a114, sR a117, sR a120, sR a123, sR a105, sR a105, sR a105, sR a105, sI (0 : Int32), sI (1 : Int32), sI (2 : Int32), sI (3 : Int32), sJ v137, uS, sJ v138, uS, sJ v139, uS, sJ v140, uS, sJ wr, uS, sJ wi, uS, sD ro0_0z, uS, sD ro0_1z, uS, sD ro0_2z, uS, sD ro0_3z, uS, sI (1 : Int32)] [(.double (4602678819172646912 : UInt64)), (.double (4602678819172646912 : UInt64))]))
    refine OwnGo.pre (fun t k => XS.dcmpS X151.here hx rfl (hb hby at_578) rfl rfl (XS.ifNo X151.here hx rfl (hb hby at_579) rfl (by decide +kernel) (XS.aload X151.here hx rfl (hb hby at_582) rfl rfl (XS.bipush X151.here hx rfl (hb hby at_584) (own_daL X151 hx hZ e151 AFo0z (j := (7 : Int32)) (by decide) (i := 7) (by decide) (x := (4602678819172646912 : UInt64)) rfl (g := (mkF m 586 #[sI p0, sI p1, sI p2, sI p3, sJ p4, uS, sI p5, sJ y0, uS, sJ y1, uS, sJ y2, uS, sJ y3, uS, sJ y4, uS, sJ y5, uS, sI (0 : Int32), sI ii, sR a105, sR a114, sR a117, sR a120, sR a123, sR a105, sR a105, sR a105, sR a105, sI (0 : Int32), sI (1 : Int32), sI (2 : Int32), sI (3 : Int32), sJ v137, uS, sJ v138, uS, sJ v139, uS, sJ v140, uS, sJ wr, uS, sJ wi, uS, sD ro0_0z, uS, sD ro0_1z, uS, sD ro0_2z, uS, sD ro0_3z, uS, sI (1 : Int32)] [(.int (7 : Int32)), (.ref a105)])) rfl (rest := []) rfl (hb hby at_586) (own_ldcD X151 hx hown (mvT hZ (hw _ (List.mem_of_getElem? (i := 5) rfl))) rfl (hb hby at_587) (XS.dcmpS X151.here hx rfl (hb hby at_590) rfl rfl (XS.ifNo X151.here hx rfl (hb hby at_591) rfl (by decide +kernel) k)))))))) ?_
    show OwnGo _ _ _ _ (T151.setTop (mkF m 594 #[sI p0, sI p1, sI p2, sI p3, sJ p4, uS, sI p5, sJ y0, uS, sJ y1, uS, sJ y2, uS, sJ y3, uS, sJ y4, uS, sJ y5, uS, sI (0 : Int32), sI ii, sR a105, sR a114, sR a117, sR a120, sR a123, sR a105, sR a105, sR a105, sR a105, sI (0 : Int32), sI (1 : Int32), sI (2 : Int32), sI (3 : Int32), sJ v137, uS, sJ v138, uS, sJ v139, uS, sJ v140, uS, sJ wr, uS, sJ wi, uS, sD ro0_0z, uS, sD ro0_1z, uS, sD ro0_2z, uS, sD ro0_3z, uS, sI (1 : Int32)] []))
    refine OwnGo.pre (fun t k => XS.iconst X151.here hx rfl (hb hby at_594) (XS.goto X151.here hx rfl (pc0 := 595) (pc' := 599) rfl (hb hby at_595) (by decide) (by decide) (XS.istore X151.here hx rfl (hb hby at_599) rfl (l' := #[sI p0, sI p1, sI p2, sI p3, sJ p4, uS, sI p5, sJ y0, uS, sJ y1, uS, sJ y2, uS, sJ y3, uS, sJ y4, uS, sJ y5, uS, sI (0 : Int32), sI ii, sR a105, sR a114, sR a117, sR a120, sR a123, sR a105, sR a105, sR a105, sR a105, sI (0 : Int32), sI (1 : Int32), sI (2 : Int32), sI (3 : Int32), sJ v137, uS, sJ v138, uS, sJ v139, uS, sJ v140, uS, sJ wr, uS, sJ wi, uS, sD ro0_0z, uS, sD ro0_1z, uS, sD ro0_2z, uS, sD ro0_3z, uS, sI (1 : Int32)]) rfl (XS.goto X151.here hx rfl (pc0 := 601) (pc' := 802) rfl (hb hby at_601) (by decide) (by decide) (XS.iload X151.here hx rfl (hb hby at_802) rfl k))))) ?_
    show OwnGo _ _ _ _ (T151.setTop (mkF m 804 #[sI p0, sI p1, sI p2, sI p3, sJ p4, uS, sI p5, sJ y0, uS, sJ y1, uS, sJ y2, uS, sJ y3, uS, sJ y4, uS, sJ y5, uS, sI (0 : Int32), sI ii, sR a105, sR a114, sR a117, sR a120, sR a123, sR a105, sR a105, sR a105, sR a105, sI (0 : Int32), sI (1 : Int32), sI (2 : Int32), sI (3 : Int32), sJ v137, uS, sJ v138, uS, sJ v139, uS, sJ v140, uS, sJ wr, uS, sJ wi, uS, sD ro0_0z, uS, sD ro0_1z, uS, sD ro0_2z, uS, sD ro0_3z, uS, sI (1 : Int32)] [(.int (1 : Int32))]))
    exact own_retZ X151 hx hk hrt (hb hby at_804) ⟨rfl, M151⟩ (by decide) (by decide)
  · skip
    show OwnGo _ _ _ _ (T125.setTop (mkF m 212 #[sI p0, sI p1, sI p2, sI p3, sJ p4, uS, sI p5, sJ y0, uS, sJ y1, uS, sJ y2, uS, sJ y3, uS, sJ y4, uS, sJ y5, uS, sI (1 : Int32), sI ii, sR a105, sR a114, sR a117, sR a120, sR a123, sR a105, sR a105, sR a105, sR a105, sI (0 : Int32), sI (1 : Int32), sI (2 : Int32), sI (3 : Int32), uU, uU, uU, uU, uU, uU, uU, uU, uU, uU, uU, uU, uU, uU, uU, uU, uU, uU, uU, uU, uU] [(.int (1 : Int32)), (.int (1 : Int32))]))
    refine OwnGo.pre (fun t k => XS.icmpNo X125.here hx rfl (hb hby at_212) rfl (by decide) (XS.iconst X125.here hx rfl (hb hby at_215) (XS.istore X125.here hx rfl (hb hby at_216) rfl (l' := #[sI p0, sI p1, sI p2, sI p3, sJ p4, uS, sI p5, sJ y0, uS, sJ y1, uS, sJ y2, uS, sJ y3, uS, sJ y4, uS, sJ y5, uS, sI (1 : Int32), sI ii, sR a105, sR a114, sR a117, sR a120, sR a123, sR a105, sR a105, sR a105, sR a105, sI (0 : Int32), sI (1 : Int32), sI (0 : Int32), sI (3 : Int32), uU, uU, uU, uU, uU, uU, uU, uU, uU, uU, uU, uU, uU, uU, uU, uU, uU, uU, uU, uU, uU]) rfl (XS.iconst X125.here hx rfl (hb hby at_218) (XS.istore X125.here hx rfl (hb hby at_219) rfl (l' := #[sI p0, sI p1, sI p2, sI p3, sJ p4, uS, sI p5, sJ y0, uS, sJ y1, uS, sJ y2, uS, sJ y3, uS, sJ y4, uS, sJ y5, uS, sI (1 : Int32), sI ii, sR a105, sR a114, sR a117, sR a120, sR a123, sR a105, sR a105, sR a105, sR a105, sI (0 : Int32), sI (1 : Int32), sI (0 : Int32), sI (1 : Int32), uU, uU, uU, uU, uU, uU, uU, uU, uU, uU, uU, uU, uU, uU, uU, uU, uU, uU, uU, uU, uU]) rfl (XT.lload X125.here hx rfl (hb hby at_221) rfl (XT.lstore X125.here hx rfl (hb hby at_223) rfl (l' := #[sI p0, sI p1, sI p2, sI p3, sJ p4, uS, sI p5, sJ y0, uS, sJ y1, uS, sJ y0, uS, sJ y3, uS, sJ y4, uS, sJ y5, uS, sI (1 : Int32), sI ii, sR a105, sR a114, sR a117, sR a120, sR a123, sR a105, sR a105, sR a105, sR a105, sI (0 : Int32), sI (1 : Int32), sI (0 : Int32), sI (1 : Int32), uU, uU, uU, uU, uU, uU, uU, uU, uU, uU, uU, uU, uU, uU, uU, uU, uU, uU, uU, uU, uU]) rfl (XT.lload X125.here hx rfl (hb hby at_225) rfl k)))))))) ?_
    show OwnGo _ _ _ _ (T125.setTop (mkF m 227 #[sI p0, sI p1, sI p2, sI p3, sJ p4, uS, sI p5, sJ y0, uS, sJ y1, uS, sJ y0, uS, sJ y3, uS, sJ y4, uS, sJ y5, uS, sI (1 : Int32), sI ii, sR a105, sR a114, sR a117, sR a120, sR a123, sR a105, sR a105, sR a105, sR a105, sI (0 : Int32), sI (1 : Int32), sI (0 : Int32), sI (1 : Int32), uU, uU, uU, uU, uU, uU, uU, uU, uU, uU, uU, uU, uU, uU, uU, uU, uU, uU, uU, uU, uU] [(.long y1)]))
    obtain ⟨d156, hd156⟩ : ∃ v, FP.l2d y0 = v := ⟨_, rfl⟩
    have D156 : OwnDS 0 jy0 d156 := by rw [← hd156]; exact own_l2db Fy0 by0 (by decide)
    refine OwnGo.pre (fun t k => XT.lstore X125.here hx rfl (hb hby at_227) rfl (l' := #[sI p0, sI p1, sI p2, sI p3, sJ p4, uS, sI p5, sJ y0, uS, sJ y1, uS, sJ y0, uS, sJ y1, uS, sJ y4, uS, sJ y5, uS, sI (1 : Int32), sI ii, sR a105, sR a114, sR a117, sR a120, sR a123, sR a105, sR a105, sR a105, sR a105, sI (0 : Int32), sI (1 : Int32), sI (0 : Int32), sI (1 : Int32), uU, uU, uU, uU, uU, uU, uU, uU, uU, uU, uU, uU, uU, uU, uU, uU, uU, uU, uU, uU, uU]) rfl (XS.goto X125.here hx rfl (pc0 := 229) (pc' := 293) rfl (hb hby at_229) (by decide) (by decide) (XS.aload X125.here hx rfl (hb hby at_293) rfl rfl (XS.iload X125.here hx rfl (hb hby at_295) rfl (XT.lload X125.here hx rfl (hb hby at_297) rfl (XS.l2dS X125.here hx rfl (hb hby at_299) rfl hd156 k)))))) ?_
    show OwnGo _ _ _ _ (T125.setTop (mkF m 300 #[sI p0, sI p1, sI p2, sI p3, sJ p4, uS, sI p5, sJ y0, uS, sJ y1, uS, sJ y0, uS, sJ y1, uS, sJ y4, uS, sJ y5, uS, sI (1 : Int32), sI ii, sR a105, sR a114, sR a117, sR a120, sR a123, sR a105, sR a105, sR a105, sR a105, sI (0 : Int32), sI (1 : Int32), sI (0 : Int32), sI (1 : Int32), uU, uU, uU, uU, uU, uU, uU, uU, uU, uU, uU, uU, uU, uU, uU, uU, uU, uU, uU, uU, uU] [(.double d156), (.int (0 : Int32)), (.ref a105)]))
    obtain ⟨T157, h157, X157, e157, W157, A157, st157⟩ := own_daS X125 hx hZ e125 A125_a105 (by decide) (i := 0) (by decide) (by show 0 < 8; decide) (g := (mkF m 300 #[sI p0, sI p1, sI p2, sI p3, sJ p4, uS, sI p5, sJ y0, uS, sJ y1, uS, sJ y0, uS, sJ y1, uS, sJ y4, uS, sJ y5, uS, sI (1 : Int32), sI ii, sR a105, sR a114, sR a117, sR a120, sR a123, sR a105, sR a105, sR a105, sR a105, sI (0 : Int32), sI (1 : Int32), sI (0 : Int32), sI (1 : Int32), uU, uU, uU, uU, uU, uU, uU, uU, uU, uU, uU, uU, uU, uU, uU, uU, uU, uU, uU, uU, uU] [(.double d156), (.int (0 : Int32)), (.ref a105)])) rfl rfl (hb hby at_300)
    have A157n : OwnDA Z h157 a105 [d156, (4602678819172646912 : UInt64), (4602678819172646912 : UInt64), (4602678819172646912 : UInt64), (4602678819172646912 : UInt64), (4602678819172646912 : UInt64), (4602678819172646912 : UInt64), (4602678819172646912 : UInt64)] := A157
    have A157_a114 := A125_a114.ot W157 nea105_114.symm
    have A157_a117 := A125_a117.ot W157 nea105_117.symm
    have A157_a120 := A125_a120.ot W157 nea105_120.symm
    have A157_a123 := A125n.ot W157 nea105_123.symm
    have N157 := Fr.snoc X157 N125 G105
    have Z157 : n0 ≤ h157.size := by rw [W157.size]; exact Z125
    refine OwnGo.pre (fun t k => st157 t k) ?_
    show OwnGo _ _ _ _ (T157.setTop (mkF m 301 #[sI p0, sI p1, sI p2, sI p3, sJ p4, uS, sI p5, sJ y0, uS, sJ y1, uS, sJ y0, uS, sJ y1, uS, sJ y4, uS, sJ y5, uS, sI (1 : Int32), sI ii, sR a105, sR a114, sR a117, sR a120, sR a123, sR a105, sR a105, sR a105, sR a105, sI (0 : Int32), sI (1 : Int32), sI (0 : Int32), sI (1 : Int32), uU, uU, uU, uU, uU, uU, uU, uU, uU, uU, uU, uU, uU, uU, uU, uU, uU, uU, uU, uU, uU] []))
    obtain ⟨d158, hd158⟩ : ∃ v, FP.l2d y1 = v := ⟨_, rfl⟩
    have D158 : OwnDS 0 jy1 d158 := by rw [← hd158]; exact own_l2db Fy1 by1 (by decide)
    refine OwnGo.pre (fun t k => XS.aload X157.here hx rfl (hb hby at_301) rfl rfl (XS.iload X157.here hx rfl (hb hby at_303) rfl (XT.lload X157.here hx rfl (hb hby at_305) rfl (XS.l2dS X157.here hx rfl (hb hby at_307) rfl hd158 k)))) ?_
    show OwnGo _ _ _ _ (T157.setTop (mkF m 308 #[sI p0, sI p1, sI p2, sI p3, sJ p4, uS, sI p5, sJ y0, uS, sJ y1, uS, sJ y0, uS, sJ y1, uS, sJ y4, uS, sJ y5, uS, sI (1 : Int32), sI ii, sR a105, sR a114, sR a117, sR a120, sR a123, sR a105, sR a105, sR a105, sR a105, sI (0 : Int32), sI (1 : Int32), sI (0 : Int32), sI (1 : Int32), uU, uU, uU, uU, uU, uU, uU, uU, uU, uU, uU, uU, uU, uU, uU, uU, uU, uU, uU, uU, uU] [(.double d158), (.int (1 : Int32)), (.ref a105)]))
    obtain ⟨T159, h159, X159, e159, W159, A159, st159⟩ := own_daS X157 hx hZ e157 A157n (by decide) (i := 1) (by decide) (by show 1 < 8; decide) (g := (mkF m 308 #[sI p0, sI p1, sI p2, sI p3, sJ p4, uS, sI p5, sJ y0, uS, sJ y1, uS, sJ y0, uS, sJ y1, uS, sJ y4, uS, sJ y5, uS, sI (1 : Int32), sI ii, sR a105, sR a114, sR a117, sR a120, sR a123, sR a105, sR a105, sR a105, sR a105, sI (0 : Int32), sI (1 : Int32), sI (0 : Int32), sI (1 : Int32), uU, uU, uU, uU, uU, uU, uU, uU, uU, uU, uU, uU, uU, uU, uU, uU, uU, uU, uU, uU, uU] [(.double d158), (.int (1 : Int32)), (.ref a105)])) rfl rfl (hb hby at_308)
    have A159n : OwnDA Z h159 a105 [d156, d158, (4602678819172646912 : UInt64), (4602678819172646912 : UInt64), (4602678819172646912 : UInt64), (4602678819172646912 : UInt64), (4602678819172646912 : UInt64), (4602678819172646912 : UInt64)] := A159
    have A159_a114 := A157_a114.ot W159 nea105_114.symm
    have A159_a117 := A157_a117.ot W159 nea105_117.symm
    have A159_a120 := A157_a120.ot W159 nea105_120.symm
    have A159_a123 := A157_a123.ot W159 nea105_123.symm
    have N159 := Fr.snoc X159 N157 G105
    have Z159 : n0 ≤ h159.size := by rw [W159.size]; exact Z157
    refine OwnGo.pre (fun t k => st159 t k) ?_
    show OwnGo _ _ _ _ (T159.setTop (mkF m 309 #[sI p0, sI p1, sI p2, sI p3, sJ p4, uS, sI p5, sJ y0, uS, sJ y1, uS, sJ y0, uS, sJ y1, uS, sJ y4, uS, sJ y5, uS, sI (1 : Int32), sI ii, sR a105, sR a114, sR a117, sR a120, sR a123, sR a105, sR a105, sR a105, sR a105, sI (0 : Int32), sI (1 : Int32), sI (0 : Int32), sI (1 : Int32), uU, uU, uU, uU, uU, uU, uU, uU, uU, uU, uU, uU, uU, uU, uU, uU, uU, uU, uU, uU, uU] []))
    obtain ⟨d160, hd160⟩ : ∃ v, FP.l2d y0 = v := ⟨_, rfl⟩
    have D160 : OwnDS 0 jy0 d160 := by rw [← hd160]; exact own_l2db Fy0 by0 (by decide)
    refine OwnGo.pre (fun t k => XS.aload X159.here hx rfl (hb hby at_309) rfl rfl (XS.iload X159.here hx rfl (hb hby at_311) rfl (XT.lload X159.here hx rfl (hb hby at_313) rfl (XS.l2dS X159.here hx rfl (hb hby at_315) rfl hd160 k)))) ?_
    show OwnGo _ _ _ _ (T159.setTop (mkF m 316 #[sI p0, sI p1, sI p2, sI p3, sJ p4, uS, sI p5, sJ y0, uS, sJ y1, uS, sJ y0, uS, sJ y1, uS, sJ y4, uS, sJ y5, uS, sI (1 : Int32), sI ii, sR a105, sR a114, sR a117, sR a120, sR a123, sR a105, sR a105, sR a105, sR a105, sI (0 : Int32), sI (1 : Int32), sI (0 : Int32), sI (1 : Int32), uU, uU, uU, uU, uU, uU, uU, uU, uU, uU, uU, uU, uU, uU, uU, uU, uU, uU, uU, uU, uU] [(.double d160), (.int (0 : Int32)), (.ref a105)]))
    obtain ⟨T161, h161, X161, e161, W161, A161, st161⟩ := own_daS X159 hx hZ e159 A159n (by decide) (i := 0) (by decide) (by show 0 < 8; decide) (g := (mkF m 316 #[sI p0, sI p1, sI p2, sI p3, sJ p4, uS, sI p5, sJ y0, uS, sJ y1, uS, sJ y0, uS, sJ y1, uS, sJ y4, uS, sJ y5, uS, sI (1 : Int32), sI ii, sR a105, sR a114, sR a117, sR a120, sR a123, sR a105, sR a105, sR a105, sR a105, sI (0 : Int32), sI (1 : Int32), sI (0 : Int32), sI (1 : Int32), uU, uU, uU, uU, uU, uU, uU, uU, uU, uU, uU, uU, uU, uU, uU, uU, uU, uU, uU, uU, uU] [(.double d160), (.int (0 : Int32)), (.ref a105)])) rfl rfl (hb hby at_316)
    have A161n : OwnDA Z h161 a105 [d160, d158, (4602678819172646912 : UInt64), (4602678819172646912 : UInt64), (4602678819172646912 : UInt64), (4602678819172646912 : UInt64), (4602678819172646912 : UInt64), (4602678819172646912 : UInt64)] := A161
    have A161_a114 := A159_a114.ot W161 nea105_114.symm
    have A161_a117 := A159_a117.ot W161 nea105_117.symm
    have A161_a120 := A159_a120.ot W161 nea105_120.symm
    have A161_a123 := A159_a123.ot W161 nea105_123.symm
    have N161 := Fr.snoc X161 N159 G105
    have Z161 : n0 ≤ h161.size := by rw [W161.size]; exact Z159
    refine OwnGo.pre (fun t k => st161 t k) ?_
    show OwnGo _ _ _ _ (T161.setTop (mkF m 317 #[sI p0, sI p1, sI p2, sI p3, sJ p4, uS, sI p5, sJ y0, uS, sJ y1, uS, sJ y0, uS, sJ y1, uS, sJ y4, uS, sJ y5, uS, sI (1 : Int32), sI ii, sR a105, sR a114, sR a117, sR a120, sR a123, sR a105, sR a105, sR a105, sR a105, sI (0 : Int32), sI (1 : Int32), sI (0 : Int32), sI (1 : Int32), uU, uU, uU, uU, uU, uU, uU, uU, uU, uU, uU, uU, uU, uU, uU, uU, uU, uU, uU, uU, uU] []))
    obtain ⟨d162, hd162⟩ : ∃ v, FP.l2d y1 = v := ⟨_, rfl⟩
    have D162 : OwnDS 0 jy1 d162 := by rw [← hd162]; exact own_l2db Fy1 by1 (by decide)
    refine OwnGo.pre (fun t k => XS.aload X161.here hx rfl (hb hby at_317) rfl rfl (XS.iload X161.here hx rfl (hb hby at_319) rfl (XT.lload X161.here hx rfl (hb hby at_321) rfl (XS.l2dS X161.here hx rfl (hb hby at_323) rfl hd162 k)))) ?_
    show OwnGo _ _ _ _ (T161.setTop (mkF m 324 #[sI p0, sI p1, sI p2, sI p3, sJ p4, uS, sI p5, sJ y0, uS, sJ y1, uS, sJ y0, uS, sJ y1, uS, sJ y4, uS, sJ y5, uS, sI (1 : Int32), sI ii, sR a105, sR a114, sR a117, sR a120, sR a123, sR a105, sR a105, sR a105, sR a105, sI (0 : Int32), sI (1 : Int32), sI (0 : Int32), sI (1 : Int32), uU, uU, uU, uU, uU, uU, uU, uU, uU, uU, uU, uU, uU, uU, uU, uU, uU, uU, uU, uU, uU] [(.double d162), (.int (1 : Int32)), (.ref a105)]))
    obtain ⟨T163, h163, X163, e163, W163, A163, st163⟩ := own_daS X161 hx hZ e161 A161n (by decide) (i := 1) (by decide) (by show 1 < 8; decide) (g := (mkF m 324 #[sI p0, sI p1, sI p2, sI p3, sJ p4, uS, sI p5, sJ y0, uS, sJ y1, uS, sJ y0, uS, sJ y1, uS, sJ y4, uS, sJ y5, uS, sI (1 : Int32), sI ii, sR a105, sR a114, sR a117, sR a120, sR a123, sR a105, sR a105, sR a105, sR a105, sI (0 : Int32), sI (1 : Int32), sI (0 : Int32), sI (1 : Int32), uU, uU, uU, uU, uU, uU, uU, uU, uU, uU, uU, uU, uU, uU, uU, uU, uU, uU, uU, uU, uU] [(.double d162), (.int (1 : Int32)), (.ref a105)])) rfl rfl (hb hby at_324)
    have A163n : OwnDA Z h163 a105 [d160, d162, (4602678819172646912 : UInt64), (4602678819172646912 : UInt64), (4602678819172646912 : UInt64), (4602678819172646912 : UInt64), (4602678819172646912 : UInt64), (4602678819172646912 : UInt64)] := A163
    have A163_a114 := A161_a114.ot W163 nea105_114.symm
    have A163_a117 := A161_a117.ot W163 nea105_117.symm
    have A163_a120 := A161_a120.ot W163 nea105_120.symm
    have A163_a123 := A161_a123.ot W163 nea105_123.symm
    have N163 := Fr.snoc X163 N161 G105
    have Z163 : n0 ≤ h163.size := by rw [W163.size]; exact Z161
    refine OwnGo.pre (fun t k => st163 t k) ?_
    show OwnGo _ _ _ _ (T163.setTop (mkF m 325 #[sI p0, sI p1, sI p2, sI p3, sJ p4, uS, sI p5, sJ y0, uS, sJ y1, uS, sJ y0, uS, sJ y1, uS, sJ y4, uS, sJ y5, uS, sI (1 : Int32), sI ii, sR a105, sR a114, sR a117, sR a120, sR a123, sR a105, sR a105, sR a105, sR a105, sI (0 : Int32), sI (1 : Int32), sI (0 : Int32), sI (1 : Int32), uU, uU, uU, uU, uU, uU, uU, uU, uU, uU, uU, uU, uU, uU, uU, uU, uU, uU, uU, uU, uU] []))
    refine OwnGo.pre (fun t k => XS.aload X163.here hx rfl (hb hby at_325) rfl rfl (XS.iload X163.here hx rfl (hb hby at_327) rfl (XS.aload X163.here hx rfl (hb hby at_329) rfl rfl (XS.iload X163.here hx rfl (hb hby at_331) rfl (XS.aload X163.here hx rfl (hb hby at_333) rfl rfl (XS.iload X163.here hx rfl (hb hby at_335) rfl (XS.aload X163.here hx rfl (hb hby at_337) rfl rfl (XS.iload X163.here hx rfl (hb hby at_339) rfl k)))))))) ?_
    show OwnGo _ _ _ _ (T163.setTop (mkF m 341 #[sI p0, sI p1, sI p2, sI p3, sJ p4, uS, sI p5, sJ y0, uS, sJ y1, uS, sJ y0, uS, sJ y1, uS, sJ y4, uS, sJ y5, uS, sI (1 : Int32), sI ii, sR a105, sR a114, sR a117, sR a120, sR a123, sR a105, sR a105, sR a105, sR a105, sI (0 : Int32), sI (1 : Int32), sI (0 : Int32), sI (1 : Int32), uU, uU, uU, uU, uU, uU, uU, uU, uU, uU, uU, uU, uU, uU, uU, uU, uU, uU, uU, uU, uU] [(.int (1 : Int32)), (.ref a105), (.int (0 : Int32)), (.ref a105), (.int (1 : Int32)), (.ref a105), (.int (0 : Int32)), (.ref a105)]))
    obtain ⟨d164, hd164⟩ : ∃ v, FP.l2d y4 = v := ⟨_, rfl⟩
    have D164 : OwnDS 0 jy4 d164 := by rw [← hd164]; exact own_l2db Fy4 by4 (by decide)
    obtain ⟨d165, hd165⟩ : ∃ v, FP.l2d y5 = v := ⟨_, rfl⟩
    have D165 : OwnDS 0 jy5 d165 := by rw [← hd165]; exact own_l2db Fy5 by5 (by decide)
    refine OwnGo.pre (fun t k => XT.lload X163.here hx rfl (hb hby at_341) rfl (XS.l2dS X163.here hx rfl (hb hby at_343) rfl hd164 (XT.lload X163.here hx rfl (hb hby at_344) rfl (XS.l2dS X163.here hx rfl (hb hby at_346) rfl hd165 k)))) ?_
    show OwnGo _ _ _ _ (T163.setTop (mkF m 347 #[sI p0, sI p1, sI p2, sI p3, sJ p4, uS, sI p5, sJ y0, uS, sJ y1, uS, sJ y0, uS, sJ y1, uS, sJ y4, uS, sJ y5, uS, sI (1 : Int32), sI ii, sR a105, sR a114, sR a117, sR a120, sR a123, sR a105, sR a105, sR a105, sR a105, sI (0 : Int32), sI (1 : Int32), sI (0 : Int32), sI (1 : Int32), uU, uU, uU, uU, uU, uU, uU, uU, uU, uU, uU, uU, uU, uU, uU, uU, uU, uU, uU, uU, uU] [(.double d165), (.double d164), (.int (1 : Int32)), (.ref a105), (.int (0 : Int32)), (.ref a105), (.int (1 : Int32)), (.ref a105), (.int (0 : Int32)), (.ref a105)]))
    obtain ⟨_, _, ⟨T166, L166, k166, n166⟩, -, X166, ⟨Lc166, hQ166, l166, y166, z166⟩, st166⟩ := Jvm.LawKit.callS X163 hx (y := (⟨"com/example/isochron/isochron/dsp/Fourier", "join", "([DI[DI[DI[DIDD)V"⟩ : MethodName)) hown (mvT hZ (hw _ (List.mem_of_getElem? (i := 6) rfl))) (mvT hZ (hw _ (List.mem_of_getElem? (i := 7) rfl))) (mvT hZ (hw _ (List.mem_of_getElem? (i := 8) rfl))) (mvT hZ (hw _ (List.mem_of_getElem? (i := 9) rfl))) (by decide) (backOf (W := 0) (rm := ({ frames := 0, cells := 0, slots := 0, locals := 0 } : Room)) (Q := Q_rmK1 Z a105 d160 d162 (4602678819172646912 : UInt64) (4602678819172646912 : UInt64) (4602678819172646912 : UInt64) (4602678819172646912 : UInt64) (4602678819172646912 : UInt64) (4602678819172646912 : UInt64) d164 d165 jy0 jy1 jy4 jy5 h163 n0) (rmK1 l Z a0 hw [] a105 d160 d162 (4602678819172646912 : UInt64) (4602678819172646912 : UInt64) (4602678819172646912 : UInt64) (4602678819172646912 : UInt64) (4602678819172646912 : UInt64) (4602678819172646912 : UInt64) d164 d165 jy0 jy1 jy4 jy5 h163 n0 Z163 A163n G105 D160 by0 D162 by1 D164 by4 D165 by5) hZ (hw _ (List.mem_of_getElem? (i := 9) rfl)) (hw _ (List.mem_of_getElem? (i := 8) rfl)) (by decide) (by decide)) (g := (mkF m 347 #[sI p0, sI p1, sI p2, sI p3, sJ p4, uS, sI p5, sJ y0, uS, sJ y1, uS, sJ y0, uS, sJ y1, uS, sJ y4, uS, sJ y5, uS, sI (1 : Int32), sI ii, sR a105, sR a114, sR a117, sR a120, sR a123, sR a105, sR a105, sR a105, sR a105, sI (0 : Int32), sI (1 : Int32), sI (0 : Int32), sI (1 : Int32), uU, uU, uU, uU, uU, uU, uU, uU, uU, uU, uU, uU, uU, uU, uU, uU, uU, uU, uU, uU, uU] [(.double d165), (.double d164), (.int (1 : Int32)), (.ref a105), (.int (0 : Int32)), (.ref a105), (.int (1 : Int32)), (.ref a105), (.int (0 : Int32)), (.ref a105)])) rfl (by rw [hml]; rfl) (argsL := [(.ref a105), (.int (0 : Int32)), (.ref a105), (.int (1 : Int32)), (.ref a105), (.int (0 : Int32)), (.ref a105), (.int (1 : Int32)), (.double d164), (.double d165)]) (rest := []) (lenOf pd_rmK1 rfl) rfl (by show 2 * 0 + _ ≤ _; exact Nat.le_of_eq rfl) (hb hby at_347) (fun _ _ => ⟨rfl, e163, (by decide : 5 + 0 ≤ _), (by decide : 16 + 0 ≤ _)⟩)
    dsimp only [Pt.U, Pt.locs, Pt.cells, Pt.slots] at X166 l166 y166 z166 st166 hQ166
    replace l166 := l166.symm
    replace y166 := y166.symm
    replace z166 := z166.symm
    subst l166 y166 z166
    obtain ⟨ro0_0z, ro0_1z, rfl, Hro0_0z, Bjro0_0z, Hro0_1z, Bjro0_1z, AFo0z, KF166, N166, Z166⟩ := hQ166
    refine OwnGo.pre (fun t k => st166 t k) ?_
    show OwnGo _ _ _ _ (T166.setTop (mkF m 350 #[sI p0, sI p1, sI p2, sI p3, sJ p4, uS, sI p5, sJ y0, uS, sJ y1, uS, sJ y0, uS, sJ y1, uS, sJ y4, uS, sJ y5, uS, sI (1 : Int32), sI ii, sR a105, sR a114, sR a117, sR a120, sR a123, sR a105, sR a105, sR a105, sR a105, sI (0 : Int32), sI (1 : Int32), sI (0 : Int32), sI (1 : Int32), uU, uU, uU, uU, uU, uU, uU, uU, uU, uU, uU, uU, uU, uU, uU, uU, uU, uU, uU, uU, uU] []))
    have M166 := Fr.app N163 N166
    have A166_a114 := A163_a114.kp KF166 (ninS nea105_114.symm nin0)
    have A166_a117 := A163_a117.kp KF166 (ninS nea105_117.symm nin0)
    have A166_a120 := A163_a120.kp KF166 (ninS nea105_120.symm nin0)
    have A166_a123 := A163_a123.kp KF166 (ninS nea105_123.symm nin0)
    obtain ⟨jro0_0z, hjro0_0z⟩ : ∃ i : Int, i = ((jy0 + jy0) + (((jy0 - jy0) * jy5) + ((jy1 + jy1) * jy4))) := ⟨_, rfl⟩
    rw [← hjro0_0z] at Hro0_0z Bjro0_0z
    obtain ⟨jro0_1z, hjro0_1z⟩ : ∃ i : Int, i = ((((jy0 - jy0) * jy4) - ((jy1 + jy1) * jy5)) - (jy1 - jy1)) := ⟨_, rfl⟩
    rw [← hjro0_1z] at Hro0_1z Bjro0_1z
    obtain ⟨v167, hv167⟩ : ∃ v, y0 + y0 = v := ⟨_, rfl⟩
    obtain ⟨j167, hj167⟩ : ∃ i : Int, i = jy0 + jy0 := ⟨_, rfl⟩
    have B167 : -16777216 ≤ j167 ∧ j167 ≤ 16777216 := by rw [hj167]; exact own_bd_add by0 by0 (by decide)
    have F167 : v167.toInt = j167 := own_lf_add hv167 Fy0 Fy0 by0 by0 (by decide) hj167
    obtain ⟨v168, hv168⟩ : ∃ v, y1 - y1 = v := ⟨_, rfl⟩
    obtain ⟨j168, hj168⟩ : ∃ i : Int, i = jy1 - jy1 := ⟨_, rfl⟩
    have B168 : -16777216 ≤ j168 ∧ j168 ≤ 16777216 := by rw [hj168]; exact own_bd_sub by1 by1 (by decide)
    have F168 : v168.toInt = j168 := own_lf_sub hv168 Fy1 Fy1 by1 by1 (by decide) hj168
    refine OwnGo.pre (fun t k => XT.lload X166.here hx rfl (hb hby at_350) rfl (XT.lload X166.here hx rfl (hb hby at_352) rfl (own_ladd X166.here hx rfl (hb hby at_354) rfl hv167 (XT.lstore X166.here hx rfl (hb hby at_355) rfl (l' := #[sI p0, sI p1, sI p2, sI p3, sJ p4, uS, sI p5, sJ y0, uS, sJ y1, uS, sJ y0, uS, sJ y1, uS, sJ y4, uS, sJ y5, uS, sI (1 : Int32), sI ii, sR a105, sR a114, sR a117, sR a120, sR a123, sR a105, sR a105, sR a105, sR a105, sI (0 : Int32), sI (1 : Int32), sI (0 : Int32), sI (1 : Int32), sJ v167, uS, uU, uU, uU, uU, uU, uU, uU, uU, uU, uU, uU, uU, uU, uU, uU, uU, uU, uU, uU]) rfl (XT.lload X166.here hx rfl (hb hby at_357) rfl (XT.lload X166.here hx rfl (hb hby at_359) rfl (own_lsub X166.here hx rfl (hb hby at_361) rfl hv168 (XT.lstore X166.here hx rfl (hb hby at_362) rfl (l' := #[sI p0, sI p1, sI p2, sI p3, sJ p4, uS, sI p5, sJ y0, uS, sJ y1, uS, sJ y0, uS, sJ y1, uS, sJ y4, uS, sJ y5, uS, sI (1 : Int32), sI ii, sR a105, sR a114, sR a117, sR a120, sR a123, sR a105, sR a105, sR a105, sR a105, sI (0 : Int32), sI (1 : Int32), sI (0 : Int32), sI (1 : Int32), sJ v167, uS, sJ v168, uS, uU, uU, uU, uU, uU, uU, uU, uU, uU, uU, uU, uU, uU, uU, uU, uU, uU]) rfl k)))))))) ?_
    show OwnGo _ _ _ _ (T166.setTop (mkF m 364 #[sI p0, sI p1, sI p2, sI p3, sJ p4, uS, sI p5, sJ y0, uS, sJ y1, uS, sJ y0, uS, sJ y1, uS, sJ y4, uS, sJ y5, uS, sI (1 : Int32), sI ii, sR a105, sR a114, sR a117, sR a120, sR a123, sR a105, sR a105, sR a105, sR a105, sI (0 : Int32), sI (1 : Int32), sI (0 : Int32), sI (1 : Int32), sJ v167, uS, sJ v168, uS, uU, uU, uU, uU, uU, uU, uU, uU, uU, uU, uU, uU, uU, uU, uU, uU, uU] []))
    obtain ⟨v169, hv169⟩ : ∃ v, y0 - y0 = v := ⟨_, rfl⟩
    obtain ⟨j169, hj169⟩ : ∃ i : Int, i = jy0 - jy0 := ⟨_, rfl⟩
    have B169 : -16777216 ≤ j169 ∧ j169 ≤ 16777216 := by rw [hj169]; exact own_bd_sub by0 by0 (by decide)
    have F169 : v169.toInt = j169 := own_lf_sub hv169 Fy0 Fy0 by0 by0 (by decide) hj169
    obtain ⟨v170, hv170⟩ : ∃ v, y1 + y1 = v := ⟨_, rfl⟩
    obtain ⟨j170, hj170⟩ : ∃ i : Int, i = jy1 + jy1 := ⟨_, rfl⟩
    have B170 : -16777216 ≤ j170 ∧ j170 ≤ 16777216 := by rw [hj170]; exact own_bd_add by1 by1 (by decide)
    have F170 : v170.toInt = j170 := own_lf_add hv170 Fy1 Fy1 by1 by1 (by decide) hj170
    refine OwnGo.pre (fun t k => XT.lload X166.here hx rfl (hb hby at_364) rfl (XT.lload X166.here hx rfl (hb hby at_366) rfl (own_lsub X166.here hx rfl (hb hby at_368) rfl hv169 (XT.lstore X166.here hx rfl (hb hby at_369) rfl (l' := #[sI p0, sI p1, sI p2, sI p3, sJ p4, uS, sI p5, sJ y0, uS, sJ y1, uS, sJ y0, uS, sJ y1, uS, sJ y4, uS, sJ y5, uS, sI (1 : Int32), sI ii, sR a105, sR a114, sR a117, sR a120, sR a123, sR a105, sR a105, sR a105, sR a105, sI (0 : Int32), sI (1 : Int32), sI (0 : Int32), sI (1 : Int32), sJ v167, uS, sJ v168, uS, sJ v169, uS, uU, uU, uU, uU, uU, uU, uU, uU, uU, uU, uU, uU, uU, uU, uU]) rfl (XT.lload X166.here hx rfl (hb hby at_371) rfl (XT.lload X166.here hx rfl (hb hby at_373) rfl (own_ladd X166.here hx rfl (hb hby at_375) rfl hv170 (XT.lstore X166.here hx rfl (hb hby at_376) rfl (l' := #[sI p0, sI p1, sI p2, sI p3, sJ p4, uS, sI p5, sJ y0, uS, sJ y1, uS, sJ y0, uS, sJ y1, uS, sJ y4, uS, sJ y5, uS, sI (1 : Int32), sI ii, sR a105, sR a114, sR a117, sR a120, sR a123, sR a105, sR a105, sR a105, sR a105, sI (0 : Int32), sI (1 : Int32), sI (0 : Int32), sI (1 : Int32), sJ v167, uS, sJ v168, uS, sJ v169, uS, sJ v170, uS, uU, uU, uU, uU, uU, uU, uU, uU, uU, uU, uU, uU, uU]) rfl k)))))))) ?_
    show OwnGo _ _ _ _ (T166.setTop (mkF m 378 #[sI p0, sI p1, sI p2, sI p3, sJ p4, uS, sI p5, sJ y0, uS, sJ y1, uS, sJ y0, uS, sJ y1, uS, sJ y4, uS, sJ y5, uS, sI (1 : Int32), sI ii, sR a105, sR a114, sR a117, sR a120, sR a123, sR a105, sR a105, sR a105, sR a105, sI (0 : Int32), sI (1 : Int32), sI (0 : Int32), sI (1 : Int32), sJ v167, uS, sJ v168, uS, sJ v169, uS, sJ v170, uS, uU, uU, uU, uU, uU, uU, uU, uU, uU, uU, uU, uU, uU] []))
    refine OwnGo.pre (fun t k => XT.lload X166.here hx rfl (hb hby at_378) rfl (XT.lload X166.here hx rfl (hb hby at_380) rfl (XT.lload X166.here hx rfl (hb hby at_382) rfl (XT.lload X166.here hx rfl (hb hby at_384) rfl k)))) ?_
    show OwnGo _ _ _ _ (T166.setTop (mkF m 386 #[sI p0, sI p1, sI p2, sI p3, sJ p4, uS, sI p5, sJ y0, uS, sJ y1, uS, sJ y0, uS, sJ y1, uS, sJ y4, uS, sJ y5, uS, sI (1 : Int32), sI ii, sR a105, sR a114, sR a117, sR a120, sR a123, sR a105, sR a105, sR a105, sR a105, sI (0 : Int32), sI (1 : Int32), sI (0 : Int32), sI (1 : Int32), sJ v167, uS, sJ v168, uS, sJ v169, uS, sJ v170, uS, uU, uU, uU, uU, uU, uU, uU, uU, uU, uU, uU, uU, uU] [(.long y5), (.long y4), (.long v170), (.long v169)]))
    obtain ⟨_, _, ⟨T171, L171, k171, n171⟩, -, X171, ⟨Lc171, hQ171, l171, y171, z171⟩, st171⟩ := Jvm.LawKit.callS X166 hx (y := (⟨"com/example/isochron/isochron/dsp/FourierJoinPinLaw", "mulRe", "(JJJJ)J"⟩ : MethodName)) hown (mvT hZ (hw _ (List.mem_of_getElem? (i := 10) rfl))) (mvT hZ (hw _ (List.mem_of_getElem? (i := 11) rfl))) (mvT hZ (hw _ (List.mem_of_getElem? (i := 2) rfl))) (mvT hZ (hw _ (List.mem_of_getElem? (i := 12) rfl))) (by decide) (backOf (W := 0) (rm := ({ frames := 0, cells := 0, slots := 0, locals := 0 } : Room)) (Q := Q_rmRe Z v169 v170 y4 y5 j169 j170 jy4 jy5 T166.heap n0) (rmRe l Z a0 hw [] v169 v170 y4 y5 j169 j170 jy4 jy5 T166.heap n0 Z166 F169 (own_bd_le B169 (by decide)) F170 (own_bd_le B170 (by decide)) Fy4 (own_bd_le by4 (by decide)) Fy5 (own_bd_le by5 (by decide))) hZ (hw _ (List.mem_of_getElem? (i := 12) rfl)) (hw _ (List.mem_of_getElem? (i := 2) rfl)) (by decide) (by decide)) (g := (mkF m 386 #[sI p0, sI p1, sI p2, sI p3, sJ p4, uS, sI p5, sJ y0, uS, sJ y1, uS, sJ y0, uS, sJ y1, uS, sJ y4, uS, sJ y5, uS, sI (1 : Int32), sI ii, sR a105, sR a114, sR a117, sR a120, sR a123, sR a105, sR a105, sR a105, sR a105, sI (0 : Int32), sI (1 : Int32), sI (0 : Int32), sI (1 : Int32), sJ v167, uS, sJ v168, uS, sJ v169, uS, sJ v170, uS, uU, uU, uU, uU, uU, uU, uU, uU, uU, uU, uU, uU, uU] [(.long y5), (.long y4), (.long v170), (.long v169)])) rfl (by rw [hml]; rfl) (argsL := [(.long v169), (.long v170), (.long y4), (.long y5)]) (rest := []) (lenOf pd_rmRe rfl) rfl (by show 2 * 0 + _ ≤ _; exact Nat.le_of_eq rfl) (hb hby at_386) (fun _ _ => ⟨rfl, rfl, (by decide : 5 + 0 ≤ _), (by decide : 16 + 0 ≤ _)⟩)
    dsimp only [Pt.U, Pt.locs, Pt.cells, Pt.slots] at X171 l171 y171 z171 st171 hQ171
    replace l171 := l171.symm
    replace y171 := y171.symm
    replace z171 := z171.symm
    subst l171 y171 z171
    obtain ⟨wr, rfl, Fwr, N171, e171⟩ := hQ171
    refine OwnGo.pre (fun t k => st171 t k) ?_
    show OwnGo _ _ _ _ (T171.setTop (mkF m 389 #[sI p0, sI p1, sI p2, sI p3, sJ p4, uS, sI p5, sJ y0, uS, sJ y1, uS, sJ y0, uS, sJ y1, uS, sJ y4, uS, sJ y5, uS, sI (1 : Int32), sI ii, sR a105, sR a114, sR a117, sR a120, sR a123, sR a105, sR a105, sR a105, sR a105, sI (0 : Int32), sI (1 : Int32), sI (0 : Int32), sI (1 : Int32), sJ v167, uS, sJ v168, uS, sJ v169, uS, sJ v170, uS, uU, uU, uU, uU, uU, uU, uU, uU, uU, uU, uU, uU, uU] [(.long wr)]))
    have M171 := Fr.app M166 N171
    obtain ⟨jwr, hjwr⟩ : ∃ i : Int, i = j169 * jy4 - j170 * jy5 := ⟨_, rfl⟩
    rw [← hjwr] at Fwr
    have Bwr : -281474976710656 ≤ jwr ∧ jwr ≤ 281474976710656 := by rw [hjwr]; exact own_bd_sub (own_bd_mul B169 by4 rfl) (own_bd_mul B170 by5 rfl) (by decide)
    refine OwnGo.pre (fun t k => XT.lstore X171.here hx rfl (hb hby at_389) rfl (l' := #[sI p0, sI p1, sI p2, sI p3, sJ p4, uS, sI p5, sJ y0, uS, sJ y1, uS, sJ y0, uS, sJ y1, uS, sJ y4, uS, sJ y5, uS, sI (1 : Int32), sI ii, sR a105, sR a114, sR a117, sR a120, sR a123, sR a105, sR a105, sR a105, sR a105, sI (0 : Int32), sI (1 : Int32), sI (0 : Int32), sI (1 : Int32), sJ v167, uS, sJ v168, uS, sJ v169, uS, sJ v170, uS, sJ wr, uS, uU, uU, uU, uU, uU, uU, uU, uU, uU, uU, uU]) rfl (XT.lload X171.here hx rfl (hb hby at_391) rfl (XT.lload X171.here hx rfl (hb hby at_393) rfl (XT.lload X171.here hx rfl (hb hby at_395) rfl (XT.lload X171.here hx rfl (hb hby at_397) rfl k))))) ?_
    show OwnGo _ _ _ _ (T171.setTop (mkF m 399 #[sI p0, sI p1, sI p2, sI p3, sJ p4, uS, sI p5, sJ y0, uS, sJ y1, uS, sJ y0, uS, sJ y1, uS, sJ y4, uS, sJ y5, uS, sI (1 : Int32), sI ii, sR a105, sR a114, sR a117, sR a120, sR a123, sR a105, sR a105, sR a105, sR a105, sI (0 : Int32), sI (1 : Int32), sI (0 : Int32), sI (1 : Int32), sJ v167, uS, sJ v168, uS, sJ v169, uS, sJ v170, uS, sJ wr, uS, uU, uU, uU, uU, uU, uU, uU, uU, uU, uU, uU] [(.long y5), (.long y4), (.long v170), (.long v169)]))
    obtain ⟨_, _, ⟨T172, L172, k172, n172⟩, -, X172, ⟨Lc172, hQ172, l172, y172, z172⟩, st172⟩ := Jvm.LawKit.callS X171 hx (y := (⟨"com/example/isochron/isochron/dsp/FourierJoinPinLaw", "mulIm", "(JJJJ)J"⟩ : MethodName)) hown (mvT hZ (hw _ (List.mem_of_getElem? (i := 13) rfl))) (mvT hZ (hw _ (List.mem_of_getElem? (i := 14) rfl))) (mvT hZ (hw _ (List.mem_of_getElem? (i := 2) rfl))) (mvT hZ (hw _ (List.mem_of_getElem? (i := 15) rfl))) (by decide) (backOf (W := 0) (rm := ({ frames := 0, cells := 0, slots := 0, locals := 0 } : Room)) (Q := Q_rmIm Z v169 v170 y4 y5 j169 j170 jy4 jy5 T166.heap n0) (rmIm l Z a0 hw [] v169 v170 y4 y5 j169 j170 jy4 jy5 T166.heap n0 Z166 F169 (own_bd_le B169 (by decide)) F170 (own_bd_le B170 (by decide)) Fy4 (own_bd_le by4 (by decide)) Fy5 (own_bd_le by5 (by decide))) hZ (hw _ (List.mem_of_getElem? (i := 15) rfl)) (hw _ (List.mem_of_getElem? (i := 2) rfl)) (by decide) (by decide)) (g := (mkF m 399 #[sI p0, sI p1, sI p2, sI p3, sJ p4, uS, sI p5, sJ y0, uS, sJ y1, uS, sJ y0, uS, sJ y1, uS, sJ y4, uS, sJ y5, uS, sI (1 : Int32), sI ii, sR a105, sR a114, sR a117, sR a120, sR a123, sR a105, sR a105, sR a105, sR a105, sI (0 : Int32), sI (1 : Int32), sI (0 : Int32), sI (1 : Int32), sJ v167, uS, sJ v168, uS, sJ v169, uS, sJ v170, uS, sJ wr, uS, uU, uU, uU, uU, uU, uU, uU, uU, uU, uU, uU] [(.long y5), (.long y4), (.long v170), (.long v169)])) rfl (by rw [hml]; rfl) (argsL := [(.long v169), (.long v170), (.long y4), (.long y5)]) (rest := []) (lenOf pd_rmIm rfl) rfl (by show 2 * 0 + _ ≤ _; exact Nat.le_of_eq rfl) (hb hby at_399) (fun _ _ => ⟨rfl, e171, (by decide : 5 + 0 ≤ _), (by decide : 16 + 0 ≤ _)⟩)
    dsimp only [Pt.U, Pt.locs, Pt.cells, Pt.slots] at X172 l172 y172 z172 st172 hQ172
    replace l172 := l172.symm
    replace y172 := y172.symm
    replace z172 := z172.symm
    subst l172 y172 z172
    obtain ⟨wi, rfl, Fwi, N172, e172⟩ := hQ172
    refine OwnGo.pre (fun t k => st172 t k) ?_
    show OwnGo _ _ _ _ (T172.setTop (mkF m 402 #[sI p0, sI p1, sI p2, sI p3, sJ p4, uS, sI p5, sJ y0, uS, sJ y1, uS, sJ y0, uS, sJ y1, uS, sJ y4, uS, sJ y5, uS, sI (1 : Int32), sI ii, sR a105, sR a114, sR a117, sR a120, sR a123, sR a105, sR a105, sR a105, sR a105, sI (0 : Int32), sI (1 : Int32), sI (0 : Int32), sI (1 : Int32), sJ v167, uS, sJ v168, uS, sJ v169, uS, sJ v170, uS, sJ wr, uS, uU, uU, uU, uU, uU, uU, uU, uU, uU, uU, uU] [(.long wi)]))
    have M172 := Fr.app M171 N172
    obtain ⟨jwi, hjwi⟩ : ∃ i : Int, i = j169 * jy5 + j170 * jy4 := ⟨_, rfl⟩
    rw [← hjwi] at Fwi
    have Bwi : -281474976710656 ≤ jwi ∧ jwi ≤ 281474976710656 := by rw [hjwi]; exact own_bd_add (own_bd_mul B169 by5 rfl) (own_bd_mul B170 by4 rfl) (by decide)
    refine OwnGo.pre (fun t k => XT.lstore X172.here hx rfl (hb hby at_402) rfl (l' := #[sI p0, sI p1, sI p2, sI p3, sJ p4, uS, sI p5, sJ y0, uS, sJ y1, uS, sJ y0, uS, sJ y1, uS, sJ y4, uS, sJ y5, uS, sI (1 : Int32), sI ii, sR a105, sR a114, sR a117, sR a120, sR a123, sR a105, sR a105, sR a105, sR a105, sI (0 : Int32), sI (1 : Int32), sI (0 : Int32), sI (1 : Int32), sJ v167, uS, sJ v168, uS, sJ v169, uS, sJ v170, uS, sJ wr, uS, sJ wi, uS, uU, uU, uU, uU, uU, uU, uU, uU, uU]) rfl (XS.aload X172.here hx rfl (hb hby at_404) rfl rfl (XS.iload X172.here hx rfl (hb hby at_406) rfl (own_daL X172 hx hZ e172 AFo0z (j := (0 : Int32)) (by decide) (i := 0) (by decide) (x := ro0_0z) rfl (g := (mkF m 408 #[sI p0, sI p1, sI p2, sI p3, sJ p4, uS, sI p5, sJ y0, uS, sJ y1, uS, sJ y0, uS, sJ y1, uS, sJ y4, uS, sJ y5, uS, sI (1 : Int32), sI ii, sR a105, sR a114, sR a117, sR a120, sR a123, sR a105, sR a105, sR a105, sR a105, sI (0 : Int32), sI (1 : Int32), sI (0 : Int32), sI (1 : Int32), sJ v167, uS, sJ v168, uS, sJ v169, uS, sJ v170, uS, sJ wr, uS, sJ wi, uS, uU, uU, uU, uU, uU, uU, uU, uU, uU] [(.int (0 : Int32)), (.ref a105)])) rfl (rest := []) rfl (hb hby at_408) (XS.dstore X172.here hx rfl (hb hby at_409) rfl (l' := #[sI p0, sI p1, sI p2, sI p3, sJ p4, uS, sI p5, sJ y0, uS, sJ y1, uS, sJ y0, uS, sJ y1, uS, sJ y4, uS, sJ y5, uS, sI (1 : Int32), sI ii, sR a105, sR a114, sR a117, sR a120, sR a123, sR a105, sR a105, sR a105, sR a105, sI (0 : Int32), sI (1 : Int32), sI (0 : Int32), sI (1 : Int32), sJ v167, uS, sJ v168, uS, sJ v169, uS, sJ v170, uS, sJ wr, uS, sJ wi, uS, sD ro0_0z, uS, uU, uU, uU, uU, uU, uU, uU]) rfl (XS.aload X172.here hx rfl (hb hby at_411) rfl rfl (XS.iload X172.here hx rfl (hb hby at_413) rfl (own_daL X172 hx hZ e172 AFo0z (j := (1 : Int32)) (by decide) (i := 1) (by decide) (x := ro0_1z) rfl (g := (mkF m 415 #[sI p0, sI p1, sI p2, sI p3, sJ p4, uS, sI p5, sJ y0, uS, sJ y1, uS, sJ y0, uS, sJ y1, uS, sJ y4, uS, sJ y5, uS, sI (1 : Int32), sI ii, sR a105, sR a114, sR a117, sR a120, sR a123, sR a105, sR a105, sR a105, sR a105, sI (0 : Int32), sI (1 : Int32), sI (0 : Int32), sI (1 : Int32), sJ v167, uS, sJ v168, uS, sJ v169, uS, sJ v170, uS, sJ wr, uS, sJ wi, uS, sD ro0_0z, uS, uU, uU, uU, uU, uU, uU, uU] [(.int (1 : Int32)), (.ref a105)])) rfl (rest := []) rfl (hb hby at_415) k)))))))) ?_
    show OwnGo _ _ _ _ (T172.setTop (mkF m 416 #[sI p0, sI p1, sI p2, sI p3, sJ p4, uS, sI p5, sJ y0, uS, sJ y1, uS, sJ y0, uS, sJ y1, uS, sJ y4, uS, sJ y5, uS, sI (1 : Int32), sI ii, sR a105, sR a114, sR a117, sR a120, sR a123, sR a105, sR a105, sR a105, sR a105, sI (0 : Int32), sI (1 : Int32), sI (0 : Int32), sI (1 : Int32), sJ v167, uS, sJ v168, uS, sJ v169, uS, sJ v170, uS, sJ wr, uS, sJ wi, uS, sD ro0_0z, uS, uU, uU, uU, uU, uU, uU, uU] [(.double ro0_1z)]))
    refine OwnGo.pre (fun t k => XS.dstore X172.here hx rfl (hb hby at_416) rfl (l' := #[sI p0, sI p1, sI p2, sI p3, sJ p4, uS, sI p5, sJ y0, uS, sJ y1, uS, sJ y0, uS, sJ y1, uS, sJ y4, uS, sJ y5, uS, sI (1 : Int32), sI ii, sR a105, sR a114, sR a117, sR a120, sR a123, sR a105, sR a105, sR a105, sR a105, sI (0 : Int32), sI (1 : Int32), sI (0 : Int32), sI (1 : Int32), sJ v167, uS, sJ v168, uS, sJ v169, uS, sJ v170, uS, sJ wr, uS, sJ wi, uS, sD ro0_0z, uS, sD ro0_1z, uS, uU, uU, uU, uU, uU]) rfl (XS.aload X172.here hx rfl (hb hby at_418) rfl rfl (XS.iload X172.here hx rfl (hb hby at_420) rfl (own_daL X172 hx hZ e172 AFo0z (j := (0 : Int32)) (by decide) (i := 0) (by decide) (x := ro0_0z) rfl (g := (mkF m 422 #[sI p0, sI p1, sI p2, sI p3, sJ p4, uS, sI p5, sJ y0, uS, sJ y1, uS, sJ y0, uS, sJ y1, uS, sJ y4, uS, sJ y5, uS, sI (1 : Int32), sI ii, sR a105, sR a114, sR a117, sR a120, sR a123, sR a105, sR a105, sR a105, sR a105, sI (0 : Int32), sI (1 : Int32), sI (0 : Int32), sI (1 : Int32), sJ v167, uS, sJ v168, uS, sJ v169, uS, sJ v170, uS, sJ wr, uS, sJ wi, uS, sD ro0_0z, uS, sD ro0_1z, uS, uU, uU, uU, uU, uU] [(.int (0 : Int32)), (.ref a105)])) rfl (rest := []) rfl (hb hby at_422) (XS.dstore X172.here hx rfl (hb hby at_423) rfl (l' := #[sI p0, sI p1, sI p2, sI p3, sJ p4, uS, sI p5, sJ y0, uS, sJ y1, uS, sJ y0, uS, sJ y1, uS, sJ y4, uS, sJ y5, uS, sI (1 : Int32), sI ii, sR a105, sR a114, sR a117, sR a120, sR a123, sR a105, sR a105, sR a105, sR a105, sI (0 : Int32), sI (1 : Int32), sI (0 : Int32), sI (1 : Int32), sJ v167, uS, sJ v168, uS, sJ v169, uS, sJ v170, uS, sJ wr, uS, sJ wi, uS, sD ro0_0z, uS, sD ro0_1z, uS, sD ro0_0z, uS, uU, uU, uU]) rfl (XS.aload X172.here hx rfl (hb hby at_425) rfl rfl (XS.iload X172.here hx rfl (hb hby at_427) rfl (own_daL X172 hx hZ e172 AFo0z (j := (1 : Int32)) (by decide) (i := 1) (by decide) (x := ro0_1z) rfl (g := (mkF m 429 #[sI p0, sI p1, sI p2, sI p3, sJ p4, uS, sI p5, sJ y0, uS, sJ y1, uS, sJ y0, uS, sJ y1, uS, sJ y4, uS, sJ y5, uS, sI (1 : Int32), sI ii, sR a105, sR a114, sR a117, sR a120, sR a123, sR a105, sR a105, sR a105, sR a105, sI (0 : Int32), sI (1 : Int32), sI (0 : Int32), sI (1 : Int32), sJ v167, uS, sJ v168, uS, sJ v169, uS, sJ v170, uS, sJ wr, uS, sJ wi, uS, sD ro0_0z, uS, sD ro0_1z, uS, sD ro0_0z, uS, uU, uU, uU] [(.int (1 : Int32)), (.ref a105)])) rfl (rest := []) rfl (hb hby at_429) k)))))))) ?_
    show OwnGo _ _ _ _ (T172.setTop (mkF m 430 #[sI p0, sI p1, sI p2, sI p3, sJ p4, uS, sI p5, sJ y0, uS, sJ y1, uS, sJ y0, uS, sJ y1, uS, sJ y4, uS, sJ y5, uS, sI (1 : Int32), sI ii, sR a105, sR a114, sR a117, sR a120, sR a123, sR a105, sR a105, sR a105, sR a105, sI (0 : Int32), sI (1 : Int32), sI (0 : Int32), sI (1 : Int32), sJ v167, uS, sJ v168, uS, sJ v169, uS, sJ v170, uS, sJ wr, uS, sJ wi, uS, sD ro0_0z, uS, sD ro0_1z, uS, sD ro0_0z, uS, uU, uU, uU] [(.double ro0_1z)]))
    refine OwnGo.pre (fun t k => XS.dstore X172.here hx rfl (hb hby at_430) rfl (l' := #[sI p0, sI p1, sI p2, sI p3, sJ p4, uS, sI p5, sJ y0, uS, sJ y1, uS, sJ y0, uS, sJ y1, uS, sJ y4, uS, sJ y5, uS, sI (1 : Int32), sI ii, sR a105, sR a114, sR a117, sR a120, sR a123, sR a105, sR a105, sR a105, sR a105, sI (0 : Int32), sI (1 : Int32), sI (0 : Int32), sI (1 : Int32), sJ v167, uS, sJ v168, uS, sJ v169, uS, sJ v170, uS, sJ wr, uS, sJ wi, uS, sD ro0_0z, uS, sD ro0_1z, uS, sD ro0_0z, uS, sD ro0_1z, uS, uU]) rfl (XS.dload X172.here hx rfl (hb hby at_432) rfl k)) ?_
    show OwnGo _ _ _ _ (T172.setTop (mkF m 434 #[sI p0, sI p1, sI p2, sI p3, sJ p4, uS, sI p5, sJ y0, uS, sJ y1, uS, sJ y0, uS, sJ y1, uS, sJ y4, uS, sJ y5, uS, sI (1 : Int32), sI ii, sR a105, sR a114, sR a117, sR a120, sR a123, sR a105, sR a105, sR a105, sR a105, sI (0 : Int32), sI (1 : Int32), sI (0 : Int32), sI (1 : Int32), sJ v167, uS, sJ v168, uS, sJ v169, uS, sJ v170, uS, sJ wr, uS, sJ wi, uS, sD ro0_0z, uS, sD ro0_1z, uS, sD ro0_0z, uS, sD ro0_1z, uS, uU] [(.double ro0_0z)]))
    obtain ⟨_, _, ⟨T173, L173, k173, n173⟩, -, X173, ⟨Lc173, hQ173, l173, y173, z173⟩, st173⟩ := Jvm.LawKit.callS X172 hx (y := (⟨"com/example/isochron/isochron/dsp/FourierJoinPinLaw", "whole", "(D)Z"⟩ : MethodName)) hown (mvT hZ (hw _ (List.mem_of_getElem? (i := 16) rfl))) (mvT hZ (hw _ (List.mem_of_getElem? (i := 17) rfl))) (mvT hZ (hw _ (List.mem_of_getElem? (i := 2) rfl))) (mvT hZ (hw _ (List.mem_of_getElem? (i := 18) rfl))) (by decide) (backOf (W := 0) (rm := ({ frames := 0, cells := 0, slots := 0, locals := 0 } : Room)) (Q := Q_rmW Z ro0_0z jro0_0z T166.heap n0) (rmW l Z a0 hw [] ro0_0z jro0_0z T166.heap n0 Z166 Hro0_0z (own_bd_le Bjro0_0z (by decide))) hZ (hw _ (List.mem_of_getElem? (i := 18) rfl)) (hw _ (List.mem_of_getElem? (i := 2) rfl)) (by decide) (by decide)) (g := (mkF m 434 #[sI p0, sI p1, sI p2, sI p3, sJ p4, uS, sI p5, sJ y0, uS, sJ y1, uS, sJ y0, uS, sJ y1, uS, sJ y4, uS, sJ y5, uS, sI (1 : Int32), sI ii, sR a105, sR a114, sR a117, sR a120, sR a123, sR a105, sR a105, sR a105, sR a105, sI (0 : Int32), sI (1 : Int32), sI (0 : Int32), sI (1 : Int32), sJ v167, uS, sJ v168, uS, sJ v169, uS, sJ v170, uS, sJ wr, uS, sJ wi, uS, sD ro0_0z, uS, sD ro0_1z, uS, sD ro0_0z, uS, sD ro0_1z, uS, uU] [(.double ro0_0z)])) rfl (by rw [hml]; rfl) (argsL := [(.double ro0_0z)]) (rest := []) (lenOf pd_rmW rfl) rfl (by show 2 * 0 + _ ≤ _; exact Nat.le_of_eq rfl) (hb hby at_434) (fun _ _ => ⟨rfl, e172, (by decide : 5 + 0 ≤ _), (by decide : 16 + 0 ≤ _)⟩)
    dsimp only [Pt.U, Pt.locs, Pt.cells, Pt.slots] at X173 l173 y173 z173 st173 hQ173
    replace l173 := l173.symm
    replace y173 := y173.symm
    replace z173 := z173.symm
    subst l173 y173 z173
    obtain ⟨rfl, N173, e173⟩ := hQ173
    refine OwnGo.pre (fun t k => st173 t k) ?_
    show OwnGo _ _ _ _ (T173.setTop (mkF m 437 #[sI p0, sI p1, sI p2, sI p3, sJ p4, uS, sI p5, sJ y0, uS, sJ y1, uS, sJ y0, uS, sJ y1, uS, sJ y4, uS, sJ y5, uS, sI (1 : Int32), sI ii, sR a105, sR a114, sR a117, sR a120, sR a123, sR a105, sR a105, sR a105, sR a105, sI (0 : Int32), sI (1 : Int32), sI (0 : Int32), sI (1 : Int32), sJ v167, uS, sJ v168, uS, sJ v169, uS, sJ v170, uS, sJ wr, uS, sJ wi, uS, sD ro0_0z, uS, sD ro0_1z, uS, sD ro0_0z, uS, sD ro0_1z, uS, uU] [(.int (1 : Int32))]))
    have M173 := Fr.app M172 N173
    refine OwnGo.pre (fun t k => XS.ifNo X173.here hx rfl (hb hby at_437) rfl (by decide) (XS.dload X173.here hx rfl (hb hby at_440) rfl k)) ?_
    show OwnGo _ _ _ _ (T173.setTop (mkF m 442 #[sI p0, sI p1, sI p2, sI p3, sJ p4, uS, sI p5, sJ y0, uS, sJ y1, uS, sJ y0, uS, sJ y1, uS, sJ y4, uS, sJ y5, uS, sI (1 : Int32), sI ii, sR a105, sR a114, sR a117, sR a120, sR a123, sR a105, sR a105, sR a105, sR a105, sI (0 : Int32), sI (1 : Int32), sI (0 : Int32), sI (1 : Int32), sJ v167, uS, sJ v168, uS, sJ v169, uS, sJ v170, uS, sJ wr, uS, sJ wi, uS, sD ro0_0z, uS, sD ro0_1z, uS, sD ro0_0z, uS, sD ro0_1z, uS, uU] [(.double ro0_1z)]))
    obtain ⟨_, _, ⟨T174, L174, k174, n174⟩, -, X174, ⟨Lc174, hQ174, l174, y174, z174⟩, st174⟩ := Jvm.LawKit.callS X173 hx (y := (⟨"com/example/isochron/isochron/dsp/FourierJoinPinLaw", "whole", "(D)Z"⟩ : MethodName)) hown (mvT hZ (hw _ (List.mem_of_getElem? (i := 16) rfl))) (mvT hZ (hw _ (List.mem_of_getElem? (i := 17) rfl))) (mvT hZ (hw _ (List.mem_of_getElem? (i := 2) rfl))) (mvT hZ (hw _ (List.mem_of_getElem? (i := 18) rfl))) (by decide) (backOf (W := 0) (rm := ({ frames := 0, cells := 0, slots := 0, locals := 0 } : Room)) (Q := Q_rmW Z ro0_1z jro0_1z T166.heap n0) (rmW l Z a0 hw [] ro0_1z jro0_1z T166.heap n0 Z166 Hro0_1z (own_bd_le Bjro0_1z (by decide))) hZ (hw _ (List.mem_of_getElem? (i := 18) rfl)) (hw _ (List.mem_of_getElem? (i := 2) rfl)) (by decide) (by decide)) (g := (mkF m 442 #[sI p0, sI p1, sI p2, sI p3, sJ p4, uS, sI p5, sJ y0, uS, sJ y1, uS, sJ y0, uS, sJ y1, uS, sJ y4, uS, sJ y5, uS, sI (1 : Int32), sI ii, sR a105, sR a114, sR a117, sR a120, sR a123, sR a105, sR a105, sR a105, sR a105, sI (0 : Int32), sI (1 : Int32), sI (0 : Int32), sI (1 : Int32), sJ v167, uS, sJ v168, uS, sJ v169, uS, sJ v170, uS, sJ wr, uS, sJ wi, uS, sD ro0_0z, uS, sD ro0_1z, uS, sD ro0_0z, uS, sD ro0_1z, uS, uU] [(.double ro0_1z)])) rfl (by rw [hml]; rfl) (argsL := [(.double ro0_1z)]) (rest := []) (lenOf pd_rmW rfl) rfl (by show 2 * 0 + _ ≤ _; exact Nat.le_of_eq rfl) (hb hby at_442) (fun _ _ => ⟨rfl, e173, (by decide : 5 + 0 ≤ _), (by decide : 16 + 0 ≤ _)⟩)
    dsimp only [Pt.U, Pt.locs, Pt.cells, Pt.slots] at X174 l174 y174 z174 st174 hQ174
    replace l174 := l174.symm
    replace y174 := y174.symm
    replace z174 := z174.symm
    subst l174 y174 z174
    obtain ⟨rfl, N174, e174⟩ := hQ174
    refine OwnGo.pre (fun t k => st174 t k) ?_
    show OwnGo _ _ _ _ (T174.setTop (mkF m 445 #[sI p0, sI p1, sI p2, sI p3, sJ p4, uS, sI p5, sJ y0, uS, sJ y1, uS, sJ y0, uS, sJ y1, uS, sJ y4, uS, sJ y5, uS, sI (1 : Int32), sI ii, sR a105, sR a114, sR a117, sR a120, sR a123, sR a105, sR a105, sR a105, sR a105, sI (0 : Int32), sI (1 : Int32), sI (0 : Int32), sI (1 : Int32), sJ v167, uS, sJ v168, uS, sJ v169, uS, sJ v170, uS, sJ wr, uS, sJ wi, uS, sD ro0_0z, uS, sD ro0_1z, uS, sD ro0_0z, uS, sD ro0_1z, uS, uU] [(.int (1 : Int32))]))
    have M174 := Fr.app M173 N174
    obtain ⟨v175, hv175⟩ : ∃ v, FP.d2l ro0_0z = v := ⟨_, rfl⟩
    have F175 : v175.toInt = jro0_0z := by rw [← hv175]; exact own_d2lb Hro0_0z Bjro0_0z (by decide)
    obtain ⟨v176, hv176⟩ : ∃ v, v167 + wi = v := ⟨_, rfl⟩
    obtain ⟨j176, hj176⟩ : ∃ i : Int, i = j167 + jwi := ⟨_, rfl⟩
    have B176 : -281474993487872 ≤ j176 ∧ j176 ≤ 281474993487872 := by rw [hj176]; exact own_bd_add B167 Bwi (by decide)
    have F176 : v176.toInt = j176 := own_lf_add hv176 F167 Fwi B167 Bwi (by decide) hj176
    refine OwnGo.pre (fun t k => XS.ifNo X174.here hx rfl (hb hby at_445) rfl (by decide) (XS.dload X174.here hx rfl (hb hby at_448) rfl (XS.d2lS X174.here hx rfl (hb hby at_450) rfl hv175 (XT.lload X174.here hx rfl (hb hby at_451) rfl (XT.lload X174.here hx rfl (hb hby at_453) rfl (own_ladd X174.here hx rfl (hb hby at_455) rfl hv176 (own_lcmp X174.here hx rfl (hb hby at_456) rfl rfl k))))))) ?_
    show OwnGo _ _ _ _ (T174.setTop (mkF m 457 #[sI p0, sI p1, sI p2, sI p3, sJ p4, uS, sI p5, sJ y0, uS, sJ y1, uS, sJ y0, uS, sJ y1, uS, sJ y4, uS, sJ y5, uS, sI (1 : Int32), sI ii, sR a105, sR a114, sR a117, sR a120, sR a123, sR a105, sR a105, sR a105, sR a105, sI (0 : Int32), sI (1 : Int32), sI (0 : Int32), sI (1 : Int32), sJ v167, uS, sJ v168, uS, sJ v169, uS, sJ v170, uS, sJ wr, uS, sJ wi, uS, sD ro0_0z, uS, sD ro0_1z, uS, sD ro0_0z, uS, sD ro0_1z, uS, uU] [(.int (XT.cmpL v175 v176))]))
    have q457 : v175.toInt = v176.toInt := by rw [F175, F176]; simp only [hjro0_0z, hj176, hj167, hjwi, hj169, hj170] <;> exact own_eq4 jy0 jy5 jy1 jy4
    obtain ⟨v177, hv177⟩ : ∃ v, FP.d2l ro0_1z = v := ⟨_, rfl⟩
    have F177 : v177.toInt = jro0_1z := by rw [← hv177]; exact own_d2lb Hro0_1z Bjro0_1z (by decide)
    obtain ⟨v178, hv178⟩ : ∃ v, -v177 = v := ⟨_, rfl⟩
    obtain ⟨j178, hj178⟩ : ∃ i : Int, i = -jro0_1z := ⟨_, rfl⟩
    have B178 : -281474993487872 ≤ j178 ∧ j178 ≤ 281474993487872 := by rw [hj178]; exact own_bd_neg Bjro0_1z
    have F178 : v178.toInt = j178 := own_lf_neg hv178 F177 Bjro0_1z (by decide) hj178
    obtain ⟨v179, hv179⟩ : ∃ v, v168 - wr = v := ⟨_, rfl⟩
    obtain ⟨j179, hj179⟩ : ∃ i : Int, i = j168 - jwr := ⟨_, rfl⟩
    have B179 : -281474993487872 ≤ j179 ∧ j179 ≤ 281474993487872 := by rw [hj179]; exact own_bd_sub B168 Bwr (by decide)
    have F179 : v179.toInt = j179 := own_lf_sub hv179 F168 Fwr B168 Bwr (by decide) hj179
    refine OwnGo.pre (fun t k => XS.ifNo X174.here hx rfl (hb hby at_457) rfl ((own_brL .ne _ _).trans (decide_eq_false (fun q => q q457))) (XS.dload X174.here hx rfl (hb hby at_460) rfl (XS.d2lS X174.here hx rfl (hb hby at_462) rfl hv177 (own_lneg X174.here hx rfl (hb hby at_463) rfl hv178 (XT.lload X174.here hx rfl (hb hby at_464) rfl (XT.lload X174.here hx rfl (hb hby at_466) rfl (own_lsub X174.here hx rfl (hb hby at_468) rfl hv179 (own_lcmp X174.here hx rfl (hb hby at_469) rfl rfl k)))))))) ?_
    show OwnGo _ _ _ _ (T174.setTop (mkF m 470 #[sI p0, sI p1, sI p2, sI p3, sJ p4, uS, sI p5, sJ y0, uS, sJ y1, uS, sJ y0, uS, sJ y1, uS, sJ y4, uS, sJ y5, uS, sI (1 : Int32), sI ii, sR a105, sR a114, sR a117, sR a120, sR a123, sR a105, sR a105, sR a105, sR a105, sI (0 : Int32), sI (1 : Int32), sI (0 : Int32), sI (1 : Int32), sJ v167, uS, sJ v168, uS, sJ v169, uS, sJ v170, uS, sJ wr, uS, sJ wi, uS, sD ro0_0z, uS, sD ro0_1z, uS, sD ro0_0z, uS, sD ro0_1z, uS, uU] [(.int (XT.cmpL v178 v179))]))
    have q470 : v178.toInt = v179.toInt := by rw [F178, F179]; simp only [hj178, hjro0_1z, hj179, hj168, hjwr, hj169, hj170] <;> exact own_eq5 jy0 jy4 jy1 jy5
    refine OwnGo.pre (fun t k => XS.ifNo X174.here hx rfl (hb hby at_470) rfl ((own_brL .ne _ _).trans (decide_eq_false (fun q => q q470))) (XS.iconst X174.here hx rfl (hb hby at_473) (XS.goto X174.here hx rfl (pc0 := 474) (pc' := 478) rfl (hb hby at_474) (by decide) (by decide) (XS.istore X174.here hx rfl (hb hby at_478) rfl (l' := #[sI p0, sI p1, sI p2, sI p3, sJ p4, uS, sI p5, sJ y0, uS, sJ y1, uS, sJ y0, uS, sJ y1, uS, sJ y4, uS, sJ y5, uS, sI (1 : Int32), sI ii, sR a105, sR a114, sR a117, sR a120, sR a123, sR a105, sR a105, sR a105, sR a105, sI (0 : Int32), sI (1 : Int32), sI (0 : Int32), sI (1 : Int32), sJ v167, uS, sJ v168, uS, sJ v169, uS, sJ v170, uS, sJ wr, uS, sJ wi, uS, sD ro0_0z, uS, sD ro0_1z, uS, sD ro0_0z, uS, sD ro0_1z, uS, sI (1 : Int32)]) rfl (XS.iload X174.here hx rfl (hb hby at_480) rfl (XS.iconst X174.here hx rfl (hb hby at_482) (XS.icmpYes X174.here hx rfl (pc0 := 483) (pc' := 538) rfl (hb hby at_483) rfl (by decide) (by decide) (by decide) (XS.iload X174.here hx rfl (hb hby at_538) rfl k)))))))) ?_
    show OwnGo _ _ _ _ (T174.setTop (mkF m 540 #[sI p0, sI p1, sI p2, sI p3, sJ p4, uS, sI p5, sJ y0, uS, sJ y1, uS, sJ y0, uS, sJ y1, uS, sJ y4, uS, sJ y5, uS, sI (1 : Int32), sI ii, sR a105, sR a114, sR a117, sR a120, sR a123, sR a105, sR a105, sR a105, sR a105, sI (0 : Int32), sI (1 : Int32), sI (0 : Int32), sI (1 : Int32), sJ v167, uS, sJ v168, uS, sJ v169, uS, sJ v170, uS, sJ wr, uS, sJ wi, uS, sD ro0_0z, uS, sD ro0_1z, uS, sD ro0_0z, uS, sD ro0_1z, uS, sI (1 : Int32)] [(.int (1 : Int32))]))
    refine OwnGo.pre (fun t k => XS.ifYes X174.here hx rfl (pc0 := 540) (pc' := 604) rfl (hb hby at_540) rfl (by decide) (by decide) (by decide) (XS.iload X174.here hx rfl (hb hby at_604) rfl (XS.iconst X174.here hx rfl (hb hby at_606) (XS.icmpNo X174.here hx rfl (hb hby at_607) rfl (by decide) (XS.iload X174.here hx rfl (hb hby at_610) rfl (XS.ifNo X174.here hx rfl (hb hby at_612) rfl (by decide) (XS.aload X174.here hx rfl (hb hby at_615) rfl rfl (XS.iconst X174.here hx rfl (hb hby at_617) k)))))))) ?_
    show OwnGo _ _ _ _ (T174.setTop (mkF m 618 #[sI p0, sI p1, sI p2, sI p3, sJ p4, uS, sI p5, sJ y0, uS, sJ y1, uS, sJ y0, uS, sJ y1, uS, sJ y4, uS, sJ y5, uS, sI (1 : Int32), sI ii, sR a105, sR a114, sR a117, sR a120, sR a123, sR a105, sR a105, sR a105, sR a105, sI (0 : Int32), sI (1 : Int32), sI (0 : Int32), sI (1 : Int32), sJ v167, uS, sJ v168, uS, sJ v169, uS, sJ v170, uS, sJ wr, uS, sJ wi, uS, sD ro0_0z, uS, sD ro0_1z, uS, sD ro0_0z, uS, sD ro0_1z, uS, sI (1 : Int32)] [(.int (2 : Int32)), (.ref a105)]))
    refine OwnGo.pre (fun t k => own_daL X174 hx hZ e174 AFo0z (j := (2 : Int32)) (by decide) (i := 2) (by decide) (x := (4602678819172646912 : UInt64)) rfl (g := (mkF m 618 #[sI p0, sI p1, sI p2, sI p3, sJ p4, uS, sI p5, sJ y0, uS, sJ y1, uS, sJ y0, uS, sJ y1, uS, sJ y4, uS, sJ y5, uS, sI (1 : Int32), sI ii, sR a105, sR a114, sR a117, sR a120, sR a123, sR a105, sR a105, sR a105, sR a105, sI (0 : Int32), sI (1 : Int32), sI (0 : Int32), sI (1 : Int32), sJ v167, uS, sJ v168, uS, sJ v169, uS, sJ v170, uS, sJ wr, uS, sJ wi, uS, sD ro0_0z, uS, sD ro0_1z, uS, sD ro0_0z, uS, sD ro0_1z, uS, sI (1 : Int32)] [(.int (2 : Int32)), (.ref a105)])) rfl (rest := []) rfl (hb hby at_618) (own_ldcD X174 hx hown (mvT hZ (hw _ (List.mem_of_getElem? (i := 5) rfl))) rfl (hb hby at_619) (XS.dcmpS X174.here hx rfl (hb hby at_622) rfl rfl (XS.ifNo X174.here hx rfl (hb hby at_623) rfl (by decide +kernel) (XS.aload X174.here hx rfl (hb hby at_626) rfl rfl (XS.iconst X174.here hx rfl (hb hby at_628) (own_daL X174 hx hZ e174 AFo0z (j := (3 : Int32)) (by decide) (i := 3) (by decide) (x := (4602678819172646912 : UInt64)) rfl (g := (mkF m 629 #[sI p0, sI p1, sI p2, sI p3, sJ p4, uS, sI p5, sJ y0, uS, sJ y1, uS, sJ y0, uS, sJ y1, uS, sJ y4, uS, sJ y5, uS, sI (1 : Int32), sI ii, sR a105, sR a114, sR a117, sR a120, sR a123, sR a105, sR a105, sR a105, sR a105, sI (0 : Int32), sI (1 : Int32), sI (0 : Int32), sI (1 : Int32), sJ v167, uS, sJ v168, uS, sJ v169, uS, sJ v170, uS, sJ wr, uS, sJ wi, uS, sD ro0_0z, uS, sD ro0_1z, uS, sD ro0_0z, uS, sD ro0_1z, uS, sI (1 : Int32)] [(.int (3 : Int32)), (.ref a105)])) rfl (rest := []) rfl (hb hby at_629) (own_ldcD X174 hx hown (mvT hZ (hw _ (List.mem_of_getElem? (i := 5) rfl))) rfl (hb hby at_630) k)))))))) ?_
    show OwnGo _ _ _ _ (T174.setTop (mkF m 633 #[sI p0, sI p1, sI p2, sI p3, sJ p4, uS, sI p5, sJ y0, uS, sJ y1, uS, sJ y0, uS, sJ y1, uS, sJ y4, uS, sJ y5, uS, sI (1 : Int32), sI ii, sR a105, sR a114, sR a117, sR a120, sR a123, sR a105, sR a105, sR a105, sR a105, sI (0 : Int32), sI (1 : Int32), sI (0 : Int32), sI (1 : Int32), sJ v167, uS, sJ v168, uS, sJ v169, uS, sJ v170, uS, sJ wr, uS, sJ wi, uS, sD ro0_0z, uS, sD ro0_1z, uS, sD ro0_0z, uS, sD ro0_1z, uS, sI (1 : Int32)] [(.double (4602678819172646912 : UInt64)), (.double (4602678819172646912 : UInt64))]))
    refine OwnGo.pre (fun t k => XS.dcmpS X174.here hx rfl (hb hby at_633) rfl rfl (XS.ifNo X174.here hx rfl (hb hby at_634) rfl (by decide +kernel) (XS.aload X174.here hx rfl (hb hby at_637) rfl rfl (XS.iconst X174.here hx rfl (hb hby at_639) (own_daL X174 hx hZ e174 AFo0z (j := (4 : Int32)) (by decide) (i := 4) (by decide) (x := (4602678819172646912 : UInt64)) rfl (g := (mkF m 640 #[sI p0, sI p1, sI p2, sI p3, sJ p4, uS, sI p5, sJ y0, uS, sJ y1, uS, sJ y0, uS, sJ y1, uS, sJ y4, uS, sJ y5, uS, sI (1 : Int32), sI ii, sR a105, sR a114, sR a117, sR a120, sR a123, sR a105, sR a105, sR a105, sR a105, sI (0 : Int32), sI (1 : Int32), sI (0 : Int32), sI (1 : Int32), sJ v167, uS, sJ v168, uS, sJ v169, uS, sJ v170, uS, sJ wr, uS, sJ wi, uS, sD ro0_0z, uS, sD ro0_1z, uS, sD ro0_0z, uS, sD ro0_1z, uS, sI (1 : Int32)] [(.int (4 : Int32)), (.ref a105)])) rfl (rest := []) rfl (hb hby at_640) (own_ldcD X174 hx hown (mvT hZ (hw _ (List.mem_of_getElem? (i := 5) rfl))) rfl (hb hby at_641) (XS.dcmpS X174.here hx rfl (hb hby at_644) rfl rfl (XS.ifNo X174.here hx rfl (hb hby at_645) rfl (by decide +kernel) k)))))))) ?_
    show OwnGo _ _ _ _ (T174.setTop (mkF m 648 #[sI p0, sI p1, sI p2, sI p3, sJ p4, uS, sI p5, sJ y0, uS, sJ y1, uS, sJ y0, uS, sJ y1, uS, sJ y4, uS, sJ y5, uS, sI (1 : Int32), sI ii, sR a105, sR a114, sR a117, sR a120, sR a123, sR a105, sR a105, sR a105, sR a105, sI (0 : Int32), sI (1 : Int32), sI (0 : Int32), sI (1 : Int32), sJ v167, uS, sJ v168, uS, sJ v169, uS, sJ v170, uS, sJ wr, uS, sJ wi, uS, sD ro0_0z, uS, sD ro0_1z, uS, sD ro0_0z, uS, sD ro0_1z, uS, sI (1 : Int32)] []))
    refine OwnGo.pre (fun t k => XS.iconst X174.here hx rfl (hb hby at_648) (XS.goto X174.here hx rfl (pc0 := 649) (pc' := 653) rfl (hb hby at_649) (by decide) (by decide) (XS.istore X174.here hx rfl (hb hby at_653) rfl (l' := #[sI p0, sI p1, sI p2, sI p3, sJ p4, uS, sI p5, sJ y0, uS, sJ y1, uS, sJ y0, uS, sJ y1, uS, sJ y4, uS, sJ y5, uS, sI (1 : Int32), sI ii, sR a105, sR a114, sR a117, sR a120, sR a123, sR a105, sR a105, sR a105, sR a105, sI (0 : Int32), sI (1 : Int32), sI (0 : Int32), sI (1 : Int32), sJ v167, uS, sJ v168, uS, sJ v169, uS, sJ v170, uS, sJ wr, uS, sJ wi, uS, sD ro0_0z, uS, sD ro0_1z, uS, sD ro0_0z, uS, sD ro0_1z, uS, sI (1 : Int32)]) rfl (XS.goto X174.here hx rfl (pc0 := 655) (pc' := 802) rfl (hb hby at_655) (by decide) (by decide) (XS.iload X174.here hx rfl (hb hby at_802) rfl k))))) ?_
    show OwnGo _ _ _ _ (T174.setTop (mkF m 804 #[sI p0, sI p1, sI p2, sI p3, sJ p4, uS, sI p5, sJ y0, uS, sJ y1, uS, sJ y0, uS, sJ y1, uS, sJ y4, uS, sJ y5, uS, sI (1 : Int32), sI ii, sR a105, sR a114, sR a117, sR a120, sR a123, sR a105, sR a105, sR a105, sR a105, sI (0 : Int32), sI (1 : Int32), sI (0 : Int32), sI (1 : Int32), sJ v167, uS, sJ v168, uS, sJ v169, uS, sJ v170, uS, sJ wr, uS, sJ wi, uS, sD ro0_0z, uS, sD ro0_1z, uS, sD ro0_0z, uS, sD ro0_1z, uS, sI (1 : Int32)] [(.int (1 : Int32))]))
    exact own_retZ X174 hx hk hrt (hb hby at_804) ⟨rfl, M174⟩ (by decide) (by decide)
  · skip
    rcases cii with rfl | rfl
    · skip
      show OwnGo _ _ _ _ (T125.setTop (mkF m 212 #[sI p0, sI p1, sI p2, sI p3, sJ p4, uS, sI p5, sJ y0, uS, sJ y1, uS, sJ y2, uS, sJ y3, uS, sJ y4, uS, sJ y5, uS, sI (2 : Int32), sI (0 : Int32), sR a105, sR a114, sR a117, sR a120, sR a123, sR a105, sR a105, sR a105, sR a105, sI (0 : Int32), sI (1 : Int32), sI (2 : Int32), sI (3 : Int32), uU, uU, uU, uU, uU, uU, uU, uU, uU, uU, uU, uU, uU, uU, uU, uU, uU, uU, uU, uU, uU] [(.int (1 : Int32)), (.int (2 : Int32))]))
      refine OwnGo.pre (fun t k => XS.icmpYes X125.here hx rfl (pc0 := 212) (pc' := 232) rfl (hb hby at_212) rfl (by decide) (by decide) (by decide) (XS.iload X125.here hx rfl (hb hby at_232) rfl (XS.iconst X125.here hx rfl (hb hby at_234) (XS.icmpNo X125.here hx rfl (hb hby at_235) rfl (by decide) (XS.aload X125.here hx rfl (hb hby at_238) rfl rfl (XS.astore X125.here hx rfl (hb hby at_240) rfl rfl (l' := #[sI p0, sI p1, sI p2, sI p3, sJ p4, uS, sI p5, sJ y0, uS, sJ y1, uS, sJ y2, uS, sJ y3, uS, sJ y4, uS, sJ y5, uS, sI (2 : Int32), sI (0 : Int32), sR a105, sR a114, sR a117, sR a120, sR a123, sR a114, sR a105, sR a105, sR a105, sI (0 : Int32), sI (1 : Int32), sI (2 : Int32), sI (3 : Int32), uU, uU, uU, uU, uU, uU, uU, uU, uU, uU, uU, uU, uU, uU, uU, uU, uU, uU, uU, uU, uU]) rfl (XS.aload X125.here hx rfl (hb hby at_242) rfl rfl (XS.astore X125.here hx rfl (hb hby at_244) rfl rfl (l' := #[sI p0, sI p1, sI p2, sI p3, sJ p4, uS, sI p5, sJ y0, uS, sJ y1, uS, sJ y2, uS, sJ y3, uS, sJ y4, uS, sJ y5, uS, sI (2 : Int32), sI (0 : Int32), sR a105, sR a114, sR a117, sR a120, sR a123, sR a114, sR a117, sR a105, sR a105, sI (0 : Int32), sI (1 : Int32), sI (2 : Int32), sI (3 : Int32), uU, uU, uU, uU, uU, uU, uU, uU, uU, uU, uU, uU, uU, uU, uU, uU, uU, uU, uU, uU, uU]) rfl k)))))))) ?_
      show OwnGo _ _ _ _ (T125.setTop (mkF m 246 #[sI p0, sI p1, sI p2, sI p3, sJ p4, uS, sI p5, sJ y0, uS, sJ y1, uS, sJ y2, uS, sJ y3, uS, sJ y4, uS, sJ y5, uS, sI (2 : Int32), sI (0 : Int32), sR a105, sR a114, sR a117, sR a120, sR a123, sR a114, sR a117, sR a105, sR a105, sI (0 : Int32), sI (1 : Int32), sI (2 : Int32), sI (3 : Int32), uU, uU, uU, uU, uU, uU, uU, uU, uU, uU, uU, uU, uU, uU, uU, uU, uU, uU, uU, uU, uU] []))
      refine OwnGo.pre (fun t k => XS.aload X125.here hx rfl (hb hby at_246) rfl rfl (XS.astore X125.here hx rfl (hb hby at_248) rfl rfl (l' := #[sI p0, sI p1, sI p2, sI p3, sJ p4, uS, sI p5, sJ y0, uS, sJ y1, uS, sJ y2, uS, sJ y3, uS, sJ y4, uS, sJ y5, uS, sI (2 : Int32), sI (0 : Int32), sR a105, sR a114, sR a117, sR a120, sR a123, sR a114, sR a117, sR a120, sR a105, sI (0 : Int32), sI (1 : Int32), sI (2 : Int32), sI (3 : Int32), uU, uU, uU, uU, uU, uU, uU, uU, uU, uU, uU, uU, uU, uU, uU, uU, uU, uU, uU, uU, uU]) rfl (XS.aload X125.here hx rfl (hb hby at_250) rfl rfl (XS.astore X125.here hx rfl (hb hby at_252) rfl rfl (l' := #[sI p0, sI p1, sI p2, sI p3, sJ p4, uS, sI p5, sJ y0, uS, sJ y1, uS, sJ y2, uS, sJ y3, uS, sJ y4, uS, sJ y5, uS, sI (2 : Int32), sI (0 : Int32), sR a105, sR a114, sR a117, sR a120, sR a123, sR a114, sR a117, sR a120, sR a123, sI (0 : Int32), sI (1 : Int32), sI (2 : Int32), sI (3 : Int32), uU, uU, uU, uU, uU, uU, uU, uU, uU, uU, uU, uU, uU, uU, uU, uU, uU, uU, uU, uU, uU]) rfl (XS.iload X125.here hx rfl (hb hby at_254) rfl (XS.istore X125.here hx rfl (hb hby at_256) rfl (l' := #[sI p0, sI p1, sI p2, sI p3, sJ p4, uS, sI p5, sJ y0, uS, sJ y1, uS, sJ y2, uS, sJ y3, uS, sJ y4, uS, sJ y5, uS, sI (2 : Int32), sI (0 : Int32), sR a105, sR a114, sR a117, sR a120, sR a123, sR a114, sR a117, sR a120, sR a123, sI (0 : Int32), sI (1 : Int32), sI (2 : Int32), sI (3 : Int32), uU, uU, uU, uU, uU, uU, uU, uU, uU, uU, uU, uU, uU, uU, uU, uU, uU, uU, uU, uU, uU]) rfl (XS.iload X125.here hx rfl (hb hby at_258) rfl (XS.istore X125.here hx rfl (hb hby at_260) rfl (l' := #[sI p0, sI p1, sI p2, sI p3, sJ p4, uS, sI p5, sJ y0, uS, sJ y1, uS, sJ y2, uS, sJ y3, uS, sJ y4, uS, sJ y5, uS, sI (2 : Int32), sI (0 : Int32), sR a105, sR a114, sR a117, sR a120, sR a123, sR a114, sR a117, sR a120, sR a123, sI (0 : Int32), sI (0 : Int32), sI (2 : Int32), sI (3 : Int32), uU, uU, uU, uU, uU, uU, uU, uU, uU, uU, uU, uU, uU, uU, uU, uU, uU, uU, uU, uU, uU]) rfl k)))))))) ?_
      show OwnGo _ _ _ _ (T125.setTop (mkF m 262 #[sI p0, sI p1, sI p2, sI p3, sJ p4, uS, sI p5, sJ y0, uS, sJ y1, uS, sJ y2, uS, sJ y3, uS, sJ y4, uS, sJ y5, uS, sI (2 : Int32), sI (0 : Int32), sR a105, sR a114, sR a117, sR a120, sR a123, sR a114, sR a117, sR a120, sR a123, sI (0 : Int32), sI (0 : Int32), sI (2 : Int32), sI (3 : Int32), uU, uU, uU, uU, uU, uU, uU, uU, uU, uU, uU, uU, uU, uU, uU, uU, uU, uU, uU, uU, uU] []))
      refine OwnGo.pre (fun t k => XS.iload X125.here hx rfl (hb hby at_262) rfl (XS.istore X125.here hx rfl (hb hby at_264) rfl (l' := #[sI p0, sI p1, sI p2, sI p3, sJ p4, uS, sI p5, sJ y0, uS, sJ y1, uS, sJ y2, uS, sJ y3, uS, sJ y4, uS, sJ y5, uS, sI (2 : Int32), sI (0 : Int32), sR a105, sR a114, sR a117, sR a120, sR a123, sR a114, sR a117, sR a120, sR a123, sI (0 : Int32), sI (0 : Int32), sI (0 : Int32), sI (3 : Int32), uU, uU, uU, uU, uU, uU, uU, uU, uU, uU, uU, uU, uU, uU, uU, uU, uU, uU, uU, uU, uU]) rfl (XS.iload X125.here hx rfl (hb hby at_266) rfl (XS.istore X125.here hx rfl (hb hby at_268) rfl (l' := #[sI p0, sI p1, sI p2, sI p3, sJ p4, uS, sI p5, sJ y0, uS, sJ y1, uS, sJ y2, uS, sJ y3, uS, sJ y4, uS, sJ y5, uS, sI (2 : Int32), sI (0 : Int32), sR a105, sR a114, sR a117, sR a120, sR a123, sR a114, sR a117, sR a120, sR a123, sI (0 : Int32), sI (0 : Int32), sI (0 : Int32), sI (0 : Int32), uU, uU, uU, uU, uU, uU, uU, uU, uU, uU, uU, uU, uU, uU, uU, uU, uU, uU, uU, uU, uU]) rfl (XS.goto X125.here hx rfl (pc0 := 270) (pc' := 293) rfl (hb hby at_270) (by decide) (by decide) (XS.aload X125.here hx rfl (hb hby at_293) rfl rfl (XS.iload X125.here hx rfl (hb hby at_295) rfl (XT.lload X125.here hx rfl (hb hby at_297) rfl k)))))))) ?_
      show OwnGo _ _ _ _ (T125.setTop (mkF m 299 #[sI p0, sI p1, sI p2, sI p3, sJ p4, uS, sI p5, sJ y0, uS, sJ y1, uS, sJ y2, uS, sJ y3, uS, sJ y4, uS, sJ y5, uS, sI (2 : Int32), sI (0 : Int32), sR a105, sR a114, sR a117, sR a120, sR a123, sR a114, sR a117, sR a120, sR a123, sI (0 : Int32), sI (0 : Int32), sI (0 : Int32), sI (0 : Int32), uU, uU, uU, uU, uU, uU, uU, uU, uU, uU, uU, uU, uU, uU, uU, uU, uU, uU, uU, uU, uU] [(.long y0), (.int (0 : Int32)), (.ref a114)]))
      obtain ⟨d180, hd180⟩ : ∃ v, FP.l2d y0 = v := ⟨_, rfl⟩
      have D180 : OwnDS 0 jy0 d180 := by rw [← hd180]; exact own_l2db Fy0 by0 (by decide)
      refine OwnGo.pre (fun t k => XS.l2dS X125.here hx rfl (hb hby at_299) rfl hd180 k) ?_
      show OwnGo _ _ _ _ (T125.setTop (mkF m 300 #[sI p0, sI p1, sI p2, sI p3, sJ p4, uS, sI p5, sJ y0, uS, sJ y1, uS, sJ y2, uS, sJ y3, uS, sJ y4, uS, sJ y5, uS, sI (2 : Int32), sI (0 : Int32), sR a105, sR a114, sR a117, sR a120, sR a123, sR a114, sR a117, sR a120, sR a123, sI (0 : Int32), sI (0 : Int32), sI (0 : Int32), sI (0 : Int32), uU, uU, uU, uU, uU, uU, uU, uU, uU, uU, uU, uU, uU, uU, uU, uU, uU, uU, uU, uU, uU] [(.double d180), (.int (0 : Int32)), (.ref a114)]))
      obtain ⟨T181, h181, X181, e181, W181, A181, st181⟩ := own_daS X125 hx hZ e125 A125_a114 (by decide) (i := 0) (by decide) (by show 0 < 2; decide) (g := (mkF m 300 #[sI p0, sI p1, sI p2, sI p3, sJ p4, uS, sI p5, sJ y0, uS, sJ y1, uS, sJ y2, uS, sJ y3, uS, sJ y4, uS, sJ y5, uS, sI (2 : Int32), sI (0 : Int32), sR a105, sR a114, sR a117, sR a120, sR a123, sR a114, sR a117, sR a120, sR a123, sI (0 : Int32), sI (0 : Int32), sI (0 : Int32), sI (0 : Int32), uU, uU, uU, uU, uU, uU, uU, uU, uU, uU, uU, uU, uU, uU, uU, uU, uU, uU, uU, uU, uU] [(.double d180), (.int (0 : Int32)), (.ref a114)])) rfl rfl (hb hby at_300)
      have A181n : OwnDA Z h181 a114 [d180, (4602678819172646912 : UInt64)] := A181
      have A181_a105 := A125_a105.ot W181 nea105_114
      have A181_a117 := A125_a117.ot W181 nea114_117.symm
      have A181_a120 := A125_a120.ot W181 nea114_120.symm
      have A181_a123 := A125n.ot W181 nea114_123.symm
      have N181 := Fr.snoc X181 N125 G114
      have Z181 : n0 ≤ h181.size := by rw [W181.size]; exact Z125
      refine OwnGo.pre (fun t k => st181 t k) ?_
      show OwnGo _ _ _ _ (T181.setTop (mkF m 301 #[sI p0, sI p1, sI p2, sI p3, sJ p4, uS, sI p5, sJ y0, uS, sJ y1, uS, sJ y2, uS, sJ y3, uS, sJ y4, uS, sJ y5, uS, sI (2 : Int32), sI (0 : Int32), sR a105, sR a114, sR a117, sR a120, sR a123, sR a114, sR a117, sR a120, sR a123, sI (0 : Int32), sI (0 : Int32), sI (0 : Int32), sI (0 : Int32), uU, uU, uU, uU, uU, uU, uU, uU, uU, uU, uU, uU, uU, uU, uU, uU, uU, uU, uU, uU, uU] []))
      obtain ⟨d182, hd182⟩ : ∃ v, FP.l2d y1 = v := ⟨_, rfl⟩
      have D182 : OwnDS 0 jy1 d182 := by rw [← hd182]; exact own_l2db Fy1 by1 (by decide)
      refine OwnGo.pre (fun t k => XS.aload X181.here hx rfl (hb hby at_301) rfl rfl (XS.iload X181.here hx rfl (hb hby at_303) rfl (XT.lload X181.here hx rfl (hb hby at_305) rfl (XS.l2dS X181.here hx rfl (hb hby at_307) rfl hd182 k)))) ?_
      show OwnGo _ _ _ _ (T181.setTop (mkF m 308 #[sI p0, sI p1, sI p2, sI p3, sJ p4, uS, sI p5, sJ y0, uS, sJ y1, uS, sJ y2, uS, sJ y3, uS, sJ y4, uS, sJ y5, uS, sI (2 : Int32), sI (0 : Int32), sR a105, sR a114, sR a117, sR a120, sR a123, sR a114, sR a117, sR a120, sR a123, sI (0 : Int32), sI (0 : Int32), sI (0 : Int32), sI (0 : Int32), uU, uU, uU, uU, uU, uU, uU, uU, uU, uU, uU, uU, uU, uU, uU, uU, uU, uU, uU, uU, uU] [(.double d182), (.int (0 : Int32)), (.ref a117)]))
      obtain ⟨T183, h183, X183, e183, W183, A183, st183⟩ := own_daS X181 hx hZ e181 A181_a117 (by decide) (i := 0) (by decide) (by show 0 < 2; decide) (g := (mkF m 308 #[sI p0, sI p1, sI p2, sI p3, sJ p4, uS, sI p5, sJ y0, uS, sJ y1, uS, sJ y2, uS, sJ y3, uS, sJ y4, uS, sJ y5, uS, sI (2 : Int32), sI (0 : Int32), sR a105, sR a114, sR a117, sR a120, sR a123, sR a114, sR a117, sR a120, sR a123, sI (0 : Int32), sI (0 : Int32), sI (0 : Int32), sI (0 : Int32), uU, uU, uU, uU, uU, uU, uU, uU, uU, uU, uU, uU, uU, uU, uU, uU, uU, uU, uU, uU, uU] [(.double d182), (.int (0 : Int32)), (.ref a117)])) rfl rfl (hb hby at_308)
      have A183n : OwnDA Z h183 a117 [d182, (4602678819172646912 : UInt64)] := A183
      have A183_a105 := A181_a105.ot W183 nea105_117
      have A183_a114 := A181n.ot W183 nea114_117
      have A183_a120 := A181_a120.ot W183 nea117_120.symm
      have A183_a123 := A181_a123.ot W183 nea117_123.symm
      have N183 := Fr.snoc X183 N181 G117
      have Z183 : n0 ≤ h183.size := by rw [W183.size]; exact Z181
      refine OwnGo.pre (fun t k => st183 t k) ?_
      show OwnGo _ _ _ _ (T183.setTop (mkF m 309 #[sI p0, sI p1, sI p2, sI p3, sJ p4, uS, sI p5, sJ y0, uS, sJ y1, uS, sJ y2, uS, sJ y3, uS, sJ y4, uS, sJ y5, uS, sI (2 : Int32), sI (0 : Int32), sR a105, sR a114, sR a117, sR a120, sR a123, sR a114, sR a117, sR a120, sR a123, sI (0 : Int32), sI (0 : Int32), sI (0 : Int32), sI (0 : Int32), uU, uU, uU, uU, uU, uU, uU, uU, uU, uU, uU, uU, uU, uU, uU, uU, uU, uU, uU, uU, uU] []))
      obtain ⟨d184, hd184⟩ : ∃ v, FP.l2d y2 = v := ⟨_, rfl⟩
      have D184 : OwnDS 0 jy2 d184 := by rw [← hd184]; exact own_l2db Fy2 by2 (by decide)
      refine OwnGo.pre (fun t k => XS.aload X183.here hx rfl (hb hby at_309) rfl rfl (XS.iload X183.here hx rfl (hb hby at_311) rfl (XT.lload X183.here hx rfl (hb hby at_313) rfl (XS.l2dS X183.here hx rfl (hb hby at_315) rfl hd184 k)))) ?_
      show OwnGo _ _ _ _ (T183.setTop (mkF m 316 #[sI p0, sI p1, sI p2, sI p3, sJ p4, uS, sI p5, sJ y0, uS, sJ y1, uS, sJ y2, uS, sJ y3, uS, sJ y4, uS, sJ y5, uS, sI (2 : Int32), sI (0 : Int32), sR a105, sR a114, sR a117, sR a120, sR a123, sR a114, sR a117, sR a120, sR a123, sI (0 : Int32), sI (0 : Int32), sI (0 : Int32), sI (0 : Int32), uU, uU, uU, uU, uU, uU, uU, uU, uU, uU, uU, uU, uU, uU, uU, uU, uU, uU, uU, uU, uU] [(.double d184), (.int (0 : Int32)), (.ref a120)]))
      obtain ⟨T185, h185, X185, e185, W185, A185, st185⟩ := own_daS X183 hx hZ e183 A183_a120 (by decide) (i := 0) (by decide) (by show 0 < 2; decide) (g := (mkF m 316 #[sI p0, sI p1, sI p2, sI p3, sJ p4, uS, sI p5, sJ y0, uS, sJ y1, uS, sJ y2, uS, sJ y3, uS, sJ y4, uS, sJ y5, uS, sI (2 : Int32), sI (0 : Int32), sR a105, sR a114, sR a117, sR a120, sR a123, sR a114, sR a117, sR a120, sR a123, sI (0 : Int32), sI (0 : Int32), sI (0 : Int32), sI (0 : Int32), uU, uU, uU, uU, uU, uU, uU, uU, uU, uU, uU, uU, uU, uU, uU, uU, uU, uU, uU, uU, uU] [(.double d184), (.int (0 : Int32)), (.ref a120)])) rfl rfl (hb hby at_316)
      have A185n : OwnDA Z h185 a120 [d184, (4602678819172646912 : UInt64)] := A185
      have A185_a105 := A183_a105.ot W185 nea105_120
      have A185_a114 := A183_a114.ot W185 nea114_120
      have A185_a117 := A183n.ot W185 nea117_120
      have A185_a123 := A183_a123.ot W185 nea120_123.symm
      have N185 := Fr.snoc X185 N183 G120
      have Z185 : n0 ≤ h185.size := by rw [W185.size]; exact Z183
      refine OwnGo.pre (fun t k => st185 t k) ?_
      show OwnGo _ _ _ _ (T185.setTop (mkF m 317 #[sI p0, sI p1, sI p2, sI p3, sJ p4, uS, sI p5, sJ y0, uS, sJ y1, uS, sJ y2, uS, sJ y3, uS, sJ y4, uS, sJ y5, uS, sI (2 : Int32), sI (0 : Int32), sR a105, sR a114, sR a117, sR a120, sR a123, sR a114, sR a117, sR a120, sR a123, sI (0 : Int32), sI (0 : Int32), sI (0 : Int32), sI (0 : Int32), uU, uU, uU, uU, uU, uU, uU, uU, uU, uU, uU, uU, uU, uU, uU, uU, uU, uU, uU, uU, uU] []))
      obtain ⟨d186, hd186⟩ : ∃ v, FP.l2d y3 = v := ⟨_, rfl⟩
      have D186 : OwnDS 0 jy3 d186 := by rw [← hd186]; exact own_l2db Fy3 by3 (by decide)
      refine OwnGo.pre (fun t k => XS.aload X185.here hx rfl (hb hby at_317) rfl rfl (XS.iload X185.here hx rfl (hb hby at_319) rfl (XT.lload X185.here hx rfl (hb hby at_321) rfl (XS.l2dS X185.here hx rfl (hb hby at_323) rfl hd186 k)))) ?_
      show OwnGo _ _ _ _ (T185.setTop (mkF m 324 #[sI p0, sI p1, sI p2, sI p3, sJ p4, uS, sI p5, sJ y0, uS, sJ y1, uS, sJ y2, uS, sJ y3, uS, sJ y4, uS, sJ y5, uS, sI (2 : Int32), sI (0 : Int32), sR a105, sR a114, sR a117, sR a120, sR a123, sR a114, sR a117, sR a120, sR a123, sI (0 : Int32), sI (0 : Int32), sI (0 : Int32), sI (0 : Int32), uU, uU, uU, uU, uU, uU, uU, uU, uU, uU, uU, uU, uU, uU, uU, uU, uU, uU, uU, uU, uU] [(.double d186), (.int (0 : Int32)), (.ref a123)]))
      obtain ⟨T187, h187, X187, e187, W187, A187, st187⟩ := own_daS X185 hx hZ e185 A185_a123 (by decide) (i := 0) (by decide) (by show 0 < 2; decide) (g := (mkF m 324 #[sI p0, sI p1, sI p2, sI p3, sJ p4, uS, sI p5, sJ y0, uS, sJ y1, uS, sJ y2, uS, sJ y3, uS, sJ y4, uS, sJ y5, uS, sI (2 : Int32), sI (0 : Int32), sR a105, sR a114, sR a117, sR a120, sR a123, sR a114, sR a117, sR a120, sR a123, sI (0 : Int32), sI (0 : Int32), sI (0 : Int32), sI (0 : Int32), uU, uU, uU, uU, uU, uU, uU, uU, uU, uU, uU, uU, uU, uU, uU, uU, uU, uU, uU, uU, uU] [(.double d186), (.int (0 : Int32)), (.ref a123)])) rfl rfl (hb hby at_324)
      have A187n : OwnDA Z h187 a123 [d186, (4602678819172646912 : UInt64)] := A187
      have A187_a105 := A185_a105.ot W187 nea105_123
      have A187_a114 := A185_a114.ot W187 nea114_123
      have A187_a117 := A185_a117.ot W187 nea117_123
      have A187_a120 := A185n.ot W187 nea120_123
      have N187 := Fr.snoc X187 N185 G123
      have Z187 : n0 ≤ h187.size := by rw [W187.size]; exact Z185
      refine OwnGo.pre (fun t k => st187 t k) ?_
      show OwnGo _ _ _ _ (T187.setTop (mkF m 325 #[sI p0, sI p1, sI p2, sI p3, sJ p4, uS, sI p5, sJ y0, uS, sJ y1, uS, sJ y2, uS, sJ y3, uS, sJ y4, uS, sJ y5, uS, sI (2 : Int32), sI (0 : Int32), sR a105, sR a114, sR a117, sR a120, sR a123, sR a114, sR a117, sR a120, sR a123, sI (0 : Int32), sI (0 : Int32), sI (0 : Int32), sI (0 : Int32), uU, uU, uU, uU, uU, uU, uU, uU, uU, uU, uU, uU, uU, uU, uU, uU, uU, uU, uU, uU, uU] []))
      refine OwnGo.pre (fun t k => XS.aload X187.here hx rfl (hb hby at_325) rfl rfl (XS.iload X187.here hx rfl (hb hby at_327) rfl (XS.aload X187.here hx rfl (hb hby at_329) rfl rfl (XS.iload X187.here hx rfl (hb hby at_331) rfl (XS.aload X187.here hx rfl (hb hby at_333) rfl rfl (XS.iload X187.here hx rfl (hb hby at_335) rfl (XS.aload X187.here hx rfl (hb hby at_337) rfl rfl (XS.iload X187.here hx rfl (hb hby at_339) rfl k)))))))) ?_
      show OwnGo _ _ _ _ (T187.setTop (mkF m 341 #[sI p0, sI p1, sI p2, sI p3, sJ p4, uS, sI p5, sJ y0, uS, sJ y1, uS, sJ y2, uS, sJ y3, uS, sJ y4, uS, sJ y5, uS, sI (2 : Int32), sI (0 : Int32), sR a105, sR a114, sR a117, sR a120, sR a123, sR a114, sR a117, sR a120, sR a123, sI (0 : Int32), sI (0 : Int32), sI (0 : Int32), sI (0 : Int32), uU, uU, uU, uU, uU, uU, uU, uU, uU, uU, uU, uU, uU, uU, uU, uU, uU, uU, uU, uU, uU] [(.int (0 : Int32)), (.ref a123), (.int (0 : Int32)), (.ref a120), (.int (0 : Int32)), (.ref a117), (.int (0 : Int32)), (.ref a114)]))
      obtain ⟨d188, hd188⟩ : ∃ v, FP.l2d y4 = v := ⟨_, rfl⟩
      have D188 : OwnDS 0 jy4 d188 := by rw [← hd188]; exact own_l2db Fy4 by4 (by decide)
      obtain ⟨d189, hd189⟩ : ∃ v, FP.l2d y5 = v := ⟨_, rfl⟩
      have D189 : OwnDS 0 jy5 d189 := by rw [← hd189]; exact own_l2db Fy5 by5 (by decide)
      refine OwnGo.pre (fun t k => XT.lload X187.here hx rfl (hb hby at_341) rfl (XS.l2dS X187.here hx rfl (hb hby at_343) rfl hd188 (XT.lload X187.here hx rfl (hb hby at_344) rfl (XS.l2dS X187.here hx rfl (hb hby at_346) rfl hd189 k)))) ?_
      show OwnGo _ _ _ _ (T187.setTop (mkF m 347 #[sI p0, sI p1, sI p2, sI p3, sJ p4, uS, sI p5, sJ y0, uS, sJ y1, uS, sJ y2, uS, sJ y3, uS, sJ y4, uS, sJ y5, uS, sI (2 : Int32), sI (0 : Int32), sR a105, sR a114, sR a117, sR a120, sR a123, sR a114, sR a117, sR a120, sR a123, sI (0 : Int32), sI (0 : Int32), sI (0 : Int32), sI (0 : Int32), uU, uU, uU, uU, uU, uU, uU, uU, uU, uU, uU, uU, uU, uU, uU, uU, uU, uU, uU, uU, uU] [(.double d189), (.double d188), (.int (0 : Int32)), (.ref a123), (.int (0 : Int32)), (.ref a120), (.int (0 : Int32)), (.ref a117), (.int (0 : Int32)), (.ref a114)]))
      obtain ⟨_, _, ⟨T190, L190, k190, n190⟩, -, X190, ⟨Lc190, hQ190, l190, y190, z190⟩, st190⟩ := Jvm.LawKit.callS X187 hx (y := (⟨"com/example/isochron/isochron/dsp/Fourier", "join", "([DI[DI[DI[DIDD)V"⟩ : MethodName)) hown (mvT hZ (hw _ (List.mem_of_getElem? (i := 6) rfl))) (mvT hZ (hw _ (List.mem_of_getElem? (i := 7) rfl))) (mvT hZ (hw _ (List.mem_of_getElem? (i := 8) rfl))) (mvT hZ (hw _ (List.mem_of_getElem? (i := 9) rfl))) (by decide) (backOf (W := 0) (rm := ({ frames := 0, cells := 0, slots := 0, locals := 0 } : Room)) (Q := Q_rmK2_0 Z a114 a117 a120 a123 d180 (4602678819172646912 : UInt64) d182 (4602678819172646912 : UInt64) d184 (4602678819172646912 : UInt64) d186 (4602678819172646912 : UInt64) d188 d189 jy0 jy1 jy2 jy3 jy4 jy5 h187 n0) (rmK2_0 l Z a0 hw [] a114 a117 a120 a123 d180 (4602678819172646912 : UInt64) d182 (4602678819172646912 : UInt64) d184 (4602678819172646912 : UInt64) d186 (4602678819172646912 : UInt64) d188 d189 jy0 jy1 jy2 jy3 jy4 jy5 h187 n0 Z187 A187_a114 A187_a117 A187_a120 A187n nea114_117 nea114_120 nea114_123 nea117_120 nea117_123 nea120_123 G114 G117 G120 G123 D180 by0 D182 by1 D184 by2 D186 by3 D188 by4 D189 by5) hZ (hw _ (List.mem_of_getElem? (i := 9) rfl)) (hw _ (List.mem_of_getElem? (i := 8) rfl)) (by decide) (by decide)) (g := (mkF m 347 #[sI p0, sI p1, sI p2, sI p3, sJ p4, uS, sI p5, sJ y0, uS, sJ y1, uS, sJ y2, uS, sJ y3, uS, sJ y4, uS, sJ y5, uS, sI (2 : Int32), sI (0 : Int32), sR a105, sR a114, sR a117, sR a120, sR a123, sR a114, sR a117, sR a120, sR a123, sI (0 : Int32), sI (0 : Int32), sI (0 : Int32), sI (0 : Int32), uU, uU, uU, uU, uU, uU, uU, uU, uU, uU, uU, uU, uU, uU, uU, uU, uU, uU, uU, uU, uU] [(.double d189), (.double d188), (.int (0 : Int32)), (.ref a123), (.int (0 : Int32)), (.ref a120), (.int (0 : Int32)), (.ref a117), (.int (0 : Int32)), (.ref a114)])) rfl (by rw [hml]; rfl) (argsL := [(.ref a114), (.int (0 : Int32)), (.ref a117), (.int (0 : Int32)), (.ref a120), (.int (0 : Int32)), (.ref a123), (.int (0 : Int32)), (.double d188), (.double d189)]) (rest := []) (lenOf pd_rmK2_0 rfl) rfl (by show 2 * 0 + _ ≤ _; exact Nat.le_of_eq rfl) (hb hby at_347) (fun _ _ => ⟨rfl, e187, (by decide : 5 + 0 ≤ _), (by decide : 16 + 0 ≤ _)⟩)
      dsimp only [Pt.U, Pt.locs, Pt.cells, Pt.slots] at X190 l190 y190 z190 st190 hQ190
      replace l190 := l190.symm
      replace y190 := y190.symm
      replace z190 := z190.symm
      subst l190 y190 z190
      obtain ⟨ro0_0z, ro1_0z, ro2_0z, ro3_0z, rfl, Hro0_0z, Bjro0_0z, Hro1_0z, Bjro1_0z, Hro2_0z, Bjro2_0z, Hro3_0z, Bjro3_0z, AFo0z, AFo1z, AFo2z, AFo3z, KF190, N190, Z190⟩ := hQ190
      refine OwnGo.pre (fun t k => st190 t k) ?_
      show OwnGo _ _ _ _ (T190.setTop (mkF m 350 #[sI p0, sI p1, sI p2, sI p3, sJ p4, uS, sI p5, sJ y0, uS, sJ y1, uS, sJ y2, uS, sJ y3, uS, sJ y4, uS, sJ y5, uS, sI (2 : Int32), sI (0 : Int32), sR a105, sR a114, sR a117, sR a120, sR a123, sR a114, sR a117, sR a120, sR a123, sI (0 : Int32), sI (0 : Int32), sI (0 : Int32), sI (0 : Int32), uU, uU, uU, uU, uU, uU, uU, uU, uU, uU, uU, uU, uU, uU, uU, uU, uU, uU, uU, uU, uU] []))
      have M190 := Fr.app N187 N190
      have A190_a105 := A187_a105.kp KF190 (ninS nea105_114 (ninS nea105_117 (ninS nea105_120 (ninS nea105_123 nin0))))
      obtain ⟨jro0_0z, hjro0_0z⟩ : ∃ i : Int, i = ((jy0 + jy2) - (((jy0 - jy2) * jy5) + ((jy1 + jy3) * jy4))) := ⟨_, rfl⟩
      rw [← hjro0_0z] at Hro0_0z Bjro0_0z
      obtain ⟨jro1_0z, hjro1_0z⟩ : ∃ i : Int, i = ((jy1 - jy3) + (((jy0 - jy2) * jy4) - ((jy1 + jy3) * jy5))) := ⟨_, rfl⟩
      rw [← hjro1_0z] at Hro1_0z Bjro1_0z
      obtain ⟨jro2_0z, hjro2_0z⟩ : ∃ i : Int, i = ((jy0 + jy2) + (((jy0 - jy2) * jy5) + ((jy1 + jy3) * jy4))) := ⟨_, rfl⟩
      rw [← hjro2_0z] at Hro2_0z Bjro2_0z
      obtain ⟨jro3_0z, hjro3_0z⟩ : ∃ i : Int, i = ((((jy0 - jy2) * jy4) - ((jy1 + jy3) * jy5)) - (jy1 - jy3)) := ⟨_, rfl⟩
      rw [← hjro3_0z] at Hro3_0z Bjro3_0z
      obtain ⟨v191, hv191⟩ : ∃ v, y0 + y2 = v := ⟨_, rfl⟩
      obtain ⟨j191, hj191⟩ : ∃ i : Int, i = jy0 + jy2 := ⟨_, rfl⟩
      have B191 : -16777216 ≤ j191 ∧ j191 ≤ 16777216 := by rw [hj191]; exact own_bd_add by0 by2 (by decide)
      have F191 : v191.toInt = j191 := own_lf_add hv191 Fy0 Fy2 by0 by2 (by decide) hj191
      obtain ⟨v192, hv192⟩ : ∃ v, y1 - y3 = v := ⟨_, rfl⟩
      obtain ⟨j192, hj192⟩ : ∃ i : Int, i = jy1 - jy3 := ⟨_, rfl⟩
      have B192 : -16777216 ≤ j192 ∧ j192 ≤ 16777216 := by rw [hj192]; exact own_bd_sub by1 by3 (by decide)
      have F192 : v192.toInt = j192 := own_lf_sub hv192 Fy1 Fy3 by1 by3 (by decide) hj192
      refine OwnGo.pre (fun t k => XT.lload X190.here hx rfl (hb hby at_350) rfl (XT.lload X190.here hx rfl (hb hby at_352) rfl (own_ladd X190.here hx rfl (hb hby at_354) rfl hv191 (XT.lstore X190.here hx rfl (hb hby at_355) rfl (l' := #[sI p0, sI p1, sI p2, sI p3, sJ p4, uS, sI p5, sJ y0, uS, sJ y1, uS, sJ y2, uS, sJ y3, uS, sJ y4, uS, sJ y5, uS, sI (2 : Int32), sI (0 : Int32), sR a105, sR a114, sR a117, sR a120, sR a123, sR a114, sR a117, sR a120, sR a123, sI (0 : Int32), sI (0 : Int32), sI (0 : Int32), sI (0 : Int32), sJ v191, uS, uU, uU, uU, uU, uU, uU, uU, uU, uU, uU, uU, uU, uU, uU, uU, uU, uU, uU, uU]) rfl (XT.lload X190.here hx rfl (hb hby at_357) rfl (XT.lload X190.here hx rfl (hb hby at_359) rfl (own_lsub X190.here hx rfl (hb hby at_361) rfl hv192 (XT.lstore X190.here hx rfl (hb hby at_362) rfl (l' := #[sI p0, sI p1, sI p2, sI p3, sJ p4, uS, sI p5, sJ y0, uS, sJ y1, uS, sJ y2, uS, sJ y3, uS, sJ y4, uS, sJ y5, uS, sI (2 : Int32), sI (0 : Int32), sR a105, sR a114, sR a117, sR a120, sR a123, sR a114, sR a117, sR a120, sR a123, sI (0 : Int32), sI (0 : Int32), sI (0 : Int32), sI (0 : Int32), sJ v191, uS, sJ v192, uS, uU, uU, uU, uU, uU, uU, uU, uU, uU, uU, uU, uU, uU, uU, uU, uU, uU]) rfl k)))))))) ?_
      show OwnGo _ _ _ _ (T190.setTop (mkF m 364 #[sI p0, sI p1, sI p2, sI p3, sJ p4, uS, sI p5, sJ y0, uS, sJ y1, uS, sJ y2, uS, sJ y3, uS, sJ y4, uS, sJ y5, uS, sI (2 : Int32), sI (0 : Int32), sR a105, sR a114, sR a117, sR a120, sR a123, sR a114, sR a117, sR a120, sR a123, sI (0 : Int32), sI (0 : Int32), sI (0 : Int32), sI (0 : Int32), sJ v191, uS, sJ v192, uS, uU, uU, uU, uU, uU, uU, uU, uU, uU, uU, uU, uU, uU, uU, uU, uU, uU] []))
      obtain ⟨v193, hv193⟩ : ∃ v, y0 - y2 = v := ⟨_, rfl⟩
      obtain ⟨j193, hj193⟩ : ∃ i : Int, i = jy0 - jy2 := ⟨_, rfl⟩
      have B193 : -16777216 ≤ j193 ∧ j193 ≤ 16777216 := by rw [hj193]; exact own_bd_sub by0 by2 (by decide)
      have F193 : v193.toInt = j193 := own_lf_sub hv193 Fy0 Fy2 by0 by2 (by decide) hj193
      obtain ⟨v194, hv194⟩ : ∃ v, y1 + y3 = v := ⟨_, rfl⟩
      obtain ⟨j194, hj194⟩ : ∃ i : Int, i = jy1 + jy3 := ⟨_, rfl⟩
      have B194 : -16777216 ≤ j194 ∧ j194 ≤ 16777216 := by rw [hj194]; exact own_bd_add by1 by3 (by decide)
      have F194 : v194.toInt = j194 := own_lf_add hv194 Fy1 Fy3 by1 by3 (by decide) hj194
      refine OwnGo.pre (fun t k => XT.lload X190.here hx rfl (hb hby at_364) rfl (XT.lload X190.here hx rfl (hb hby at_366) rfl (own_lsub X190.here hx rfl (hb hby at_368) rfl hv193 (XT.lstore X190.here hx rfl (hb hby at_369) rfl (l' := #[sI p0, sI p1, sI p2, sI p3, sJ p4, uS, sI p5, sJ y0, uS, sJ y1, uS, sJ y2, uS, sJ y3, uS, sJ y4, uS, sJ y5, uS, sI (2 : Int32), sI (0 : Int32), sR a105, sR a114, sR a117, sR a120, sR a123, sR a114, sR a117, sR a120, sR a123, sI (0 : Int32), sI (0 : Int32), sI (0 : Int32), sI (0 : Int32), sJ v191, uS, sJ v192, uS, sJ v193, uS, uU, uU, uU, uU, uU, uU, uU, uU, uU, uU, uU, uU, uU, uU, uU]) rfl (XT.lload X190.here hx rfl (hb hby at_371) rfl (XT.lload X190.here hx rfl (hb hby at_373) rfl (own_ladd X190.here hx rfl (hb hby at_375) rfl hv194 (XT.lstore X190.here hx rfl (hb hby at_376) rfl (l' := #[sI p0, sI p1, sI p2, sI p3, sJ p4, uS, sI p5, sJ y0, uS, sJ y1, uS, sJ y2, uS, sJ y3, uS, sJ y4, uS, sJ y5, uS, sI (2 : Int32), sI (0 : Int32), sR a105, sR a114, sR a117, sR a120, sR a123, sR a114, sR a117, sR a120, sR a123, sI (0 : Int32), sI (0 : Int32), sI (0 : Int32), sI (0 : Int32), sJ v191, uS, sJ v192, uS, sJ v193, uS, sJ v194, uS, uU, uU, uU, uU, uU, uU, uU, uU, uU, uU, uU, uU, uU]) rfl k)))))))) ?_
      show OwnGo _ _ _ _ (T190.setTop (mkF m 378 #[sI p0, sI p1, sI p2, sI p3, sJ p4, uS, sI p5, sJ y0, uS, sJ y1, uS, sJ y2, uS, sJ y3, uS, sJ y4, uS, sJ y5, uS, sI (2 : Int32), sI (0 : Int32), sR a105, sR a114, sR a117, sR a120, sR a123, sR a114, sR a117, sR a120, sR a123, sI (0 : Int32), sI (0 : Int32), sI (0 : Int32), sI (0 : Int32), sJ v191, uS, sJ v192, uS, sJ v193, uS, sJ v194, uS, uU, uU, uU, uU, uU, uU, uU, uU, uU, uU, uU, uU, uU] []))
      refine OwnGo.pre (fun t k => XT.lload X190.here hx rfl (hb hby at_378) rfl (XT.lload X190.here hx rfl (hb hby at_380) rfl (XT.lload X190.here hx rfl (hb hby at_382) rfl (XT.lload X190.here hx rfl (hb hby at_384) rfl k)))) ?_
      show OwnGo _ _ _ _ (T190.setTop (mkF m 386 #[sI p0, sI p1, sI p2, sI p3, sJ p4, uS, sI p5, sJ y0, uS, sJ y1, uS, sJ y2, uS, sJ y3, uS, sJ y4, uS, sJ y5, uS, sI (2 : Int32), sI (0 : Int32), sR a105, sR a114, sR a117, sR a120, sR a123, sR a114, sR a117, sR a120, sR a123, sI (0 : Int32), sI (0 : Int32), sI (0 : Int32), sI (0 : Int32), sJ v191, uS, sJ v192, uS, sJ v193, uS, sJ v194, uS, uU, uU, uU, uU, uU, uU, uU, uU, uU, uU, uU, uU, uU] [(.long y5), (.long y4), (.long v194), (.long v193)]))
      obtain ⟨_, _, ⟨T195, L195, k195, n195⟩, -, X195, ⟨Lc195, hQ195, l195, y195, z195⟩, st195⟩ := Jvm.LawKit.callS X190 hx (y := (⟨"com/example/isochron/isochron/dsp/FourierJoinPinLaw", "mulRe", "(JJJJ)J"⟩ : MethodName)) hown (mvT hZ (hw _ (List.mem_of_getElem? (i := 10) rfl))) (mvT hZ (hw _ (List.mem_of_getElem? (i := 11) rfl))) (mvT hZ (hw _ (List.mem_of_getElem? (i := 2) rfl))) (mvT hZ (hw _ (List.mem_of_getElem? (i := 12) rfl))) (by decide) (backOf (W := 0) (rm := ({ frames := 0, cells := 0, slots := 0, locals := 0 } : Room)) (Q := Q_rmRe Z v193 v194 y4 y5 j193 j194 jy4 jy5 T190.heap n0) (rmRe l Z a0 hw [] v193 v194 y4 y5 j193 j194 jy4 jy5 T190.heap n0 Z190 F193 (own_bd_le B193 (by decide)) F194 (own_bd_le B194 (by decide)) Fy4 (own_bd_le by4 (by decide)) Fy5 (own_bd_le by5 (by decide))) hZ (hw _ (List.mem_of_getElem? (i := 12) rfl)) (hw _ (List.mem_of_getElem? (i := 2) rfl)) (by decide) (by decide)) (g := (mkF m 386 #[sI p0, sI p1, sI p2, sI p3, sJ p4, uS, sI p5, sJ y0, uS, sJ y1, uS, sJ y2, uS, sJ y3, uS, sJ y4, uS, sJ y5, uS, sI (2 : Int32), sI (0 : Int32), sR a105, sR a114, sR a117, sR a120, sR a123, sR a114, sR a117, sR a120, sR a123, sI (0 : Int32), sI (0 : Int32), sI (0 : Int32), sI (0 : Int32), sJ v191, uS, sJ v192, uS, sJ v193, uS, sJ v194, uS, uU, uU, uU, uU, uU, uU, uU, uU, uU, uU, uU, uU, uU] [(.long y5), (.long y4), (.long v194), (.long v193)])) rfl (by rw [hml]; rfl) (argsL := [(.long v193), (.long v194), (.long y4), (.long y5)]) (rest := []) (lenOf pd_rmRe rfl) rfl (by show 2 * 0 + _ ≤ _; exact Nat.le_of_eq rfl) (hb hby at_386) (fun _ _ => ⟨rfl, rfl, (by decide : 5 + 0 ≤ _), (by decide : 16 + 0 ≤ _)⟩)
      dsimp only [Pt.U, Pt.locs, Pt.cells, Pt.slots] at X195 l195 y195 z195 st195 hQ195
      replace l195 := l195.symm
      replace y195 := y195.symm
      replace z195 := z195.symm
      subst l195 y195 z195
      obtain ⟨wr, rfl, Fwr, N195, e195⟩ := hQ195
      refine OwnGo.pre (fun t k => st195 t k) ?_
      show OwnGo _ _ _ _ (T195.setTop (mkF m 389 #[sI p0, sI p1, sI p2, sI p3, sJ p4, uS, sI p5, sJ y0, uS, sJ y1, uS, sJ y2, uS, sJ y3, uS, sJ y4, uS, sJ y5, uS, sI (2 : Int32), sI (0 : Int32), sR a105, sR a114, sR a117, sR a120, sR a123, sR a114, sR a117, sR a120, sR a123, sI (0 : Int32), sI (0 : Int32), sI (0 : Int32), sI (0 : Int32), sJ v191, uS, sJ v192, uS, sJ v193, uS, sJ v194, uS, uU, uU, uU, uU, uU, uU, uU, uU, uU, uU, uU, uU, uU] [(.long wr)]))
      have M195 := Fr.app M190 N195
      obtain ⟨jwr, hjwr⟩ : ∃ i : Int, i = j193 * jy4 - j194 * jy5 := ⟨_, rfl⟩
      rw [← hjwr] at Fwr
      have Bwr : -281474976710656 ≤ jwr ∧ jwr ≤ 281474976710656 := by rw [hjwr]; exact own_bd_sub (own_bd_mul B193 by4 rfl) (own_bd_mul B194 by5 rfl) (by decide)
      refine OwnGo.pre (fun t k => XT.lstore X195.here hx rfl (hb hby at_389) rfl (l' := #[sI p0, sI p1, sI p2, sI p3, sJ p4, uS, sI p5, sJ y0, uS, sJ y1, uS, sJ y2, uS, sJ y3, uS, sJ y4, uS, sJ y5, uS, sI (2 : Int32), sI (0 : Int32), sR a105, sR a114, sR a117, sR a120, sR a123, sR a114, sR a117, sR a120, sR a123, sI (0 : Int32), sI (0 : Int32), sI (0 : Int32), sI (0 : Int32), sJ v191, uS, sJ v192, uS, sJ v193, uS, sJ v194, uS, sJ wr, uS, uU, uU, uU, uU, uU, uU, uU, uU, uU, uU, uU]) rfl (XT.lload X195.here hx rfl (hb hby at_391) rfl (XT.lload X195.here hx rfl (hb hby at_393) rfl (XT.lload X195.here hx rfl (hb hby at_395) rfl (XT.lload X195.here hx rfl (hb hby at_397) rfl k))))) ?_
      show OwnGo _ _ _ _ (T195.setTop (mkF m 399 #[sI p0, sI p1, sI p2, sI p3, sJ p4, uS, sI p5, sJ y0, uS, sJ y1, uS, sJ y2, uS, sJ y3, uS, sJ y4, uS, sJ y5, uS, sI (2 : Int32), sI (0 : Int32), sR a105, sR a114, sR a117, sR a120, sR a123, sR a114, sR a117, sR a120, sR a123, sI (0 : Int32), sI (0 : Int32), sI (0 : Int32), sI (0 : Int32), sJ v191, uS, sJ v192, uS, sJ v193, uS, sJ v194, uS, sJ wr, uS, uU, uU, uU, uU, uU, uU, uU, uU, uU, uU, uU] [(.long y5), (.long y4), (.long v194), (.long v193)]))
      obtain ⟨_, _, ⟨T196, L196, k196, n196⟩, -, X196, ⟨Lc196, hQ196, l196, y196, z196⟩, st196⟩ := Jvm.LawKit.callS X195 hx (y := (⟨"com/example/isochron/isochron/dsp/FourierJoinPinLaw", "mulIm", "(JJJJ)J"⟩ : MethodName)) hown (mvT hZ (hw _ (List.mem_of_getElem? (i := 13) rfl))) (mvT hZ (hw _ (List.mem_of_getElem? (i := 14) rfl))) (mvT hZ (hw _ (List.mem_of_getElem? (i := 2) rfl))) (mvT hZ (hw _ (List.mem_of_getElem? (i := 15) rfl))) (by decide) (backOf (W := 0) (rm := ({ frames := 0, cells := 0, slots := 0, locals := 0 } : Room)) (Q := Q_rmIm Z v193 v194 y4 y5 j193 j194 jy4 jy5 T190.heap n0) (rmIm l Z a0 hw [] v193 v194 y4 y5 j193 j194 jy4 jy5 T190.heap n0 Z190 F193 (own_bd_le B193 (by decide)) F194 (own_bd_le B194 (by decide)) Fy4 (own_bd_le by4 (by decide)) Fy5 (own_bd_le by5 (by decide))) hZ (hw _ (List.mem_of_getElem? (i := 15) rfl)) (hw _ (List.mem_of_getElem? (i := 2) rfl)) (by decide) (by decide)) (g := (mkF m 399 #[sI p0, sI p1, sI p2, sI p3, sJ p4, uS, sI p5, sJ y0, uS, sJ y1, uS, sJ y2, uS, sJ y3, uS, sJ y4, uS, sJ y5, uS, sI (2 : Int32), sI (0 : Int32), sR a105, sR a114, sR a117, sR a120, sR a123, sR a114, sR a117, sR a120, sR a123, sI (0 : Int32), sI (0 : Int32), sI (0 : Int32), sI (0 : Int32), sJ v191, uS, sJ v192, uS, sJ v193, uS, sJ v194, uS, sJ wr, uS, uU, uU, uU, uU, uU, uU, uU, uU, uU, uU, uU] [(.long y5), (.long y4), (.long v194), (.long v193)])) rfl (by rw [hml]; rfl) (argsL := [(.long v193), (.long v194), (.long y4), (.long y5)]) (rest := []) (lenOf pd_rmIm rfl) rfl (by show 2 * 0 + _ ≤ _; exact Nat.le_of_eq rfl) (hb hby at_399) (fun _ _ => ⟨rfl, e195, (by decide : 5 + 0 ≤ _), (by decide : 16 + 0 ≤ _)⟩)
      dsimp only [Pt.U, Pt.locs, Pt.cells, Pt.slots] at X196 l196 y196 z196 st196 hQ196
      replace l196 := l196.symm
      replace y196 := y196.symm
      replace z196 := z196.symm
      subst l196 y196 z196
      obtain ⟨wi, rfl, Fwi, N196, e196⟩ := hQ196
      refine OwnGo.pre (fun t k => st196 t k) ?_
      show OwnGo _ _ _ _ (T196.setTop (mkF m 402 #[sI p0, sI p1, sI p2, sI p3, sJ p4, uS, sI p5, sJ y0, uS, sJ y1, uS, sJ y2, uS, sJ y3, uS, sJ y4, uS, sJ y5, uS, sI (2 : Int32), sI (0 : Int32), sR a105, sR a114, sR a117, sR a120, sR a123, sR a114, sR a117, sR a120, sR a123, sI (0 : Int32), sI (0 : Int32), sI (0 : Int32), sI (0 : Int32), sJ v191, uS, sJ v192, uS, sJ v193, uS, sJ v194, uS, sJ wr, uS, uU, uU, uU, uU, uU, uU, uU, uU, uU, uU, uU] [(.long wi)]))
      have M196 := Fr.app M195 N196
      obtain ⟨jwi, hjwi⟩ : ∃ i : Int, i = j193 * jy5 + j194 * jy4 := ⟨_, rfl⟩
      rw [← hjwi] at Fwi
      have Bwi : -281474976710656 ≤ jwi ∧ jwi ≤ 281474976710656 := by rw [hjwi]; exact own_bd_add (own_bd_mul B193 by5 rfl) (own_bd_mul B194 by4 rfl) (by decide)
      refine OwnGo.pre (fun t k => XT.lstore X196.here hx rfl (hb hby at_402) rfl (l' := #[sI p0, sI p1, sI p2, sI p3, sJ p4, uS, sI p5, sJ y0, uS, sJ y1, uS, sJ y2, uS, sJ y3, uS, sJ y4, uS, sJ y5, uS, sI (2 : Int32), sI (0 : Int32), sR a105, sR a114, sR a117, sR a120, sR a123, sR a114, sR a117, sR a120, sR a123, sI (0 : Int32), sI (0 : Int32), sI (0 : Int32), sI (0 : Int32), sJ v191, uS, sJ v192, uS, sJ v193, uS, sJ v194, uS, sJ wr, uS, sJ wi, uS, uU, uU, uU, uU, uU, uU, uU, uU, uU]) rfl (XS.aload X196.here hx rfl (hb hby at_404) rfl rfl (XS.iload X196.here hx rfl (hb hby at_406) rfl (own_daL X196 hx hZ e196 AFo0z (j := (0 : Int32)) (by decide) (i := 0) (by decide) (x := ro0_0z) rfl (g := (mkF m 408 #[sI p0, sI p1, sI p2, sI p3, sJ p4, uS, sI p5, sJ y0, uS, sJ y1, uS, sJ y2, uS, sJ y3, uS, sJ y4, uS, sJ y5, uS, sI (2 : Int32), sI (0 : Int32), sR a105, sR a114, sR a117, sR a120, sR a123, sR a114, sR a117, sR a120, sR a123, sI (0 : Int32), sI (0 : Int32), sI (0 : Int32), sI (0 : Int32), sJ v191, uS, sJ v192, uS, sJ v193, uS, sJ v194, uS, sJ wr, uS, sJ wi, uS, uU, uU, uU, uU, uU, uU, uU, uU, uU] [(.int (0 : Int32)), (.ref a114)])) rfl (rest := []) rfl (hb hby at_408) (XS.dstore X196.here hx rfl (hb hby at_409) rfl (l' := #[sI p0, sI p1, sI p2, sI p3, sJ p4, uS, sI p5, sJ y0, uS, sJ y1, uS, sJ y2, uS, sJ y3, uS, sJ y4, uS, sJ y5, uS, sI (2 : Int32), sI (0 : Int32), sR a105, sR a114, sR a117, sR a120, sR a123, sR a114, sR a117, sR a120, sR a123, sI (0 : Int32), sI (0 : Int32), sI (0 : Int32), sI (0 : Int32), sJ v191, uS, sJ v192, uS, sJ v193, uS, sJ v194, uS, sJ wr, uS, sJ wi, uS, sD ro0_0z, uS, uU, uU, uU, uU, uU, uU, uU]) rfl (XS.aload X196.here hx rfl (hb hby at_411) rfl rfl (XS.iload X196.here hx rfl (hb hby at_413) rfl (own_daL X196 hx hZ e196 AFo1z (j := (0 : Int32)) (by decide) (i := 0) (by decide) (x := ro1_0z) rfl (g := (mkF m 415 #[sI p0, sI p1, sI p2, sI p3, sJ p4, uS, sI p5, sJ y0, uS, sJ y1, uS, sJ y2, uS, sJ y3, uS, sJ y4, uS, sJ y5, uS, sI (2 : Int32), sI (0 : Int32), sR a105, sR a114, sR a117, sR a120, sR a123, sR a114, sR a117, sR a120, sR a123, sI (0 : Int32), sI (0 : Int32), sI (0 : Int32), sI (0 : Int32), sJ v191, uS, sJ v192, uS, sJ v193, uS, sJ v194, uS, sJ wr, uS, sJ wi, uS, sD ro0_0z, uS, uU, uU, uU, uU, uU, uU, uU] [(.int (0 : Int32)), (.ref a117)])) rfl (rest := []) rfl (hb hby at_415) k)))))))) ?_
      show OwnGo _ _ _ _ (T196.setTop (mkF m 416 #[sI p0, sI p1, sI p2, sI p3, sJ p4, uS, sI p5, sJ y0, uS, sJ y1, uS, sJ y2, uS, sJ y3, uS, sJ y4, uS, sJ y5, uS, sI (2 : Int32), sI (0 : Int32), sR a105, sR a114, sR a117, sR a120, sR a123, sR a114, sR a117, sR a120, sR a123, sI (0 : Int32), sI (0 : Int32), sI (0 : Int32), sI (0 : Int32), sJ v191, uS, sJ v192, uS, sJ v193, uS, sJ v194, uS, sJ wr, uS, sJ wi, uS, sD ro0_0z, uS, uU, uU, uU, uU, uU, uU, uU] [(.double ro1_0z)]))
      refine OwnGo.pre (fun t k => XS.dstore X196.here hx rfl (hb hby at_416) rfl (l' := #[sI p0, sI p1, sI p2, sI p3, sJ p4, uS, sI p5, sJ y0, uS, sJ y1, uS, sJ y2, uS, sJ y3, uS, sJ y4, uS, sJ y5, uS, sI (2 : Int32), sI (0 : Int32), sR a105, sR a114, sR a117, sR a120, sR a123, sR a114, sR a117, sR a120, sR a123, sI (0 : Int32), sI (0 : Int32), sI (0 : Int32), sI (0 : Int32), sJ v191, uS, sJ v192, uS, sJ v193, uS, sJ v194, uS, sJ wr, uS, sJ wi, uS, sD ro0_0z, uS, sD ro1_0z, uS, uU, uU, uU, uU, uU]) rfl (XS.aload X196.here hx rfl (hb hby at_418) rfl rfl (XS.iload X196.here hx rfl (hb hby at_420) rfl (own_daL X196 hx hZ e196 AFo2z (j := (0 : Int32)) (by decide) (i := 0) (by decide) (x := ro2_0z) rfl (g := (mkF m 422 #[sI p0, sI p1, sI p2, sI p3, sJ p4, uS, sI p5, sJ y0, uS, sJ y1, uS, sJ y2, uS, sJ y3, uS, sJ y4, uS, sJ y5, uS, sI (2 : Int32), sI (0 : Int32), sR a105, sR a114, sR a117, sR a120, sR a123, sR a114, sR a117, sR a120, sR a123, sI (0 : Int32), sI (0 : Int32), sI (0 : Int32), sI (0 : Int32), sJ v191, uS, sJ v192, uS, sJ v193, uS, sJ v194, uS, sJ wr, uS, sJ wi, uS, sD ro0_0z, uS, sD ro1_0z, uS, uU, uU, uU, uU, uU] [(.int (0 : Int32)), (.ref a120)])) rfl (rest := []) rfl (hb hby at_422) (XS.dstore X196.here hx rfl (hb hby at_423) rfl (l' := #[sI p0, sI p1, sI p2, sI p3, sJ p4, uS, sI p5, sJ y0, uS, sJ y1, uS, sJ y2, uS, sJ y3, uS, sJ y4, uS, sJ y5, uS, sI (2 : Int32), sI (0 : Int32), sR a105, sR a114, sR a117, sR a120, sR a123, sR a114, sR a117, sR a120, sR a123, sI (0 : Int32), sI (0 : Int32), sI (0 : Int32), sI (0 : Int32), sJ v191, uS, sJ v192, uS, sJ v193, uS, sJ v194, uS, sJ wr, uS, sJ wi, uS, sD ro0_0z, uS, sD ro1_0z, uS, sD ro2_0z, uS, uU, uU, uU]) rfl (XS.aload X196.here hx rfl (hb hby at_425) rfl rfl (XS.iload X196.here hx rfl (hb hby at_427) rfl (own_daL X196 hx hZ e196 AFo3z (j := (0 : Int32)) (by decide) (i := 0) (by decide) (x := ro3_0z) rfl (g := (mkF m 429 #[sI p0, sI p1, sI p2, sI p3, sJ p4, uS, sI p5, sJ y0, uS, sJ y1, uS, sJ y2, uS, sJ y3, uS, sJ y4, uS, sJ y5, uS, sI (2 : Int32), sI (0 : Int32), sR a105, sR a114, sR a117, sR a120, sR a123, sR a114, sR a117, sR a120, sR a123, sI (0 : Int32), sI (0 : Int32), sI (0 : Int32), sI (0 : Int32), sJ v191, uS, sJ v192, uS, sJ v193, uS, sJ v194, uS, sJ wr, uS, sJ wi, uS, sD ro0_0z, uS, sD ro1_0z, uS, sD ro2_0z, uS, uU, uU, uU] [(.int (0 : Int32)), (.ref a123)])) rfl (rest := []) rfl (hb hby at_429) k)))))))) ?_
      show OwnGo _ _ _ _ (T196.setTop (mkF m 430 #[sI p0, sI p1, sI p2, sI p3, sJ p4, uS, sI p5, sJ y0, uS, sJ y1, uS, sJ y2, uS, sJ y3, uS, sJ y4, uS, sJ y5, uS, sI (2 : Int32), sI (0 : Int32), sR a105, sR a114, sR a117, sR a120, sR a123, sR a114, sR a117, sR a120, sR a123, sI (0 : Int32), sI (0 : Int32), sI (0 : Int32), sI (0 : Int32), sJ v191, uS, sJ v192, uS, sJ v193, uS, sJ v194, uS, sJ wr, uS, sJ wi, uS, sD ro0_0z, uS, sD ro1_0z, uS, sD ro2_0z, uS, uU, uU, uU] [(.double ro3_0z)]))
      refine OwnGo.pre (fun t k => XS.dstore X196.here hx rfl (hb hby at_430) rfl (l' := #[sI p0, sI p1, sI p2, sI p3, sJ p4, uS, sI p5, sJ y0, uS, sJ y1, uS, sJ y2, uS, sJ y3, uS, sJ y4, uS, sJ y5, uS, sI (2 : Int32), sI (0 : Int32), sR a105, sR a114, sR a117, sR a120, sR a123, sR a114, sR a117, sR a120, sR a123, sI (0 : Int32), sI (0 : Int32), sI (0 : Int32), sI (0 : Int32), sJ v191, uS, sJ v192, uS, sJ v193, uS, sJ v194, uS, sJ wr, uS, sJ wi, uS, sD ro0_0z, uS, sD ro1_0z, uS, sD ro2_0z, uS, sD ro3_0z, uS, uU]) rfl (XS.dload X196.here hx rfl (hb hby at_432) rfl k)) ?_
      show OwnGo _ _ _ _ (T196.setTop (mkF m 434 #[sI p0, sI p1, sI p2, sI p3, sJ p4, uS, sI p5, sJ y0, uS, sJ y1, uS, sJ y2, uS, sJ y3, uS, sJ y4, uS, sJ y5, uS, sI (2 : Int32), sI (0 : Int32), sR a105, sR a114, sR a117, sR a120, sR a123, sR a114, sR a117, sR a120, sR a123, sI (0 : Int32), sI (0 : Int32), sI (0 : Int32), sI (0 : Int32), sJ v191, uS, sJ v192, uS, sJ v193, uS, sJ v194, uS, sJ wr, uS, sJ wi, uS, sD ro0_0z, uS, sD ro1_0z, uS, sD ro2_0z, uS, sD ro3_0z, uS, uU] [(.double ro2_0z)]))
      obtain ⟨_, _, ⟨T197, L197, k197, n197⟩, -, X197, ⟨Lc197, hQ197, l197, y197, z197⟩, st197⟩ := Jvm.LawKit.callS X196 hx (y := (⟨"com/example/isochron/isochron/dsp/FourierJoinPinLaw", "whole", "(D)Z"⟩ : MethodName)) hown (mvT hZ (hw _ (List.mem_of_getElem? (i := 16) rfl))) (mvT hZ (hw _ (List.mem_of_getElem? (i := 17) rfl))) (mvT hZ (hw _ (List.mem_of_getElem? (i := 2) rfl))) (mvT hZ (hw _ (List.mem_of_getElem? (i := 18) rfl))) (by decide) (backOf (W := 0) (rm := ({ frames := 0, cells := 0, slots := 0, locals := 0 } : Room)) (Q := Q_rmW Z ro2_0z jro2_0z T190.heap n0) (rmW l Z a0 hw [] ro2_0z jro2_0z T190.heap n0 Z190 Hro2_0z (own_bd_le Bjro2_0z (by decide))) hZ (hw _ (List.mem_of_getElem? (i := 18) rfl)) (hw _ (List.mem_of_getElem? (i := 2) rfl)) (by decide) (by decide)) (g := (mkF m 434 #[sI p0, sI p1, sI p2, sI p3, sJ p4, uS, sI p5, sJ y0, uS, sJ y1, uS, sJ y2, uS, sJ y3, uS, sJ y4, uS, sJ y5, uS, sI (2 : Int32), sI (0 : Int32), sR a105, sR a114, sR a117, sR a120, sR a123, sR a114, sR a117, sR a120, sR a123, sI (0 : Int32), sI (0 : Int32), sI (0 : Int32), sI (0 : Int32), sJ v191, uS, sJ v192, uS, sJ v193, uS, sJ v194, uS, sJ wr, uS, sJ wi, uS, sD ro0_0z, uS, sD ro1_0z, uS, sD ro2_0z, uS, sD ro3_0z, uS, uU] [(.double ro2_0z)])) rfl (by rw [hml]; rfl) (argsL := [(.double ro2_0z)]) (rest := []) (lenOf pd_rmW rfl) rfl (by show 2 * 0 + _ ≤ _; exact Nat.le_of_eq rfl) (hb hby at_434) (fun _ _ => ⟨rfl, e196, (by decide : 5 + 0 ≤ _), (by decide : 16 + 0 ≤ _)⟩)
      dsimp only [Pt.U, Pt.locs, Pt.cells, Pt.slots] at X197 l197 y197 z197 st197 hQ197
      replace l197 := l197.symm
      replace y197 := y197.symm
      replace z197 := z197.symm
      subst l197 y197 z197
      obtain ⟨rfl, N197, e197⟩ := hQ197
      refine OwnGo.pre (fun t k => st197 t k) ?_
      show OwnGo _ _ _ _ (T197.setTop (mkF m 437 #[sI p0, sI p1, sI p2, sI p3, sJ p4, uS, sI p5, sJ y0, uS, sJ y1, uS, sJ y2, uS, sJ y3, uS, sJ y4, uS, sJ y5, uS, sI (2 : Int32), sI (0 : Int32), sR a105, sR a114, sR a117, sR a120, sR a123, sR a114, sR a117, sR a120, sR a123, sI (0 : Int32), sI (0 : Int32), sI (0 : Int32), sI (0 : Int32), sJ v191, uS, sJ v192, uS, sJ v193, uS, sJ v194, uS, sJ wr, uS, sJ wi, uS, sD ro0_0z, uS, sD ro1_0z, uS, sD ro2_0z, uS, sD ro3_0z, uS, uU] [(.int (1 : Int32))]))
      have M197 := Fr.app M196 N197
      refine OwnGo.pre (fun t k => XS.ifNo X197.here hx rfl (hb hby at_437) rfl (by decide) (XS.dload X197.here hx rfl (hb hby at_440) rfl k)) ?_
      show OwnGo _ _ _ _ (T197.setTop (mkF m 442 #[sI p0, sI p1, sI p2, sI p3, sJ p4, uS, sI p5, sJ y0, uS, sJ y1, uS, sJ y2, uS, sJ y3, uS, sJ y4, uS, sJ y5, uS, sI (2 : Int32), sI (0 : Int32), sR a105, sR a114, sR a117, sR a120, sR a123, sR a114, sR a117, sR a120, sR a123, sI (0 : Int32), sI (0 : Int32), sI (0 : Int32), sI (0 : Int32), sJ v191, uS, sJ v192, uS, sJ v193, uS, sJ v194, uS, sJ wr, uS, sJ wi, uS, sD ro0_0z, uS, sD ro1_0z, uS, sD ro2_0z, uS, sD ro3_0z, uS, uU] [(.double ro3_0z)]))
      obtain ⟨_, _, ⟨T198, L198, k198, n198⟩, -, X198, ⟨Lc198, hQ198, l198, y198, z198⟩, st198⟩ := Jvm.LawKit.callS X197 hx (y := (⟨"com/example/isochron/isochron/dsp/FourierJoinPinLaw", "whole", "(D)Z"⟩ : MethodName)) hown (mvT hZ (hw _ (List.mem_of_getElem? (i := 16) rfl))) (mvT hZ (hw _ (List.mem_of_getElem? (i := 17) rfl))) (mvT hZ (hw _ (List.mem_of_getElem? (i := 2) rfl))) (mvT hZ (hw _ (List.mem_of_getElem? (i := 18) rfl))) (by decide) (backOf (W := 0) (rm := ({ frames := 0, cells := 0, slots := 0, locals := 0 } : Room)) (Q := Q_rmW Z ro3_0z jro3_0z T190.heap n0) (rmW l Z a0 hw [] ro3_0z jro3_0z T190.heap n0 Z190 Hro3_0z (own_bd_le Bjro3_0z (by decide))) hZ (hw _ (List.mem_of_getElem? (i := 18) rfl)) (hw _ (List.mem_of_getElem? (i := 2) rfl)) (by decide) (by decide)) (g := (mkF m 442 #[sI p0, sI p1, sI p2, sI p3, sJ p4, uS, sI p5, sJ y0, uS, sJ y1, uS, sJ y2, uS, sJ y3, uS, sJ y4, uS, sJ y5, uS, sI (2 : Int32), sI (0 : Int32), sR a105, sR a114, sR a117, sR a120, sR a123, sR a114, sR a117, sR a120, sR a123, sI (0 : Int32), sI (0 : Int32), sI (0 : Int32), sI (0 : Int32), sJ v191, uS, sJ v192, uS, sJ v193, uS, sJ v194, uS, sJ wr, uS, sJ wi, uS, sD ro0_0z, uS, sD ro1_0z, uS, sD ro2_0z, uS, sD ro3_0z, uS, uU] [(.double ro3_0z)])) rfl (by rw [hml]; rfl) (argsL := [(.double ro3_0z)]) (rest := []) (lenOf pd_rmW rfl) rfl (by show 2 * 0 + _ ≤ _; exact Nat.le_of_eq rfl) (hb hby at_442) (fun _ _ => ⟨rfl, e197, (by decide : 5 + 0 ≤ _), (by decide : 16 + 0 ≤ _)⟩)
      dsimp only [Pt.U, Pt.locs, Pt.cells, Pt.slots] at X198 l198 y198 z198 st198 hQ198
      replace l198 := l198.symm
      replace y198 := y198.symm
      replace z198 := z198.symm
      subst l198 y198 z198
      obtain ⟨rfl, N198, e198⟩ := hQ198
      refine OwnGo.pre (fun t k => st198 t k) ?_
      show OwnGo _ _ _ _ (T198.setTop (mkF m 445 #[sI p0, sI p1, sI p2, sI p3, sJ p4, uS, sI p5, sJ y0, uS, sJ y1, uS, sJ y2, uS, sJ y3, uS, sJ y4, uS, sJ y5, uS, sI (2 : Int32), sI (0 : Int32), sR a105, sR a114, sR a117, sR a120, sR a123, sR a114, sR a117, sR a120, sR a123, sI (0 : Int32), sI (0 : Int32), sI (0 : Int32), sI (0 : Int32), sJ v191, uS, sJ v192, uS, sJ v193, uS, sJ v194, uS, sJ wr, uS, sJ wi, uS, sD ro0_0z, uS, sD ro1_0z, uS, sD ro2_0z, uS, sD ro3_0z, uS, uU] [(.int (1 : Int32))]))
      have M198 := Fr.app M197 N198
      obtain ⟨v199, hv199⟩ : ∃ v, FP.d2l ro2_0z = v := ⟨_, rfl⟩
      have F199 : v199.toInt = jro2_0z := by rw [← hv199]; exact own_d2lb Hro2_0z Bjro2_0z (by decide)
      obtain ⟨v200, hv200⟩ : ∃ v, v191 + wi = v := ⟨_, rfl⟩
      obtain ⟨j200, hj200⟩ : ∃ i : Int, i = j191 + jwi := ⟨_, rfl⟩
      have B200 : -281474993487872 ≤ j200 ∧ j200 ≤ 281474993487872 := by rw [hj200]; exact own_bd_add B191 Bwi (by decide)
      have F200 : v200.toInt = j200 := own_lf_add hv200 F191 Fwi B191 Bwi (by decide) hj200
      refine OwnGo.pre (fun t k => XS.ifNo X198.here hx rfl (hb hby at_445) rfl (by decide) (XS.dload X198.here hx rfl (hb hby at_448) rfl (XS.d2lS X198.here hx rfl (hb hby at_450) rfl hv199 (XT.lload X198.here hx rfl (hb hby at_451) rfl (XT.lload X198.here hx rfl (hb hby at_453) rfl (own_ladd X198.here hx rfl (hb hby at_455) rfl hv200 (own_lcmp X198.here hx rfl (hb hby at_456) rfl rfl k))))))) ?_
      show OwnGo _ _ _ _ (T198.setTop (mkF m 457 #[sI p0, sI p1, sI p2, sI p3, sJ p4, uS, sI p5, sJ y0, uS, sJ y1, uS, sJ y2, uS, sJ y3, uS, sJ y4, uS, sJ y5, uS, sI (2 : Int32), sI (0 : Int32), sR a105, sR a114, sR a117, sR a120, sR a123, sR a114, sR a117, sR a120, sR a123, sI (0 : Int32), sI (0 : Int32), sI (0 : Int32), sI (0 : Int32), sJ v191, uS, sJ v192, uS, sJ v193, uS, sJ v194, uS, sJ wr, uS, sJ wi, uS, sD ro0_0z, uS, sD ro1_0z, uS, sD ro2_0z, uS, sD ro3_0z, uS, uU] [(.int (XT.cmpL v199 v200))]))
      have q457 : v199.toInt = v200.toInt := by rw [F199, F200]; simp only [hjro2_0z, hj200, hj191, hjwi, hj193, hj194] <;> exact own_eq0 jy0 jy2 jy5 jy1 jy3 jy4
      obtain ⟨v201, hv201⟩ : ∃ v, FP.d2l ro3_0z = v := ⟨_, rfl⟩
      have F201 : v201.toInt = jro3_0z := by rw [← hv201]; exact own_d2lb Hro3_0z Bjro3_0z (by decide)
      obtain ⟨v202, hv202⟩ : ∃ v, -v201 = v := ⟨_, rfl⟩
      obtain ⟨j202, hj202⟩ : ∃ i : Int, i = -jro3_0z := ⟨_, rfl⟩
      have B202 : -281474993487872 ≤ j202 ∧ j202 ≤ 281474993487872 := by rw [hj202]; exact own_bd_neg Bjro3_0z
      have F202 : v202.toInt = j202 := own_lf_neg hv202 F201 Bjro3_0z (by decide) hj202
      obtain ⟨v203, hv203⟩ : ∃ v, v192 - wr = v := ⟨_, rfl⟩
      obtain ⟨j203, hj203⟩ : ∃ i : Int, i = j192 - jwr := ⟨_, rfl⟩
      have B203 : -281474993487872 ≤ j203 ∧ j203 ≤ 281474993487872 := by rw [hj203]; exact own_bd_sub B192 Bwr (by decide)
      have F203 : v203.toInt = j203 := own_lf_sub hv203 F192 Fwr B192 Bwr (by decide) hj203
      refine OwnGo.pre (fun t k => XS.ifNo X198.here hx rfl (hb hby at_457) rfl ((own_brL .ne _ _).trans (decide_eq_false (fun q => q q457))) (XS.dload X198.here hx rfl (hb hby at_460) rfl (XS.d2lS X198.here hx rfl (hb hby at_462) rfl hv201 (own_lneg X198.here hx rfl (hb hby at_463) rfl hv202 (XT.lload X198.here hx rfl (hb hby at_464) rfl (XT.lload X198.here hx rfl (hb hby at_466) rfl (own_lsub X198.here hx rfl (hb hby at_468) rfl hv203 (own_lcmp X198.here hx rfl (hb hby at_469) rfl rfl k)))))))) ?_
      show OwnGo _ _ _ _ (T198.setTop (mkF m 470 #[sI p0, sI p1, sI p2, sI p3, sJ p4, uS, sI p5, sJ y0, uS, sJ y1, uS, sJ y2, uS, sJ y3, uS, sJ y4, uS, sJ y5, uS, sI (2 : Int32), sI (0 : Int32), sR a105, sR a114, sR a117, sR a120, sR a123, sR a114, sR a117, sR a120, sR a123, sI (0 : Int32), sI (0 : Int32), sI (0 : Int32), sI (0 : Int32), sJ v191, uS, sJ v192, uS, sJ v193, uS, sJ v194, uS, sJ wr, uS, sJ wi, uS, sD ro0_0z, uS, sD ro1_0z, uS, sD ro2_0z, uS, sD ro3_0z, uS, uU] [(.int (XT.cmpL v202 v203))]))
      have q470 : v202.toInt = v203.toInt := by rw [F202, F203]; simp only [hj202, hjro3_0z, hj203, hj192, hjwr, hj193, hj194] <;> exact own_eq1 jy0 jy2 jy4 jy1 jy3 jy5
      refine OwnGo.pre (fun t k => XS.ifNo X198.here hx rfl (hb hby at_470) rfl ((own_brL .ne _ _).trans (decide_eq_false (fun q => q q470))) (XS.iconst X198.here hx rfl (hb hby at_473) (XS.goto X198.here hx rfl (pc0 := 474) (pc' := 478) rfl (hb hby at_474) (by decide) (by decide) (XS.istore X198.here hx rfl (hb hby at_478) rfl (l' := #[sI p0, sI p1, sI p2, sI p3, sJ p4, uS, sI p5, sJ y0, uS, sJ y1, uS, sJ y2, uS, sJ y3, uS, sJ y4, uS, sJ y5, uS, sI (2 : Int32), sI (0 : Int32), sR a105, sR a114, sR a117, sR a120, sR a123, sR a114, sR a117, sR a120, sR a123, sI (0 : Int32), sI (0 : Int32), sI (0 : Int32), sI (0 : Int32), sJ v191, uS, sJ v192, uS, sJ v193, uS, sJ v194, uS, sJ wr, uS, sJ wi, uS, sD ro0_0z, uS, sD ro1_0z, uS, sD ro2_0z, uS, sD ro3_0z, uS, sI (1 : Int32)]) rfl (XS.iload X198.here hx rfl (hb hby at_480) rfl (XS.iconst X198.here hx rfl (hb hby at_482) (XS.icmpNo X198.here hx rfl (hb hby at_483) rfl (by decide) (XS.iload X198.here hx rfl (hb hby at_486) rfl k)))))))) ?_
      show OwnGo _ _ _ _ (T198.setTop (mkF m 488 #[sI p0, sI p1, sI p2, sI p3, sJ p4, uS, sI p5, sJ y0, uS, sJ y1, uS, sJ y2, uS, sJ y3, uS, sJ y4, uS, sJ y5, uS, sI (2 : Int32), sI (0 : Int32), sR a105, sR a114, sR a117, sR a120, sR a123, sR a114, sR a117, sR a120, sR a123, sI (0 : Int32), sI (0 : Int32), sI (0 : Int32), sI (0 : Int32), sJ v191, uS, sJ v192, uS, sJ v193, uS, sJ v194, uS, sJ wr, uS, sJ wi, uS, sD ro0_0z, uS, sD ro1_0z, uS, sD ro2_0z, uS, sD ro3_0z, uS, sI (1 : Int32)] [(.int (1 : Int32))]))
      refine OwnGo.pre (fun t k => XS.ifNo X198.here hx rfl (hb hby at_488) rfl (by decide) (XS.dload X198.here hx rfl (hb hby at_491) rfl k)) ?_
      show OwnGo _ _ _ _ (T198.setTop (mkF m 493 #[sI p0, sI p1, sI p2, sI p3, sJ p4, uS, sI p5, sJ y0, uS, sJ y1, uS, sJ y2, uS, sJ y3, uS, sJ y4, uS, sJ y5, uS, sI (2 : Int32), sI (0 : Int32), sR a105, sR a114, sR a117, sR a120, sR a123, sR a114, sR a117, sR a120, sR a123, sI (0 : Int32), sI (0 : Int32), sI (0 : Int32), sI (0 : Int32), sJ v191, uS, sJ v192, uS, sJ v193, uS, sJ v194, uS, sJ wr, uS, sJ wi, uS, sD ro0_0z, uS, sD ro1_0z, uS, sD ro2_0z, uS, sD ro3_0z, uS, sI (1 : Int32)] [(.double ro0_0z)]))
      obtain ⟨_, _, ⟨T204, L204, k204, n204⟩, -, X204, ⟨Lc204, hQ204, l204, y204, z204⟩, st204⟩ := Jvm.LawKit.callS X198 hx (y := (⟨"com/example/isochron/isochron/dsp/FourierJoinPinLaw", "whole", "(D)Z"⟩ : MethodName)) hown (mvT hZ (hw _ (List.mem_of_getElem? (i := 16) rfl))) (mvT hZ (hw _ (List.mem_of_getElem? (i := 17) rfl))) (mvT hZ (hw _ (List.mem_of_getElem? (i := 2) rfl))) (mvT hZ (hw _ (List.mem_of_getElem? (i := 18) rfl))) (by decide) (backOf (W := 0) (rm := ({ frames := 0, cells := 0, slots := 0, locals := 0 } : Room)) (Q := Q_rmW Z ro0_0z jro0_0z T190.heap n0) (rmW l Z a0 hw [] ro0_0z jro0_0z T190.heap n0 Z190 Hro0_0z (own_bd_le Bjro0_0z (by decide))) hZ (hw _ (List.mem_of_getElem? (i := 18) rfl)) (hw _ (List.mem_of_getElem? (i := 2) rfl)) (by decide) (by decide)) (g := (mkF m 493 #[sI p0, sI p1, sI p2, sI p3, sJ p4, uS, sI p5, sJ y0, uS, sJ y1, uS, sJ y2, uS, sJ y3, uS, sJ y4, uS, sJ y5, uS, sI (2 : Int32), sI (0 : Int32), sR a105, sR a114, sR a117, sR a120, sR a123, sR a114, sR a117, sR a120, sR a123, sI (0 : Int32), sI (0 : Int32), sI (0 : Int32), sI (0 : Int32), sJ v191, uS, sJ v192, uS, sJ v193, uS, sJ v194, uS, sJ wr, uS, sJ wi, uS, sD ro0_0z, uS, sD ro1_0z, uS, sD ro2_0z, uS, sD ro3_0z, uS, sI (1 : Int32)] [(.double ro0_0z)])) rfl (by rw [hml]; rfl) (argsL := [(.double ro0_0z)]) (rest := []) (lenOf pd_rmW rfl) rfl (by show 2 * 0 + _ ≤ _; exact Nat.le_of_eq rfl) (hb hby at_493) (fun _ _ => ⟨rfl, e198, (by decide : 5 + 0 ≤ _), (by decide : 16 + 0 ≤ _)⟩)
      dsimp only [Pt.U, Pt.locs, Pt.cells, Pt.slots] at X204 l204 y204 z204 st204 hQ204
      replace l204 := l204.symm
      replace y204 := y204.symm
      replace z204 := z204.symm
      subst l204 y204 z204
      obtain ⟨rfl, N204, e204⟩ := hQ204
      refine OwnGo.pre (fun t k => st204 t k) ?_
      show OwnGo _ _ _ _ (T204.setTop (mkF m 496 #[sI p0, sI p1, sI p2, sI p3, sJ p4, uS, sI p5, sJ y0, uS, sJ y1, uS, sJ y2, uS, sJ y3, uS, sJ y4, uS, sJ y5, uS, sI (2 : Int32), sI (0 : Int32), sR a105, sR a114, sR a117, sR a120, sR a123, sR a114, sR a117, sR a120, sR a123, sI (0 : Int32), sI (0 : Int32), sI (0 : Int32), sI (0 : Int32), sJ v191, uS, sJ v192, uS, sJ v193, uS, sJ v194, uS, sJ wr, uS, sJ wi, uS, sD ro0_0z, uS, sD ro1_0z, uS, sD ro2_0z, uS, sD ro3_0z, uS, sI (1 : Int32)] [(.int (1 : Int32))]))
      have M204 := Fr.app M198 N204
      refine OwnGo.pre (fun t k => XS.ifNo X204.here hx rfl (hb hby at_496) rfl (by decide) (XS.dload X204.here hx rfl (hb hby at_499) rfl k)) ?_
      show OwnGo _ _ _ _ (T204.setTop (mkF m 501 #[sI p0, sI p1, sI p2, sI p3, sJ p4, uS, sI p5, sJ y0, uS, sJ y1, uS, sJ y2, uS, sJ y3, uS, sJ y4, uS, sJ y5, uS, sI (2 : Int32), sI (0 : Int32), sR a105, sR a114, sR a117, sR a120, sR a123, sR a114, sR a117, sR a120, sR a123, sI (0 : Int32), sI (0 : Int32), sI (0 : Int32), sI (0 : Int32), sJ v191, uS, sJ v192, uS, sJ v193, uS, sJ v194, uS, sJ wr, uS, sJ wi, uS, sD ro0_0z, uS, sD ro1_0z, uS, sD ro2_0z, uS, sD ro3_0z, uS, sI (1 : Int32)] [(.double ro1_0z)]))
      obtain ⟨_, _, ⟨T205, L205, k205, n205⟩, -, X205, ⟨Lc205, hQ205, l205, y205, z205⟩, st205⟩ := Jvm.LawKit.callS X204 hx (y := (⟨"com/example/isochron/isochron/dsp/FourierJoinPinLaw", "whole", "(D)Z"⟩ : MethodName)) hown (mvT hZ (hw _ (List.mem_of_getElem? (i := 16) rfl))) (mvT hZ (hw _ (List.mem_of_getElem? (i := 17) rfl))) (mvT hZ (hw _ (List.mem_of_getElem? (i := 2) rfl))) (mvT hZ (hw _ (List.mem_of_getElem? (i := 18) rfl))) (by decide) (backOf (W := 0) (rm := ({ frames := 0, cells := 0, slots := 0, locals := 0 } : Room)) (Q := Q_rmW Z ro1_0z jro1_0z T190.heap n0) (rmW l Z a0 hw [] ro1_0z jro1_0z T190.heap n0 Z190 Hro1_0z (own_bd_le Bjro1_0z (by decide))) hZ (hw _ (List.mem_of_getElem? (i := 18) rfl)) (hw _ (List.mem_of_getElem? (i := 2) rfl)) (by decide) (by decide)) (g := (mkF m 501 #[sI p0, sI p1, sI p2, sI p3, sJ p4, uS, sI p5, sJ y0, uS, sJ y1, uS, sJ y2, uS, sJ y3, uS, sJ y4, uS, sJ y5, uS, sI (2 : Int32), sI (0 : Int32), sR a105, sR a114, sR a117, sR a120, sR a123, sR a114, sR a117, sR a120, sR a123, sI (0 : Int32), sI (0 : Int32), sI (0 : Int32), sI (0 : Int32), sJ v191, uS, sJ v192, uS, sJ v193, uS, sJ v194, uS, sJ wr, uS, sJ wi, uS, sD ro0_0z, uS, sD ro1_0z, uS, sD ro2_0z, uS, sD ro3_0z, uS, sI (1 : Int32)] [(.double ro1_0z)])) rfl (by rw [hml]; rfl) (argsL := [(.double ro1_0z)]) (rest := []) (lenOf pd_rmW rfl) rfl (by show 2 * 0 + _ ≤ _; exact Nat.le_of_eq rfl) (hb hby at_501) (fun _ _ => ⟨rfl, e204, (by decide : 5 + 0 ≤ _), (by decide : 16 + 0 ≤ _)⟩)
      dsimp only [Pt.U, Pt.locs, Pt.cells, Pt.slots] at X205 l205 y205 z205 st205 hQ205
      replace l205 := l205.symm
      replace y205 := y205.symm
      replace z205 := z205.symm
      subst l205 y205 z205
      obtain ⟨rfl, N205, e205⟩ := hQ205
      refine OwnGo.pre (fun t k => st205 t k) ?_
      show OwnGo _ _ _ _ (T205.setTop (mkF m 504 #[sI p0, sI p1, sI p2, sI p3, sJ p4, uS, sI p5, sJ y0, uS, sJ y1, uS, sJ y2, uS, sJ y3, uS, sJ y4, uS, sJ y5, uS, sI (2 : Int32), sI (0 : Int32), sR a105, sR a114, sR a117, sR a120, sR a123, sR a114, sR a117, sR a120, sR a123, sI (0 : Int32), sI (0 : Int32), sI (0 : Int32), sI (0 : Int32), sJ v191, uS, sJ v192, uS, sJ v193, uS, sJ v194, uS, sJ wr, uS, sJ wi, uS, sD ro0_0z, uS, sD ro1_0z, uS, sD ro2_0z, uS, sD ro3_0z, uS, sI (1 : Int32)] [(.int (1 : Int32))]))
      have M205 := Fr.app M204 N205
      obtain ⟨v206, hv206⟩ : ∃ v, FP.d2l ro0_0z = v := ⟨_, rfl⟩
      have F206 : v206.toInt = jro0_0z := by rw [← hv206]; exact own_d2lb Hro0_0z Bjro0_0z (by decide)
      obtain ⟨v207, hv207⟩ : ∃ v, v191 - wi = v := ⟨_, rfl⟩
      obtain ⟨j207, hj207⟩ : ∃ i : Int, i = j191 - jwi := ⟨_, rfl⟩
      have B207 : -281474993487872 ≤ j207 ∧ j207 ≤ 281474993487872 := by rw [hj207]; exact own_bd_sub B191 Bwi (by decide)
      have F207 : v207.toInt = j207 := own_lf_sub hv207 F191 Fwi B191 Bwi (by decide) hj207
      refine OwnGo.pre (fun t k => XS.ifNo X205.here hx rfl (hb hby at_504) rfl (by decide) (XS.dload X205.here hx rfl (hb hby at_507) rfl (XS.d2lS X205.here hx rfl (hb hby at_509) rfl hv206 (XT.lload X205.here hx rfl (hb hby at_510) rfl (XT.lload X205.here hx rfl (hb hby at_512) rfl (own_lsub X205.here hx rfl (hb hby at_514) rfl hv207 (own_lcmp X205.here hx rfl (hb hby at_515) rfl rfl k))))))) ?_
      show OwnGo _ _ _ _ (T205.setTop (mkF m 516 #[sI p0, sI p1, sI p2, sI p3, sJ p4, uS, sI p5, sJ y0, uS, sJ y1, uS, sJ y2, uS, sJ y3, uS, sJ y4, uS, sJ y5, uS, sI (2 : Int32), sI (0 : Int32), sR a105, sR a114, sR a117, sR a120, sR a123, sR a114, sR a117, sR a120, sR a123, sI (0 : Int32), sI (0 : Int32), sI (0 : Int32), sI (0 : Int32), sJ v191, uS, sJ v192, uS, sJ v193, uS, sJ v194, uS, sJ wr, uS, sJ wi, uS, sD ro0_0z, uS, sD ro1_0z, uS, sD ro2_0z, uS, sD ro3_0z, uS, sI (1 : Int32)] [(.int (XT.cmpL v206 v207))]))
      have q516 : v206.toInt = v207.toInt := by rw [F206, F207]; simp only [hjro0_0z, hj207, hj191, hjwi, hj193, hj194] <;> exact own_eq2 jy0 jy2 jy5 jy1 jy3 jy4
      obtain ⟨v208, hv208⟩ : ∃ v, FP.d2l ro1_0z = v := ⟨_, rfl⟩
      have F208 : v208.toInt = jro1_0z := by rw [← hv208]; exact own_d2lb Hro1_0z Bjro1_0z (by decide)
      obtain ⟨v209, hv209⟩ : ∃ v, v192 + wr = v := ⟨_, rfl⟩
      obtain ⟨j209, hj209⟩ : ∃ i : Int, i = j192 + jwr := ⟨_, rfl⟩
      have B209 : -281474993487872 ≤ j209 ∧ j209 ≤ 281474993487872 := by rw [hj209]; exact own_bd_add B192 Bwr (by decide)
      have F209 : v209.toInt = j209 := own_lf_add hv209 F192 Fwr B192 Bwr (by decide) hj209
      refine OwnGo.pre (fun t k => XS.ifNo X205.here hx rfl (hb hby at_516) rfl ((own_brL .ne _ _).trans (decide_eq_false (fun q => q q516))) (XS.dload X205.here hx rfl (hb hby at_519) rfl (XS.d2lS X205.here hx rfl (hb hby at_521) rfl hv208 (XT.lload X205.here hx rfl (hb hby at_522) rfl (XT.lload X205.here hx rfl (hb hby at_524) rfl (own_ladd X205.here hx rfl (hb hby at_526) rfl hv209 (own_lcmp X205.here hx rfl (hb hby at_527) rfl rfl k))))))) ?_
      show OwnGo _ _ _ _ (T205.setTop (mkF m 528 #[sI p0, sI p1, sI p2, sI p3, sJ p4, uS, sI p5, sJ y0, uS, sJ y1, uS, sJ y2, uS, sJ y3, uS, sJ y4, uS, sJ y5, uS, sI (2 : Int32), sI (0 : Int32), sR a105, sR a114, sR a117, sR a120, sR a123, sR a114, sR a117, sR a120, sR a123, sI (0 : Int32), sI (0 : Int32), sI (0 : Int32), sI (0 : Int32), sJ v191, uS, sJ v192, uS, sJ v193, uS, sJ v194, uS, sJ wr, uS, sJ wi, uS, sD ro0_0z, uS, sD ro1_0z, uS, sD ro2_0z, uS, sD ro3_0z, uS, sI (1 : Int32)] [(.int (XT.cmpL v208 v209))]))
      have q528 : v208.toInt = v209.toInt := by rw [F208, F209]; simp only [hjro1_0z, hj209, hj192, hjwr, hj193, hj194] <;> exact own_eq3 jy1 jy3 jy0 jy2 jy4 jy5
      refine OwnGo.pre (fun t k => XS.ifNo X205.here hx rfl (hb hby at_528) rfl ((own_brL .ne _ _).trans (decide_eq_false (fun q => q q528))) (XS.iconst X205.here hx rfl (hb hby at_531) (XS.goto X205.here hx rfl (pc0 := 532) (pc' := 536) rfl (hb hby at_532) (by decide) (by decide) (XS.istore X205.here hx rfl (hb hby at_536) rfl (l' := #[sI p0, sI p1, sI p2, sI p3, sJ p4, uS, sI p5, sJ y0, uS, sJ y1, uS, sJ y2, uS, sJ y3, uS, sJ y4, uS, sJ y5, uS, sI (2 : Int32), sI (0 : Int32), sR a105, sR a114, sR a117, sR a120, sR a123, sR a114, sR a117, sR a120, sR a123, sI (0 : Int32), sI (0 : Int32), sI (0 : Int32), sI (0 : Int32), sJ v191, uS, sJ v192, uS, sJ v193, uS, sJ v194, uS, sJ wr, uS, sJ wi, uS, sD ro0_0z, uS, sD ro1_0z, uS, sD ro2_0z, uS, sD ro3_0z, uS, sI (1 : Int32)]) rfl (XS.iload X205.here hx rfl (hb hby at_538) rfl (XS.ifYes X205.here hx rfl (pc0 := 540) (pc' := 604) rfl (hb hby at_540) rfl (by decide) (by decide) (by decide) (XS.iload X205.here hx rfl (hb hby at_604) rfl (XS.iconst X205.here hx rfl (hb hby at_606) k)))))))) ?_
      show OwnGo _ _ _ _ (T205.setTop (mkF m 607 #[sI p0, sI p1, sI p2, sI p3, sJ p4, uS, sI p5, sJ y0, uS, sJ y1, uS, sJ y2, uS, sJ y3, uS, sJ y4, uS, sJ y5, uS, sI (2 : Int32), sI (0 : Int32), sR a105, sR a114, sR a117, sR a120, sR a123, sR a114, sR a117, sR a120, sR a123, sI (0 : Int32), sI (0 : Int32), sI (0 : Int32), sI (0 : Int32), sJ v191, uS, sJ v192, uS, sJ v193, uS, sJ v194, uS, sJ wr, uS, sJ wi, uS, sD ro0_0z, uS, sD ro1_0z, uS, sD ro2_0z, uS, sD ro3_0z, uS, sI (1 : Int32)] [(.int (1 : Int32)), (.int (2 : Int32))]))
      refine OwnGo.pre (fun t k => XS.icmpYes X205.here hx rfl (pc0 := 607) (pc' := 658) rfl (hb hby at_607) rfl (by decide) (by decide) (by decide) (XS.iload X205.here hx rfl (hb hby at_658) rfl (XS.iconst X205.here hx rfl (hb hby at_660) (XS.icmpNo X205.here hx rfl (hb hby at_661) rfl (by decide) (XS.iload X205.here hx rfl (hb hby at_664) rfl (XS.ifNo X205.here hx rfl (hb hby at_666) rfl (by decide) (XS.aload X205.here hx rfl (hb hby at_669) rfl rfl (XS.iconst X205.here hx rfl (hb hby at_671) k)))))))) ?_
      show OwnGo _ _ _ _ (T205.setTop (mkF m 672 #[sI p0, sI p1, sI p2, sI p3, sJ p4, uS, sI p5, sJ y0, uS, sJ y1, uS, sJ y2, uS, sJ y3, uS, sJ y4, uS, sJ y5, uS, sI (2 : Int32), sI (0 : Int32), sR a105, sR a114, sR a117, sR a120, sR a123, sR a114, sR a117, sR a120, sR a123, sI (0 : Int32), sI (0 : Int32), sI (0 : Int32), sI (0 : Int32), sJ v191, uS, sJ v192, uS, sJ v193, uS, sJ v194, uS, sJ wr, uS, sJ wi, uS, sD ro0_0z, uS, sD ro1_0z, uS, sD ro2_0z, uS, sD ro3_0z, uS, sI (1 : Int32)] [(.int (1 : Int32)), (.ref a114)]))
      refine OwnGo.pre (fun t k => XS.iload X205.here hx rfl (hb hby at_672) rfl (own_isub X205.here hx rfl (hb hby at_674) rfl (v := (1 : Int32)) (by decide) (own_daL X205 hx hZ e205 AFo0z (j := (1 : Int32)) (by decide) (i := 1) (by decide) (x := (4602678819172646912 : UInt64)) rfl (g := (mkF m 675 #[sI p0, sI p1, sI p2, sI p3, sJ p4, uS, sI p5, sJ y0, uS, sJ y1, uS, sJ y2, uS, sJ y3, uS, sJ y4, uS, sJ y5, uS, sI (2 : Int32), sI (0 : Int32), sR a105, sR a114, sR a117, sR a120, sR a123, sR a114, sR a117, sR a120, sR a123, sI (0 : Int32), sI (0 : Int32), sI (0 : Int32), sI (0 : Int32), sJ v191, uS, sJ v192, uS, sJ v193, uS, sJ v194, uS, sJ wr, uS, sJ wi, uS, sD ro0_0z, uS, sD ro1_0z, uS, sD ro2_0z, uS, sD ro3_0z, uS, sI (1 : Int32)] [(.int (1 : Int32)), (.ref a114)])) rfl (rest := []) rfl (hb hby at_675) (own_ldcD X205 hx hown (mvT hZ (hw _ (List.mem_of_getElem? (i := 5) rfl))) rfl (hb hby at_676) (XS.dcmpS X205.here hx rfl (hb hby at_679) rfl rfl (XS.ifNo X205.here hx rfl (hb hby at_680) rfl (by decide +kernel) (XS.aload X205.here hx rfl (hb hby at_683) rfl rfl (XS.iconst X205.here hx rfl (hb hby at_685) k)))))))) ?_
      show OwnGo _ _ _ _ (T205.setTop (mkF m 686 #[sI p0, sI p1, sI p2, sI p3, sJ p4, uS, sI p5, sJ y0, uS, sJ y1, uS, sJ y2, uS, sJ y3, uS, sJ y4, uS, sJ y5, uS, sI (2 : Int32), sI (0 : Int32), sR a105, sR a114, sR a117, sR a120, sR a123, sR a114, sR a117, sR a120, sR a123, sI (0 : Int32), sI (0 : Int32), sI (0 : Int32), sI (0 : Int32), sJ v191, uS, sJ v192, uS, sJ v193, uS, sJ v194, uS, sJ wr, uS, sJ wi, uS, sD ro0_0z, uS, sD ro1_0z, uS, sD ro2_0z, uS, sD ro3_0z, uS, sI (1 : Int32)] [(.int (1 : Int32)), (.ref a117)]))
      refine OwnGo.pre (fun t k => XS.iload X205.here hx rfl (hb hby at_686) rfl (own_isub X205.here hx rfl (hb hby at_688) rfl (v := (1 : Int32)) (by decide) (own_daL X205 hx hZ e205 AFo1z (j := (1 : Int32)) (by decide) (i := 1) (by decide) (x := (4602678819172646912 : UInt64)) rfl (g := (mkF m 689 #[sI p0, sI p1, sI p2, sI p3, sJ p4, uS, sI p5, sJ y0, uS, sJ y1, uS, sJ y2, uS, sJ y3, uS, sJ y4, uS, sJ y5, uS, sI (2 : Int32), sI (0 : Int32), sR a105, sR a114, sR a117, sR a120, sR a123, sR a114, sR a117, sR a120, sR a123, sI (0 : Int32), sI (0 : Int32), sI (0 : Int32), sI (0 : Int32), sJ v191, uS, sJ v192, uS, sJ v193, uS, sJ v194, uS, sJ wr, uS, sJ wi, uS, sD ro0_0z, uS, sD ro1_0z, uS, sD ro2_0z, uS, sD ro3_0z, uS, sI (1 : Int32)] [(.int (1 : Int32)), (.ref a117)])) rfl (rest := []) rfl (hb hby at_689) (own_ldcD X205 hx hown (mvT hZ (hw _ (List.mem_of_getElem? (i := 5) rfl))) rfl (hb hby at_690) (XS.dcmpS X205.here hx rfl (hb hby at_693) rfl rfl (XS.ifNo X205.here hx rfl (hb hby at_694) rfl (by decide +kernel) (XS.aload X205.here hx rfl (hb hby at_697) rfl rfl (XS.iconst X205.here hx rfl (hb hby at_699) k)))))))) ?_
      show OwnGo _ _ _ _ (T205.setTop (mkF m 700 #[sI p0, sI p1, sI p2, sI p3, sJ p4, uS, sI p5, sJ y0, uS, sJ y1, uS, sJ y2, uS, sJ y3, uS, sJ y4, uS, sJ y5, uS, sI (2 : Int32), sI (0 : Int32), sR a105, sR a114, sR a117, sR a120, sR a123, sR a114, sR a117, sR a120, sR a123, sI (0 : Int32), sI (0 : Int32), sI (0 : Int32), sI (0 : Int32), sJ v191, uS, sJ v192, uS, sJ v193, uS, sJ v194, uS, sJ wr, uS, sJ wi, uS, sD ro0_0z, uS, sD ro1_0z, uS, sD ro2_0z, uS, sD ro3_0z, uS, sI (1 : Int32)] [(.int (1 : Int32)), (.ref a120)]))
      refine OwnGo.pre (fun t k => XS.iload X205.here hx rfl (hb hby at_700) rfl (own_isub X205.here hx rfl (hb hby at_702) rfl (v := (1 : Int32)) (by decide) (own_daL X205 hx hZ e205 AFo2z (j := (1 : Int32)) (by decide) (i := 1) (by decide) (x := (4602678819172646912 : UInt64)) rfl (g := (mkF m 703 #[sI p0, sI p1, sI p2, sI p3, sJ p4, uS, sI p5, sJ y0, uS, sJ y1, uS, sJ y2, uS, sJ y3, uS, sJ y4, uS, sJ y5, uS, sI (2 : Int32), sI (0 : Int32), sR a105, sR a114, sR a117, sR a120, sR a123, sR a114, sR a117, sR a120, sR a123, sI (0 : Int32), sI (0 : Int32), sI (0 : Int32), sI (0 : Int32), sJ v191, uS, sJ v192, uS, sJ v193, uS, sJ v194, uS, sJ wr, uS, sJ wi, uS, sD ro0_0z, uS, sD ro1_0z, uS, sD ro2_0z, uS, sD ro3_0z, uS, sI (1 : Int32)] [(.int (1 : Int32)), (.ref a120)])) rfl (rest := []) rfl (hb hby at_703) (own_ldcD X205 hx hown (mvT hZ (hw _ (List.mem_of_getElem? (i := 5) rfl))) rfl (hb hby at_704) (XS.dcmpS X205.here hx rfl (hb hby at_707) rfl rfl (XS.ifNo X205.here hx rfl (hb hby at_708) rfl (by decide +kernel) (XS.aload X205.here hx rfl (hb hby at_711) rfl rfl (XS.iconst X205.here hx rfl (hb hby at_713) k)))))))) ?_
      show OwnGo _ _ _ _ (T205.setTop (mkF m 714 #[sI p0, sI p1, sI p2, sI p3, sJ p4, uS, sI p5, sJ y0, uS, sJ y1, uS, sJ y2, uS, sJ y3, uS, sJ y4, uS, sJ y5, uS, sI (2 : Int32), sI (0 : Int32), sR a105, sR a114, sR a117, sR a120, sR a123, sR a114, sR a117, sR a120, sR a123, sI (0 : Int32), sI (0 : Int32), sI (0 : Int32), sI (0 : Int32), sJ v191, uS, sJ v192, uS, sJ v193, uS, sJ v194, uS, sJ wr, uS, sJ wi, uS, sD ro0_0z, uS, sD ro1_0z, uS, sD ro2_0z, uS, sD ro3_0z, uS, sI (1 : Int32)] [(.int (1 : Int32)), (.ref a123)]))
      refine OwnGo.pre (fun t k => XS.iload X205.here hx rfl (hb hby at_714) rfl (own_isub X205.here hx rfl (hb hby at_716) rfl (v := (1 : Int32)) (by decide) (own_daL X205 hx hZ e205 AFo3z (j := (1 : Int32)) (by decide) (i := 1) (by decide) (x := (4602678819172646912 : UInt64)) rfl (g := (mkF m 717 #[sI p0, sI p1, sI p2, sI p3, sJ p4, uS, sI p5, sJ y0, uS, sJ y1, uS, sJ y2, uS, sJ y3, uS, sJ y4, uS, sJ y5, uS, sI (2 : Int32), sI (0 : Int32), sR a105, sR a114, sR a117, sR a120, sR a123, sR a114, sR a117, sR a120, sR a123, sI (0 : Int32), sI (0 : Int32), sI (0 : Int32), sI (0 : Int32), sJ v191, uS, sJ v192, uS, sJ v193, uS, sJ v194, uS, sJ wr, uS, sJ wi, uS, sD ro0_0z, uS, sD ro1_0z, uS, sD ro2_0z, uS, sD ro3_0z, uS, sI (1 : Int32)] [(.int (1 : Int32)), (.ref a123)])) rfl (rest := []) rfl (hb hby at_717) (own_ldcD X205 hx hown (mvT hZ (hw _ (List.mem_of_getElem? (i := 5) rfl))) rfl (hb hby at_718) (XS.dcmpS X205.here hx rfl (hb hby at_721) rfl rfl (XS.ifNo X205.here hx rfl (hb hby at_722) rfl (by decide +kernel) (XS.aload X205.here hx rfl (hb hby at_725) rfl rfl (XS.iconst X205.here hx rfl (hb hby at_727) k)))))))) ?_
      show OwnGo _ _ _ _ (T205.setTop (mkF m 728 #[sI p0, sI p1, sI p2, sI p3, sJ p4, uS, sI p5, sJ y0, uS, sJ y1, uS, sJ y2, uS, sJ y3, uS, sJ y4, uS, sJ y5, uS, sI (2 : Int32), sI (0 : Int32), sR a105, sR a114, sR a117, sR a120, sR a123, sR a114, sR a117, sR a120, sR a123, sI (0 : Int32), sI (0 : Int32), sI (0 : Int32), sI (0 : Int32), sJ v191, uS, sJ v192, uS, sJ v193, uS, sJ v194, uS, sJ wr, uS, sJ wi, uS, sD ro0_0z, uS, sD ro1_0z, uS, sD ro2_0z, uS, sD ro3_0z, uS, sI (1 : Int32)] [(.int (0 : Int32)), (.ref a105)]))
      refine OwnGo.pre (fun t k => own_daL X205 hx hZ e205 A190_a105 (j := (0 : Int32)) (by decide) (i := 0) (by decide) (x := (4602678819172646912 : UInt64)) rfl (g := (mkF m 728 #[sI p0, sI p1, sI p2, sI p3, sJ p4, uS, sI p5, sJ y0, uS, sJ y1, uS, sJ y2, uS, sJ y3, uS, sJ y4, uS, sJ y5, uS, sI (2 : Int32), sI (0 : Int32), sR a105, sR a114, sR a117, sR a120, sR a123, sR a114, sR a117, sR a120, sR a123, sI (0 : Int32), sI (0 : Int32), sI (0 : Int32), sI (0 : Int32), sJ v191, uS, sJ v192, uS, sJ v193, uS, sJ v194, uS, sJ wr, uS, sJ wi, uS, sD ro0_0z, uS, sD ro1_0z, uS, sD ro2_0z, uS, sD ro3_0z, uS, sI (1 : Int32)] [(.int (0 : Int32)), (.ref a105)])) rfl (rest := []) rfl (hb hby at_728) (own_ldcD X205 hx hown (mvT hZ (hw _ (List.mem_of_getElem? (i := 5) rfl))) rfl (hb hby at_729) (XS.dcmpS X205.here hx rfl (hb hby at_732) rfl rfl (XS.ifNo X205.here hx rfl (hb hby at_733) rfl (by decide +kernel) (XS.iconst X205.here hx rfl (hb hby at_736) (XS.goto X205.here hx rfl (pc0 := 737) (pc' := 741) rfl (hb hby at_737) (by decide) (by decide) (XS.istore X205.here hx rfl (hb hby at_741) rfl (l' := #[sI p0, sI p1, sI p2, sI p3, sJ p4, uS, sI p5, sJ y0, uS, sJ y1, uS, sJ y2, uS, sJ y3, uS, sJ y4, uS, sJ y5, uS, sI (2 : Int32), sI (0 : Int32), sR a105, sR a114, sR a117, sR a120, sR a123, sR a114, sR a117, sR a120, sR a123, sI (0 : Int32), sI (0 : Int32), sI (0 : Int32), sI (0 : Int32), sJ v191, uS, sJ v192, uS, sJ v193, uS, sJ v194, uS, sJ wr, uS, sJ wi, uS, sD ro0_0z, uS, sD ro1_0z, uS, sD ro2_0z, uS, sD ro3_0z, uS, sI (1 : Int32)]) rfl (XS.goto X205.here hx rfl (pc0 := 743) (pc' := 802) rfl (hb hby at_743) (by decide) (by decide) k)))))))) ?_
      show OwnGo _ _ _ _ (T205.setTop (mkF m 802 #[sI p0, sI p1, sI p2, sI p3, sJ p4, uS, sI p5, sJ y0, uS, sJ y1, uS, sJ y2, uS, sJ y3, uS, sJ y4, uS, sJ y5, uS, sI (2 : Int32), sI (0 : Int32), sR a105, sR a114, sR a117, sR a120, sR a123, sR a114, sR a117, sR a120, sR a123, sI (0 : Int32), sI (0 : Int32), sI (0 : Int32), sI (0 : Int32), sJ v191, uS, sJ v192, uS, sJ v193, uS, sJ v194, uS, sJ wr, uS, sJ wi, uS, sD ro0_0z, uS, sD ro1_0z, uS, sD ro2_0z, uS, sD ro3_0z, uS, sI (1 : Int32)] []))
      refine OwnGo.pre (fun t k => XS.iload X205.here hx rfl (hb hby at_802) rfl k) ?_
      show OwnGo _ _ _ _ (T205.setTop (mkF m 804 #[sI p0, sI p1, sI p2, sI p3, sJ p4, uS, sI p5, sJ y0, uS, sJ y1, uS, sJ y2, uS, sJ y3, uS, sJ y4, uS, sJ y5, uS, sI (2 : Int32), sI (0 : Int32), sR a105, sR a114, sR a117, sR a120, sR a123, sR a114, sR a117, sR a120, sR a123, sI (0 : Int32), sI (0 : Int32), sI (0 : Int32), sI (0 : Int32), sJ v191, uS, sJ v192, uS, sJ v193, uS, sJ v194, uS, sJ wr, uS, sJ wi, uS, sD ro0_0z, uS, sD ro1_0z, uS, sD ro2_0z, uS, sD ro3_0z, uS, sI (1 : Int32)] [(.int (1 : Int32))]))
      exact own_retZ X205 hx hk hrt (hb hby at_804) ⟨rfl, M205⟩ (by decide) (by decide)
    · skip
      show OwnGo _ _ _ _ (T125.setTop (mkF m 212 #[sI p0, sI p1, sI p2, sI p3, sJ p4, uS, sI p5, sJ y0, uS, sJ y1, uS, sJ y2, uS, sJ y3, uS, sJ y4, uS, sJ y5, uS, sI (2 : Int32), sI (1 : Int32), sR a105, sR a114, sR a117, sR a120, sR a123, sR a105, sR a105, sR a105, sR a105, sI (0 : Int32), sI (1 : Int32), sI (2 : Int32), sI (3 : Int32), uU, uU, uU, uU, uU, uU, uU, uU, uU, uU, uU, uU, uU, uU, uU, uU, uU, uU, uU, uU, uU] [(.int (1 : Int32)), (.int (2 : Int32))]))
      refine OwnGo.pre (fun t k => XS.icmpYes X125.here hx rfl (pc0 := 212) (pc' := 232) rfl (hb hby at_212) rfl (by decide) (by decide) (by decide) (XS.iload X125.here hx rfl (hb hby at_232) rfl (XS.iconst X125.here hx rfl (hb hby at_234) (XS.icmpNo X125.here hx rfl (hb hby at_235) rfl (by decide) (XS.aload X125.here hx rfl (hb hby at_238) rfl rfl (XS.astore X125.here hx rfl (hb hby at_240) rfl rfl (l' := #[sI p0, sI p1, sI p2, sI p3, sJ p4, uS, sI p5, sJ y0, uS, sJ y1, uS, sJ y2, uS, sJ y3, uS, sJ y4, uS, sJ y5, uS, sI (2 : Int32), sI (1 : Int32), sR a105, sR a114, sR a117, sR a120, sR a123, sR a114, sR a105, sR a105, sR a105, sI (0 : Int32), sI (1 : Int32), sI (2 : Int32), sI (3 : Int32), uU, uU, uU, uU, uU, uU, uU, uU, uU, uU, uU, uU, uU, uU, uU, uU, uU, uU, uU, uU, uU]) rfl (XS.aload X125.here hx rfl (hb hby at_242) rfl rfl (XS.astore X125.here hx rfl (hb hby at_244) rfl rfl (l' := #[sI p0, sI p1, sI p2, sI p3, sJ p4, uS, sI p5, sJ y0, uS, sJ y1, uS, sJ y2, uS, sJ y3, uS, sJ y4, uS, sJ y5, uS, sI (2 : Int32), sI (1 : Int32), sR a105, sR a114, sR a117, sR a120, sR a123, sR a114, sR a117, sR a105, sR a105, sI (0 : Int32), sI (1 : Int32), sI (2 : Int32), sI (3 : Int32), uU, uU, uU, uU, uU, uU, uU, uU, uU, uU, uU, uU, uU, uU, uU, uU, uU, uU, uU, uU, uU]) rfl k)))))))) ?_
      show OwnGo _ _ _ _ (T125.setTop (mkF m 246 #[sI p0, sI p1, sI p2, sI p3, sJ p4, uS, sI p5, sJ y0, uS, sJ y1, uS, sJ y2, uS, sJ y3, uS, sJ y4, uS, sJ y5, uS, sI (2 : Int32), sI (1 : Int32), sR a105, sR a114, sR a117, sR a120, sR a123, sR a114, sR a117, sR a105, sR a105, sI (0 : Int32), sI (1 : Int32), sI (2 : Int32), sI (3 : Int32), uU, uU, uU, uU, uU, uU, uU, uU, uU, uU, uU, uU, uU, uU, uU, uU, uU, uU, uU, uU, uU] []))
      refine OwnGo.pre (fun t k => XS.aload X125.here hx rfl (hb hby at_246) rfl rfl (XS.astore X125.here hx rfl (hb hby at_248) rfl rfl (l' := #[sI p0, sI p1, sI p2, sI p3, sJ p4, uS, sI p5, sJ y0, uS, sJ y1, uS, sJ y2, uS, sJ y3, uS, sJ y4, uS, sJ y5, uS, sI (2 : Int32), sI (1 : Int32), sR a105, sR a114, sR a117, sR a120, sR a123, sR a114, sR a117, sR a120, sR a105, sI (0 : Int32), sI (1 : Int32), sI (2 : Int32), sI (3 : Int32), uU, uU, uU, uU, uU, uU, uU, uU, uU, uU, uU, uU, uU, uU, uU, uU, uU, uU, uU, uU, uU]) rfl (XS.aload X125.here hx rfl (hb hby at_250) rfl rfl (XS.astore X125.here hx rfl (hb hby at_252) rfl rfl (l' := #[sI p0, sI p1, sI p2, sI p3, sJ p4, uS, sI p5, sJ y0, uS, sJ y1, uS, sJ y2, uS, sJ y3, uS, sJ y4, uS, sJ y5, uS, sI (2 : Int32), sI (1 : Int32), sR a105, sR a114, sR a117, sR a120, sR a123, sR a114, sR a117, sR a120, sR a123, sI (0 : Int32), sI (1 : Int32), sI (2 : Int32), sI (3 : Int32), uU, uU, uU, uU, uU, uU, uU, uU, uU, uU, uU, uU, uU, uU, uU, uU, uU, uU, uU, uU, uU]) rfl (XS.iload X125.here hx rfl (hb hby at_254) rfl (XS.istore X125.here hx rfl (hb hby at_256) rfl (l' := #[sI p0, sI p1, sI p2, sI p3, sJ p4, uS, sI p5, sJ y0, uS, sJ y1, uS, sJ y2, uS, sJ y3, uS, sJ y4, uS, sJ y5, uS, sI (2 : Int32), sI (1 : Int32), sR a105, sR a114, sR a117, sR a120, sR a123, sR a114, sR a117, sR a120, sR a123, sI (1 : Int32), sI (1 : Int32), sI (2 : Int32), sI (3 : Int32), uU, uU, uU, uU, uU, uU, uU, uU, uU, uU, uU, uU, uU, uU, uU, uU, uU, uU, uU, uU, uU]) rfl (XS.iload X125.here hx rfl (hb hby at_258) rfl (XS.istore X125.here hx rfl (hb hby at_260) rfl (l' := #[sI p0, sI p1, sI p2, sI p3, sJ p4, uS, sI p5, sJ y0, uS, sJ y1, uS, sJ y2, uS, sJ y3, uS, sJ y4, uS, sJ y5, uS, sI (2 : Int32), sI (1 : Int32), sR a105, sR a114, sR a117, sR a120, sR a123, sR a114, sR a117, sR a120, sR a123, sI (1 : Int32), sI (1 : Int32), sI (2 : Int32), sI (3 : Int32), uU, uU, uU, uU, uU, uU, uU, uU, uU, uU, uU, uU, uU, uU, uU, uU, uU, uU, uU, uU, uU]) rfl k)))))))) ?_
      show OwnGo _ _ _ _ (T125.setTop (mkF m 262 #[sI p0, sI p1, sI p2, sI p3, sJ p4, uS, sI p5, sJ y0, uS, sJ y1, uS, sJ y2, uS, sJ y3, uS, sJ y4, uS, sJ y5, uS, sI (2 : Int32), sI (1 : Int32), sR a105, sR a114, sR a117, sR a120, sR a123, sR a114, sR a117, sR a120, sR a123, sI (1 : Int32), sI (1 : Int32), sI (2 : Int32), sI (3 : Int32), uU, uU, uU, uU, uU, uU, uU, uU, uU, uU, uU, uU, uU, uU, uU, uU, uU, uU, uU, uU, uU] []))
      refine OwnGo.pre (fun t k => XS.iload X125.here hx rfl (hb hby at_262) rfl (XS.istore X125.here hx rfl (hb hby at_264) rfl (l' := #[sI p0, sI p1, sI p2, sI p3, sJ p4, uS, sI p5, sJ y0, uS, sJ y1, uS, sJ y2, uS, sJ y3, uS, sJ y4, uS, sJ y5, uS, sI (2 : Int32), sI (1 : Int32), sR a105, sR a114, sR a117, sR a120, sR a123, sR a114, sR a117, sR a120, sR a123, sI (1 : Int32), sI (1 : Int32), sI (1 : Int32), sI (3 : Int32), uU, uU, uU, uU, uU, uU, uU, uU, uU, uU, uU, uU, uU, uU, uU, uU, uU, uU, uU, uU, uU]) rfl (XS.iload X125.here hx rfl (hb hby at_266) rfl (XS.istore X125.here hx rfl (hb hby at_268) rfl (l' := #[sI p0, sI p1, sI p2, sI p3, sJ p4, uS, sI p5, sJ y0, uS, sJ y1, uS, sJ y2, uS, sJ y3, uS, sJ y4, uS, sJ y5, uS, sI (2 : Int32), sI (1 : Int32), sR a105, sR a114, sR a117, sR a120, sR a123, sR a114, sR a117, sR a120, sR a123, sI (1 : Int32), sI (1 : Int32), sI (1 : Int32), sI (1 : Int32), uU, uU, uU, uU, uU, uU, uU, uU, uU, uU, uU, uU, uU, uU, uU, uU, uU, uU, uU, uU, uU]) rfl (XS.goto X125.here hx rfl (pc0 := 270) (pc' := 293) rfl (hb hby at_270) (by decide) (by decide) (XS.aload X125.here hx rfl (hb hby at_293) rfl rfl (XS.iload X125.here hx rfl (hb hby at_295) rfl (XT.lload X125.here hx rfl (hb hby at_297) rfl k)))))))) ?_
      show OwnGo _ _ _ _ (T125.setTop (mkF m 299 #[sI p0, sI p1, sI p2, sI p3, sJ p4, uS, sI p5, sJ y0, uS, sJ y1, uS, sJ y2, uS, sJ y3, uS, sJ y4, uS, sJ y5, uS, sI (2 : Int32), sI (1 : Int32), sR a105, sR a114, sR a117, sR a120, sR a123, sR a114, sR a117, sR a120, sR a123, sI (1 : Int32), sI (1 : Int32), sI (1 : Int32), sI (1 : Int32), uU, uU, uU, uU, uU, uU, uU, uU, uU, uU, uU, uU, uU, uU, uU, uU, uU, uU, uU, uU, uU] [(.long y0), (.int (1 : Int32)), (.ref a114)]))
      obtain ⟨d210, hd210⟩ : ∃ v, FP.l2d y0 = v := ⟨_, rfl⟩
      have D210 : OwnDS 0 jy0 d210 := by rw [← hd210]; exact own_l2db Fy0 by0 (by decide)
      refine OwnGo.pre (fun t k => XS.l2dS X125.here hx rfl (hb hby at_299) rfl hd210 k) ?_
      show OwnGo _ _ _ _ (T125.setTop (mkF m 300 #[sI p0, sI p1, sI p2, sI p3, sJ p4, uS, sI p5, sJ y0, uS, sJ y1, uS, sJ y2, uS, sJ y3, uS, sJ y4, uS, sJ y5, uS, sI (2 : Int32), sI (1 : Int32), sR a105, sR a114, sR a117, sR a120, sR a123, sR a114, sR a117, sR a120, sR a123, sI (1 : Int32), sI (1 : Int32), sI (1 : Int32), sI (1 : Int32), uU, uU, uU, uU, uU, uU, uU, uU, uU, uU, uU, uU, uU, uU, uU, uU, uU, uU, uU, uU, uU] [(.double d210), (.int (1 : Int32)), (.ref a114)]))
      obtain ⟨T211, h211, X211, e211, W211, A211, st211⟩ := own_daS X125 hx hZ e125 A125_a114 (by decide) (i := 1) (by decide) (by show 1 < 2; decide) (g := (mkF m 300 #[sI p0, sI p1, sI p2, sI p3, sJ p4, uS, sI p5, sJ y0, uS, sJ y1, uS, sJ y2, uS, sJ y3, uS, sJ y4, uS, sJ y5, uS, sI (2 : Int32), sI (1 : Int32), sR a105, sR a114, sR a117, sR a120, sR a123, sR a114, sR a117, sR a120, sR a123, sI (1 : Int32), sI (1 : Int32), sI (1 : Int32), sI (1 : Int32), uU, uU, uU, uU, uU, uU, uU, uU, uU, uU, uU, uU, uU, uU, uU, uU, uU, uU, uU, uU, uU] [(.double d210), (.int (1 : Int32)), (.ref a114)])) rfl rfl (hb hby at_300)
      have A211n : OwnDA Z h211 a114 [(4602678819172646912 : UInt64), d210] := A211
      have A211_a105 := A125_a105.ot W211 nea105_114
      have A211_a117 := A125_a117.ot W211 nea114_117.symm
      have A211_a120 := A125_a120.ot W211 nea114_120.symm
      have A211_a123 := A125n.ot W211 nea114_123.symm
      have N211 := Fr.snoc X211 N125 G114
      have Z211 : n0 ≤ h211.size := by rw [W211.size]; exact Z125
      refine OwnGo.pre (fun t k => st211 t k) ?_
      show OwnGo _ _ _ _ (T211.setTop (mkF m 301 #[sI p0, sI p1, sI p2, sI p3, sJ p4, uS, sI p5, sJ y0, uS, sJ y1, uS, sJ y2, uS, sJ y3, uS, sJ y4, uS, sJ y5, uS, sI (2 : Int32), sI (1 : Int32), sR a105, sR a114, sR a117, sR a120, sR a123, sR a114, sR a117, sR a120, sR a123, sI (1 : Int32), sI (1 : Int32), sI (1 : Int32), sI (1 : Int32), uU, uU, uU, uU, uU, uU, uU, uU, uU, uU, uU, uU, uU, uU, uU, uU, uU, uU, uU, uU, uU] []))
      obtain ⟨d212, hd212⟩ : ∃ v, FP.l2d y1 = v := ⟨_, rfl⟩
      have D212 : OwnDS 0 jy1 d212 := by rw [← hd212]; exact own_l2db Fy1 by1 (by decide)
      refine OwnGo.pre (fun t k => XS.aload X211.here hx rfl (hb hby at_301) rfl rfl (XS.iload X211.here hx rfl (hb hby at_303) rfl (XT.lload X211.here hx rfl (hb hby at_305) rfl (XS.l2dS X211.here hx rfl (hb hby at_307) rfl hd212 k)))) ?_
      show OwnGo _ _ _ _ (T211.setTop (mkF m 308 #[sI p0, sI p1, sI p2, sI p3, sJ p4, uS, sI p5, sJ y0, uS, sJ y1, uS, sJ y2, uS, sJ y3, uS, sJ y4, uS, sJ y5, uS, sI (2 : Int32), sI (1 : Int32), sR a105, sR a114, sR a117, sR a120, sR a123, sR a114, sR a117, sR a120, sR a123, sI (1 : Int32), sI (1 : Int32), sI (1 : Int32), sI (1 : Int32), uU, uU, uU, uU, uU, uU, uU, uU, uU, uU, uU, uU, uU, uU, uU, uU, uU, uU, uU, uU, uU] [(.double d212), (.int (1 : Int32)), (.ref a117)]))
      obtain ⟨T213, h213, X213, e213, W213, A213, st213⟩ := own_daS X211 hx hZ e211 A211_a117 (by decide) (i := 1) (by decide) (by show 1 < 2; decide) (g := (mkF m 308 #[sI p0, sI p1, sI p2, sI p3, sJ p4, uS, sI p5, sJ y0, uS, sJ y1, uS, sJ y2, uS, sJ y3, uS, sJ y4, uS, sJ y5, uS, sI (2 : Int32), sI (1 : Int32), sR a105, sR a114, sR a117, sR a120, sR a123, sR a114, sR a117, sR a120, sR a123, sI (1 : Int32), sI (1 : Int32), sI (1 : Int32), sI (1 : Int32), uU, uU, uU, uU, uU, uU, uU, uU, uU, uU, uU, uU, uU, uU, uU, uU, uU, uU, uU, uU, uU] [(.double d212), (.int (1 : Int32)), (.ref a117)])) rfl rfl (hb hby at_308)
      have A213n : OwnDA Z h213 a117 [(4602678819172646912 : UInt64), d212] := A213
      have A213_a105 := A211_a105.ot W213 nea105_117
      have A213_a114 := A211n.ot W213 nea114_117
      have A213_a120 := A211_a120.ot W213 nea117_120.symm
      have A213_a123 := A211_a123.ot W213 nea117_123.symm
      have N213 := Fr.snoc X213 N211 G117
      have Z213 : n0 ≤ h213.size := by rw [W213.size]; exact Z211
      refine OwnGo.pre (fun t k => st213 t k) ?_
      show OwnGo _ _ _ _ (T213.setTop (mkF m 309 #[sI p0, sI p1, sI p2, sI p3, sJ p4, uS, sI p5, sJ y0, uS, sJ y1, uS, sJ y2, uS, sJ y3, uS, sJ y4, uS, sJ y5, uS, sI (2 : Int32), sI (1 : Int32), sR a105, sR a114, sR a117, sR a120, sR a123, sR a114, sR a117, sR a120, sR a123, sI (1 : Int32), sI (1 : Int32), sI (1 : Int32), sI (1 : Int32), uU, uU, uU, uU, uU, uU, uU, uU, uU, uU, uU, uU, uU, uU, uU, uU, uU, uU, uU, uU, uU] []))
      obtain ⟨d214, hd214⟩ : ∃ v, FP.l2d y2 = v := ⟨_, rfl⟩
      have D214 : OwnDS 0 jy2 d214 := by rw [← hd214]; exact own_l2db Fy2 by2 (by decide)
      refine OwnGo.pre (fun t k => XS.aload X213.here hx rfl (hb hby at_309) rfl rfl (XS.iload X213.here hx rfl (hb hby at_311) rfl (XT.lload X213.here hx rfl (hb hby at_313) rfl (XS.l2dS X213.here hx rfl (hb hby at_315) rfl hd214 k)))) ?_
      show OwnGo _ _ _ _ (T213.setTop (mkF m 316 #[sI p0, sI p1, sI p2, sI p3, sJ p4, uS, sI p5, sJ y0, uS, sJ y1, uS, sJ y2, uS, sJ y3, uS, sJ y4, uS, sJ y5, uS, sI (2 : Int32), sI (1 : Int32), sR a105, sR a114, sR a117, sR a120, sR a123, sR a114, sR a117, sR a120, sR a123, sI (1 : Int32), sI (1 : Int32), sI (1 : Int32), sI (1 : Int32), uU, uU, uU, uU, uU, uU, uU, uU, uU, uU, uU, uU, uU, uU, uU, uU, uU, uU, uU, uU, uU] [(.double d214), (.int (1 : Int32)), (.ref a120)]))
      obtain ⟨T215, h215, X215, e215, W215, A215, st215⟩ := own_daS X213 hx hZ e213 A213_a120 (by decide) (i := 1) (by decide) (by show 1 < 2; decide) (g := (mkF m 316 #[sI p0, sI p1, sI p2, sI p3, sJ p4, uS, sI p5, sJ y0, uS, sJ y1, uS, sJ y2, uS, sJ y3, uS, sJ y4, uS, sJ y5, uS, sI (2 : Int32), sI (1 : Int32), sR a105, sR a114, sR a117, sR a120, sR a123, sR a114, sR a117, sR a120, sR a123, sI (1 : Int32), sI (1 : Int32), sI (1 : Int32), sI (1 : Int32), uU, uU, uU, uU, uU, uU, uU, uU, uU, uU, uU, uU, uU, uU, uU, uU, uU, uU, uU, uU, uU] [(.double d214), (.int (1 : Int32)), (.ref a120)])) rfl rfl (hb hby at_316)
      have A215n : OwnDA Z h215 a120 [(4602678819172646912 : UInt64), d214] := A215
      have A215_a105 := A213_a105.ot W215 nea105_120
      have A215_a114 := A213_a114.ot W215 nea114_120
      have A215_a117 := A213n.ot W215 nea117_120
      have A215_a123 := A213_a123.ot W215 nea120_123.symm
      have N215 := Fr.snoc X215 N213 G120
      have Z215 : n0 ≤ h215.size := by rw [W215.size]; exact Z213
      refine OwnGo.pre (fun t k => st215 t k) ?_
      show OwnGo _ _ _ _ (T215.setTop (mkF m 317 #[sI p0, sI p1, sI p2, sI p3, sJ p4, uS, sI p5, sJ y0, uS, sJ y1, uS, sJ y2, uS, sJ y3, uS, sJ y4, uS, sJ y5, uS, sI (2 : Int32), sI (1 : Int32), sR a105, sR a114, sR a117, sR a120, sR a123, sR a114, sR a117, sR a120, sR a123, sI (1 : Int32), sI (1 : Int32), sI (1 : Int32), sI (1 : Int32), uU, uU, uU, uU, uU, uU, uU, uU, uU, uU, uU, uU, uU, uU, uU, uU, uU, uU, uU, uU, uU] []))
      obtain ⟨d216, hd216⟩ : ∃ v, FP.l2d y3 = v := ⟨_, rfl⟩
      have D216 : OwnDS 0 jy3 d216 := by rw [← hd216]; exact own_l2db Fy3 by3 (by decide)
      refine OwnGo.pre (fun t k => XS.aload X215.here hx rfl (hb hby at_317) rfl rfl (XS.iload X215.here hx rfl (hb hby at_319) rfl (XT.lload X215.here hx rfl (hb hby at_321) rfl (XS.l2dS X215.here hx rfl (hb hby at_323) rfl hd216 k)))) ?_
      show OwnGo _ _ _ _ (T215.setTop (mkF m 324 #[sI p0, sI p1, sI p2, sI p3, sJ p4, uS, sI p5, sJ y0, uS, sJ y1, uS, sJ y2, uS, sJ y3, uS, sJ y4, uS, sJ y5, uS, sI (2 : Int32), sI (1 : Int32), sR a105, sR a114, sR a117, sR a120, sR a123, sR a114, sR a117, sR a120, sR a123, sI (1 : Int32), sI (1 : Int32), sI (1 : Int32), sI (1 : Int32), uU, uU, uU, uU, uU, uU, uU, uU, uU, uU, uU, uU, uU, uU, uU, uU, uU, uU, uU, uU, uU] [(.double d216), (.int (1 : Int32)), (.ref a123)]))
      obtain ⟨T217, h217, X217, e217, W217, A217, st217⟩ := own_daS X215 hx hZ e215 A215_a123 (by decide) (i := 1) (by decide) (by show 1 < 2; decide) (g := (mkF m 324 #[sI p0, sI p1, sI p2, sI p3, sJ p4, uS, sI p5, sJ y0, uS, sJ y1, uS, sJ y2, uS, sJ y3, uS, sJ y4, uS, sJ y5, uS, sI (2 : Int32), sI (1 : Int32), sR a105, sR a114, sR a117, sR a120, sR a123, sR a114, sR a117, sR a120, sR a123, sI (1 : Int32), sI (1 : Int32), sI (1 : Int32), sI (1 : Int32), uU, uU, uU, uU, uU, uU, uU, uU, uU, uU, uU, uU, uU, uU, uU, uU, uU, uU, uU, uU, uU] [(.double d216), (.int (1 : Int32)), (.ref a123)])) rfl rfl (hb hby at_324)
      have A217n : OwnDA Z h217 a123 [(4602678819172646912 : UInt64), d216] := A217
      have A217_a105 := A215_a105.ot W217 nea105_123
      have A217_a114 := A215_a114.ot W217 nea114_123
      have A217_a117 := A215_a117.ot W217 nea117_123
      have A217_a120 := A215n.ot W217 nea120_123
      have N217 := Fr.snoc X217 N215 G123
      have Z217 : n0 ≤ h217.size := by rw [W217.size]; exact Z215
      refine OwnGo.pre (fun t k => st217 t k) ?_
      show OwnGo _ _ _ _ (T217.setTop (mkF m 325 #[sI p0, sI p1, sI p2, sI p3, sJ p4, uS, sI p5, sJ y0, uS, sJ y1, uS, sJ y2, uS, sJ y3, uS, sJ y4, uS, sJ y5, uS, sI (2 : Int32), sI (1 : Int32), sR a105, sR a114, sR a117, sR a120, sR a123, sR a114, sR a117, sR a120, sR a123, sI (1 : Int32), sI (1 : Int32), sI (1 : Int32), sI (1 : Int32), uU, uU, uU, uU, uU, uU, uU, uU, uU, uU, uU, uU, uU, uU, uU, uU, uU, uU, uU, uU, uU] []))
      refine OwnGo.pre (fun t k => XS.aload X217.here hx rfl (hb hby at_325) rfl rfl (XS.iload X217.here hx rfl (hb hby at_327) rfl (XS.aload X217.here hx rfl (hb hby at_329) rfl rfl (XS.iload X217.here hx rfl (hb hby at_331) rfl (XS.aload X217.here hx rfl (hb hby at_333) rfl rfl (XS.iload X217.here hx rfl (hb hby at_335) rfl (XS.aload X217.here hx rfl (hb hby at_337) rfl rfl (XS.iload X217.here hx rfl (hb hby at_339) rfl k)))))))) ?_
      show OwnGo _ _ _ _ (T217.setTop (mkF m 341 #[sI p0, sI p1, sI p2, sI p3, sJ p4, uS, sI p5, sJ y0, uS, sJ y1, uS, sJ y2, uS, sJ y3, uS, sJ y4, uS, sJ y5, uS, sI (2 : Int32), sI (1 : Int32), sR a105, sR a114, sR a117, sR a120, sR a123, sR a114, sR a117, sR a120, sR a123, sI (1 : Int32), sI (1 : Int32), sI (1 : Int32), sI (1 : Int32), uU, uU, uU, uU, uU, uU, uU, uU, uU, uU, uU, uU, uU, uU, uU, uU, uU, uU, uU, uU, uU] [(.int (1 : Int32)), (.ref a123), (.int (1 : Int32)), (.ref a120), (.int (1 : Int32)), (.ref a117), (.int (1 : Int32)), (.ref a114)]))
      obtain ⟨d218, hd218⟩ : ∃ v, FP.l2d y4 = v := ⟨_, rfl⟩
      have D218 : OwnDS 0 jy4 d218 := by rw [← hd218]; exact own_l2db Fy4 by4 (by decide)
      obtain ⟨d219, hd219⟩ : ∃ v, FP.l2d y5 = v := ⟨_, rfl⟩
      have D219 : OwnDS 0 jy5 d219 := by rw [← hd219]; exact own_l2db Fy5 by5 (by decide)
      refine OwnGo.pre (fun t k => XT.lload X217.here hx rfl (hb hby at_341) rfl (XS.l2dS X217.here hx rfl (hb hby at_343) rfl hd218 (XT.lload X217.here hx rfl (hb hby at_344) rfl (XS.l2dS X217.here hx rfl (hb hby at_346) rfl hd219 k)))) ?_
      show OwnGo _ _ _ _ (T217.setTop (mkF m 347 #[sI p0, sI p1, sI p2, sI p3, sJ p4, uS, sI p5, sJ y0, uS, sJ y1, uS, sJ y2, uS, sJ y3, uS, sJ y4, uS, sJ y5, uS, sI (2 : Int32), sI (1 : Int32), sR a105, sR a114, sR a117, sR a120, sR a123, sR a114, sR a117, sR a120, sR a123, sI (1 : Int32), sI (1 : Int32), sI (1 : Int32), sI (1 : Int32), uU, uU, uU, uU, uU, uU, uU, uU, uU, uU, uU, uU, uU, uU, uU, uU, uU, uU, uU, uU, uU] [(.double d219), (.double d218), (.int (1 : Int32)), (.ref a123), (.int (1 : Int32)), (.ref a120), (.int (1 : Int32)), (.ref a117), (.int (1 : Int32)), (.ref a114)]))
      obtain ⟨_, _, ⟨T220, L220, k220, n220⟩, -, X220, ⟨Lc220, hQ220, l220, y220, z220⟩, st220⟩ := Jvm.LawKit.callS X217 hx (y := (⟨"com/example/isochron/isochron/dsp/Fourier", "join", "([DI[DI[DI[DIDD)V"⟩ : MethodName)) hown (mvT hZ (hw _ (List.mem_of_getElem? (i := 6) rfl))) (mvT hZ (hw _ (List.mem_of_getElem? (i := 7) rfl))) (mvT hZ (hw _ (List.mem_of_getElem? (i := 8) rfl))) (mvT hZ (hw _ (List.mem_of_getElem? (i := 9) rfl))) (by decide) (backOf (W := 0) (rm := ({ frames := 0, cells := 0, slots := 0, locals := 0 } : Room)) (Q := Q_rmK2_1 Z a114 a117 a120 a123 (4602678819172646912 : UInt64) d210 (4602678819172646912 : UInt64) d212 (4602678819172646912 : UInt64) d214 (4602678819172646912 : UInt64) d216 d218 d219 jy0 jy1 jy2 jy3 jy4 jy5 h217 n0) (rmK2_1 l Z a0 hw [] a114 a117 a120 a123 (4602678819172646912 : UInt64) d210 (4602678819172646912 : UInt64) d212 (4602678819172646912 : UInt64) d214 (4602678819172646912 : UInt64) d216 d218 d219 jy0 jy1 jy2 jy3 jy4 jy5 h217 n0 Z217 A217_a114 A217_a117 A217_a120 A217n nea114_117 nea114_120 nea114_123 nea117_120 nea117_123 nea120_123 G114 G117 G120 G123 D210 by0 D212 by1 D214 by2 D216 by3 D218 by4 D219 by5) hZ (hw _ (List.mem_of_getElem? (i := 9) rfl)) (hw _ (List.mem_of_getElem? (i := 8) rfl)) (by decide) (by decide)) (g := (mkF m 347 #[sI p0, sI p1, sI p2, sI p3, sJ p4, uS, sI p5, sJ y0, uS, sJ y1, uS, sJ y2, uS, sJ y3, uS, sJ y4, uS, sJ y5, uS, sI (2 : Int32), sI (1 : Int32), sR a105, sR a114, sR a117, sR a120, sR a123, sR a114, sR a117, sR a120, sR a123, sI (1 : Int32), sI (1 : Int32), sI (1 : Int32), sI (1 : Int32), uU, uU, uU, uU, uU, uU, uU, uU, uU, uU, uU, uU, uU, uU, uU, uU, uU, uU, uU, uU, uU] [(.double d219), (.double d218), (.int (1 : Int32)), (.ref a123), (.int (1 : Int32)), (.ref a120), (.int (1 : Int32)), (.ref a117), (.int (1 : Int32)), (.ref a114)])) rfl (by rw [hml]; rfl) (argsL := [(.ref a114), (.int (1 : Int32)), (.ref a117), (.int (1 : Int32)), (.ref a120), (.int (1 : Int32)), (.ref a123), (.int (1 : Int32)), (.double d218), (.double d219)]) (rest := []) (lenOf pd_rmK2_1 rfl) rfl (by show 2 * 0 + _ ≤ _; exact Nat.le_of_eq rfl) (hb hby at_347) (fun _ _ => ⟨rfl, e217, (by decide : 5 + 0 ≤ _), (by decide : 16 + 0 ≤ _)⟩)
      dsimp only [Pt.U, Pt.locs, Pt.cells, Pt.slots] at X220 l220 y220 z220 st220 hQ220
      replace l220 := l220.symm
      replace y220 := y220.symm
      replace z220 := z220.symm
      subst l220 y220 z220
      obtain ⟨ro0_1z, ro1_1z, ro2_1z, ro3_1z, rfl, Hro0_1z, Bjro0_1z, Hro1_1z, Bjro1_1z, Hro2_1z, Bjro2_1z, Hro3_1z, Bjro3_1z, AFo0z, AFo1z, AFo2z, AFo3z, KF220, N220, Z220⟩ := hQ220
      refine OwnGo.pre (fun t k => st220 t k) ?_
      show OwnGo _ _ _ _ (T220.setTop (mkF m 350 #[sI p0, sI p1, sI p2, sI p3, sJ p4, uS, sI p5, sJ y0, uS, sJ y1, uS, sJ y2, uS, sJ y3, uS, sJ y4, uS, sJ y5, uS, sI (2 : Int32), sI (1 : Int32), sR a105, sR a114, sR a117, sR a120, sR a123, sR a114, sR a117, sR a120, sR a123, sI (1 : Int32), sI (1 : Int32), sI (1 : Int32), sI (1 : Int32), uU, uU, uU, uU, uU, uU, uU, uU, uU, uU, uU, uU, uU, uU, uU, uU, uU, uU, uU, uU, uU] []))
      have M220 := Fr.app N217 N220
      have A220_a105 := A217_a105.kp KF220 (ninS nea105_114 (ninS nea105_117 (ninS nea105_120 (ninS nea105_123 nin0))))
      obtain ⟨jro0_1z, hjro0_1z⟩ : ∃ i : Int, i = ((jy0 + jy2) - (((jy0 - jy2) * jy5) + ((jy1 + jy3) * jy4))) := ⟨_, rfl⟩
      rw [← hjro0_1z] at Hro0_1z Bjro0_1z
      obtain ⟨jro1_1z, hjro1_1z⟩ : ∃ i : Int, i = ((jy1 - jy3) + (((jy0 - jy2) * jy4) - ((jy1 + jy3) * jy5))) := ⟨_, rfl⟩
      rw [← hjro1_1z] at Hro1_1z Bjro1_1z
      obtain ⟨jro2_1z, hjro2_1z⟩ : ∃ i : Int, i = ((jy0 + jy2) + (((jy0 - jy2) * jy5) + ((jy1 + jy3) * jy4))) := ⟨_, rfl⟩
      rw [← hjro2_1z] at Hro2_1z Bjro2_1z
      obtain ⟨jro3_1z, hjro3_1z⟩ : ∃ i : Int, i = ((((jy0 - jy2) * jy4) - ((jy1 + jy3) * jy5)) - (jy1 - jy3)) := ⟨_, rfl⟩
      rw [← hjro3_1z] at Hro3_1z Bjro3_1z
      obtain ⟨v221, hv221⟩ : ∃ v, y0 + y2 = v := ⟨_, rfl⟩
      obtain ⟨j221, hj221⟩ : ∃ i : Int, i = jy0 + jy2 := ⟨_, rfl⟩
      have B221 : -16777216 ≤ j221 ∧ j221 ≤ 16777216 := by rw [hj221]; exact own_bd_add by0 by2 (by decide)
      have F221 : v221.toInt = j221 := own_lf_add hv221 Fy0 Fy2 by0 by2 (by decide) hj221
      obtain ⟨v222, hv222⟩ : ∃ v, y1 - y3 = v := ⟨_, rfl⟩
      obtain ⟨j222, hj222⟩ : ∃ i : Int, i = jy1 - jy3 := ⟨_, rfl⟩
      have B222 : -16777216 ≤ j222 ∧ j222 ≤ 16777216 := by rw [hj222]; exact own_bd_sub by1 by3 (by decide)
      have F222 : v222.toInt = j222 := own_lf_sub hv222 Fy1 Fy3 by1 by3 (by decide) hj222
      refine OwnGo.pre (fun t k => XT.lload X220.here hx rfl (hb hby at_350) rfl (XT.lload X220.here hx rfl (hb hby at_352) rfl (own_ladd X220.here hx rfl (hb hby at_354) rfl hv221 (XT.lstore X220.here hx rfl (hb hby at_355) rfl (l' := #[sI p0, sI p1, sI p2, sI p3, sJ p4, uS, sI p5, sJ y0, uS, sJ y1, uS, sJ y2, uS, sJ y3, uS, sJ y4, uS, sJ y5, uS, sI (2 : Int32), sI (1 : Int32), sR a105, sR a114, sR a117, sR a120, sR a123, sR a114, sR a117, sR a120, sR a123, sI (1 : Int32), sI (1 : Int32), sI (1 : Int32), sI (1 : Int32), sJ v221, uS, uU, uU, uU, uU, uU, uU, uU, uU, uU, uU, uU, uU, uU, uU, uU, uU, uU, uU, uU]) rfl (XT.lload X220.here hx rfl (hb hby at_357) rfl (XT.lload X220.here hx rfl (hb hby at_359) rfl (own_lsub X220.here hx rfl (hb hby at_361) rfl hv222 (XT.lstore X220.here hx rfl (hb hby at_362) rfl (l' := #[sI p0, sI p1, sI p2, sI p3, sJ p4, uS, sI p5, sJ y0, uS, sJ y1, uS, sJ y2, uS, sJ y3, uS, sJ y4, uS, sJ y5, uS, sI (2 : Int32), sI (1 : Int32), sR a105, sR a114, sR a117, sR a120, sR a123, sR a114, sR a117, sR a120, sR a123, sI (1 : Int32), sI (1 : Int32), sI (1 : Int32), sI (1 : Int32), sJ v221, uS, sJ v222, uS, uU, uU, uU, uU, uU, uU, uU, uU, uU, uU, uU, uU, uU, uU, uU, uU, uU]) rfl k)))))))) ?_
      show OwnGo _ _ _ _ (T220.setTop (mkF m 364 #[sI p0, sI p1, sI p2, sI p3, sJ p4, uS, sI p5, sJ y0, uS, sJ y1, uS, sJ y2, uS, sJ y3, uS, sJ y4, uS, sJ y5, uS, sI (2 : Int32), sI (1 : Int32), sR a105, sR a114, sR a117, sR a120, sR a123, sR a114, sR a117, sR a120, sR a123, sI (1 : Int32), sI (1 : Int32), sI (1 : Int32), sI (1 : Int32), sJ v221, uS, sJ v222, uS, uU, uU, uU, uU, uU, uU, uU, uU, uU, uU, uU, uU, uU, uU, uU, uU, uU] []))
      obtain ⟨v223, hv223⟩ : ∃ v, y0 - y2 = v := ⟨_, rfl⟩
      obtain ⟨j223, hj223⟩ : ∃ i : Int, i = jy0 - jy2 := ⟨_, rfl⟩
      have B223 : -16777216 ≤ j223 ∧ j223 ≤ 16777216 := by rw [hj223]; exact own_bd_sub by0 by2 (by decide)
      have F223 : v223.toInt = j223 := own_lf_sub hv223 Fy0 Fy2 by0 by2 (by decide) hj223
      obtain ⟨v224, hv224⟩ : ∃ v, y1 + y3 = v := ⟨_, rfl⟩
      obtain ⟨j224, hj224⟩ : ∃ i : Int, i = jy1 + jy3 := ⟨_, rfl⟩
      have B224 : -16777216 ≤ j224 ∧ j224 ≤ 16777216 := by rw [hj224]; exact own_bd_add by1 by3 (by decide)
      have F224 : v224.toInt = j224 := own_lf_add hv224 Fy1 Fy3 by1 by3 (by decide) hj224
      refine OwnGo.pre (fun t k => XT.lload X220.here hx rfl (hb hby at_364) rfl (XT.lload X220.here hx rfl (hb hby at_366) rfl (own_lsub X220.here hx rfl (hb hby at_368) rfl hv223 (XT.lstore X220.here hx rfl (hb hby at_369) rfl (l' := #[sI p0, sI p1, sI p2, sI p3, sJ p4, uS, sI p5, sJ y0, uS, sJ y1, uS, sJ y2, uS, sJ y3, uS, sJ y4, uS, sJ y5, uS, sI (2 : Int32), sI (1 : Int32), sR a105, sR a114, sR a117, sR a120, sR a123, sR a114, sR a117, sR a120, sR a123, sI (1 : Int32), sI (1 : Int32), sI (1 : Int32), sI (1 : Int32), sJ v221, uS, sJ v222, uS, sJ v223, uS, uU, uU, uU, uU, uU, uU, uU, uU, uU, uU, uU, uU, uU, uU, uU]) rfl (XT.lload X220.here hx rfl (hb hby at_371) rfl (XT.lload X220.here hx rfl (hb hby at_373) rfl (own_ladd X220.here hx rfl (hb hby at_375) rfl hv224 (XT.lstore X220.here hx rfl (hb hby at_376) rfl (l' := #[sI p0, sI p1, sI p2, sI p3, sJ p4, uS, sI p5, sJ y0, uS, sJ y1, uS, sJ y2, uS, sJ y3, uS, sJ y4, uS, sJ y5, uS, sI (2 : Int32), sI (1 : Int32), sR a105, sR a114, sR a117, sR a120, sR a123, sR a114, sR a117, sR a120, sR a123, sI (1 : Int32), sI (1 : Int32), sI (1 : Int32), sI (1 : Int32), sJ v221, uS, sJ v222, uS, sJ v223, uS, sJ v224, uS, uU, uU, uU, uU, uU, uU, uU, uU, uU, uU, uU, uU, uU]) rfl k)))))))) ?_
      show OwnGo _ _ _ _ (T220.setTop (mkF m 378 #[sI p0, sI p1, sI p2, sI p3, sJ p4, uS, sI p5, sJ y0, uS, sJ y1, uS, sJ y2, uS, sJ y3, uS, sJ y4, uS, sJ y5, uS, sI (2 : Int32), sI (1 : Int32), sR a105, sR a114, sR a117, sR a120, sR a123, sR a114, sR a117, sR a120, sR a123, sI (1 : Int32), sI (1 : Int32), sI (1 : Int32), sI (1 : Int32), sJ v221, uS, sJ v222, uS, sJ v223, uS, sJ v224, uS, uU, uU, uU, uU, uU, uU, uU, uU, uU, uU, uU, uU, uU] []))
      refine OwnGo.pre (fun t k => XT.lload X220.here hx rfl (hb hby at_378) rfl (XT.lload X220.here hx rfl (hb hby at_380) rfl (XT.lload X220.here hx rfl (hb hby at_382) rfl (XT.lload X220.here hx rfl (hb hby at_384) rfl k)))) ?_
      show OwnGo _ _ _ _ (T220.setTop (mkF m 386 #[sI p0, sI p1, sI p2, sI p3, sJ p4, uS, sI p5, sJ y0, uS, sJ y1, uS, sJ y2, uS, sJ y3, uS, sJ y4, uS, sJ y5, uS, sI (2 : Int32), sI (1 : Int32), sR a105, sR a114, sR a117, sR a120, sR a123, sR a114, sR a117, sR a120, sR a123, sI (1 : Int32), sI (1 : Int32), sI (1 : Int32), sI (1 : Int32), sJ v221, uS, sJ v222, uS, sJ v223, uS, sJ v224, uS, uU, uU, uU, uU, uU, uU, uU, uU, uU, uU, uU, uU, uU] [(.long y5), (.long y4), (.long v224), (.long v223)]))
      obtain ⟨_, _, ⟨T225, L225, k225, n225⟩, -, X225, ⟨Lc225, hQ225, l225, y225, z225⟩, st225⟩ := Jvm.LawKit.callS X220 hx (y := (⟨"com/example/isochron/isochron/dsp/FourierJoinPinLaw", "mulRe", "(JJJJ)J"⟩ : MethodName)) hown (mvT hZ (hw _ (List.mem_of_getElem? (i := 10) rfl))) (mvT hZ (hw _ (List.mem_of_getElem? (i := 11) rfl))) (mvT hZ (hw _ (List.mem_of_getElem? (i := 2) rfl))) (mvT hZ (hw _ (List.mem_of_getElem? (i := 12) rfl))) (by decide) (backOf (W := 0) (rm := ({ frames := 0, cells := 0, slots := 0, locals := 0 } : Room)) (Q := Q_rmRe Z v223 v224 y4 y5 j223 j224 jy4 jy5 T220.heap n0) (rmRe l Z a0 hw [] v223 v224 y4 y5 j223 j224 jy4 jy5 T220.heap n0 Z220 F223 (own_bd_le B223 (by decide)) F224 (own_bd_le B224 (by decide)) Fy4 (own_bd_le by4 (by decide)) Fy5 (own_bd_le by5 (by decide))) hZ (hw _ (List.mem_of_getElem? (i := 12) rfl)) (hw _ (List.mem_of_getElem? (i := 2) rfl)) (by decide) (by decide)) (g := (mkF m 386 #[sI p0, sI p1, sI p2, sI p3, sJ p4, uS, sI p5, sJ y0, uS, sJ y1, uS, sJ y2, uS, sJ y3, uS, sJ y4, uS, sJ y5, uS, sI (2 : Int32), sI (1 : Int32), sR a105, sR a114, sR a117, sR a120, sR a123, sR a114, sR a117, sR a120, sR a123, sI (1 : Int32), sI (1 : Int32), sI (1 : Int32), sI (1 : Int32), sJ v221, uS, sJ v222, uS, sJ v223, uS, sJ v224, uS, uU, uU, uU, uU, uU, uU, uU, uU, uU, uU, uU, uU, uU] [(.long y5), (.long y4), (.long v224), (.long v223)])) rfl (by rw [hml]; rfl) (argsL := [(.long v223), (.long v224), (.long y4), (.long y5)]) (rest := []) (lenOf pd_rmRe rfl) rfl (by show 2 * 0 + _ ≤ _; exact Nat.le_of_eq rfl) (hb hby at_386) (fun _ _ => ⟨rfl, rfl, (by decide : 5 + 0 ≤ _), (by decide : 16 + 0 ≤ _)⟩)
      dsimp only [Pt.U, Pt.locs, Pt.cells, Pt.slots] at X225 l225 y225 z225 st225 hQ225
      replace l225 := l225.symm
      replace y225 := y225.symm
      replace z225 := z225.symm
      subst l225 y225 z225
      obtain ⟨wr, rfl, Fwr, N225, e225⟩ := hQ225
      refine OwnGo.pre (fun t k => st225 t k) ?_
      show OwnGo _ _ _ _ (T225.setTop (mkF m 389 #[sI p0, sI p1, sI p2, sI p3, sJ p4, uS, sI p5, sJ y0, uS, sJ y1, uS, sJ y2, uS, sJ y3, uS, sJ y4, uS, sJ y5, uS, sI (2 : Int32), sI (1 : Int32), sR a105, sR a114, sR a117, sR a120, sR a123, sR a114, sR a117, sR a120, sR a123, sI (1 : Int32), sI (1 : Int32), sI (1 : Int32), sI (1 : Int32), sJ v221, uS, sJ v222, uS, sJ v223, uS, sJ v224, uS, uU, uU, uU, uU, uU, uU, uU, uU, uU, uU, uU, uU, uU] [(.long wr)]))
      have M225 := Fr.app M220 N225
      obtain ⟨jwr, hjwr⟩ : ∃ i : Int, i = j223 * jy4 - j224 * jy5 := ⟨_, rfl⟩
      rw [← hjwr] at Fwr
      have Bwr : -281474976710656 ≤ jwr ∧ jwr ≤ 281474976710656 := by rw [hjwr]; exact own_bd_sub (own_bd_mul B223 by4 rfl) (own_bd_mul B224 by5 rfl) (by decide)
      refine OwnGo.pre (fun t k => XT.lstore X225.here hx rfl (hb hby at_389) rfl (l' := #[sI p0, sI p1, sI p2, sI p3, sJ p4, uS, sI p5, sJ y0, uS, sJ y1, uS, sJ y2, uS, sJ y3, uS, sJ y4, uS, sJ y5, uS, sI (2 : Int32), sI (1 : Int32), sR a105, sR a114, sR a117, sR a120, sR a123, sR a114, sR a117, sR a120, sR a123, sI (1 : Int32), sI (1 : Int32), sI (1 : Int32), sI (1 : Int32), sJ v221, uS, sJ v222, uS, sJ v223, uS, sJ v224, uS, sJ wr, uS, uU, uU, uU, uU, uU, uU, uU, uU, uU, uU, uU]) rfl (XT.lload X225.here hx rfl (hb hby at_391) rfl (XT.lload X225.here hx rfl (hb hby at_393) rfl (XT.lload X225.here hx rfl (hb hby at_395) rfl (XT.lload X225.here hx rfl (hb hby at_397) rfl k))))) ?_
      show OwnGo _ _ _ _ (T225.setTop (mkF m 399 #[sI p0, sI p1, sI p2, sI p3, sJ p4, uS, sI p5, sJ y0, uS, sJ y1, uS, sJ y2, uS, sJ y3, uS, sJ y4, uS, sJ y5, uS, sI (2 : Int32), sI (1 : Int32), sR a105, sR a114, sR a117, sR a120, sR a123, sR a114, sR a117, sR a120, sR a123, sI (1 : Int32), sI (1 : Int32), sI (1 : Int32), sI (1 : Int32), sJ v221, uS, sJ v222, uS, sJ v223, uS, sJ v224, uS, sJ wr, uS, uU, uU, uU, uU, uU, uU, uU, uU, uU, uU, uU] [(.long y5), (.long y4), (.long v224), (.long v223)]))
      obtain ⟨_, _, ⟨T226, L226, k226, n226⟩, -, X226, ⟨Lc226, hQ226, l226, y226, z226⟩, st226⟩ := Jvm.LawKit.callS X225 hx (y := (⟨"com/example/isochron/isochron/dsp/FourierJoinPinLaw", "mulIm", "(JJJJ)J"⟩ : MethodName)) hown (mvT hZ (hw _ (List.mem_of_getElem? (i := 13) rfl))) (mvT hZ (hw _ (List.mem_of_getElem? (i := 14) rfl))) (mvT hZ (hw _ (List.mem_of_getElem? (i := 2) rfl))) (mvT hZ (hw _ (List.mem_of_getElem? (i := 15) rfl))) (by decide) (backOf (W := 0) (rm := ({ frames := 0, cells := 0, slots := 0, locals := 0 } : Room)) (Q := Q_rmIm Z v223 v224 y4 y5 j223 j224 jy4 jy5 T220.heap n0) (rmIm l Z a0 hw [] v223 v224 y4 y5 j223 j224 jy4 jy5 T220.heap n0 Z220 F223 (own_bd_le B223 (by decide)) F224 (own_bd_le B224 (by decide)) Fy4 (own_bd_le by4 (by decide)) Fy5 (own_bd_le by5 (by decide))) hZ (hw _ (List.mem_of_getElem? (i := 15) rfl)) (hw _ (List.mem_of_getElem? (i := 2) rfl)) (by decide) (by decide)) (g := (mkF m 399 #[sI p0, sI p1, sI p2, sI p3, sJ p4, uS, sI p5, sJ y0, uS, sJ y1, uS, sJ y2, uS, sJ y3, uS, sJ y4, uS, sJ y5, uS, sI (2 : Int32), sI (1 : Int32), sR a105, sR a114, sR a117, sR a120, sR a123, sR a114, sR a117, sR a120, sR a123, sI (1 : Int32), sI (1 : Int32), sI (1 : Int32), sI (1 : Int32), sJ v221, uS, sJ v222, uS, sJ v223, uS, sJ v224, uS, sJ wr, uS, uU, uU, uU, uU, uU, uU, uU, uU, uU, uU, uU] [(.long y5), (.long y4), (.long v224), (.long v223)])) rfl (by rw [hml]; rfl) (argsL := [(.long v223), (.long v224), (.long y4), (.long y5)]) (rest := []) (lenOf pd_rmIm rfl) rfl (by show 2 * 0 + _ ≤ _; exact Nat.le_of_eq rfl) (hb hby at_399) (fun _ _ => ⟨rfl, e225, (by decide : 5 + 0 ≤ _), (by decide : 16 + 0 ≤ _)⟩)
      dsimp only [Pt.U, Pt.locs, Pt.cells, Pt.slots] at X226 l226 y226 z226 st226 hQ226
      replace l226 := l226.symm
      replace y226 := y226.symm
      replace z226 := z226.symm
      subst l226 y226 z226
      obtain ⟨wi, rfl, Fwi, N226, e226⟩ := hQ226
      refine OwnGo.pre (fun t k => st226 t k) ?_
      show OwnGo _ _ _ _ (T226.setTop (mkF m 402 #[sI p0, sI p1, sI p2, sI p3, sJ p4, uS, sI p5, sJ y0, uS, sJ y1, uS, sJ y2, uS, sJ y3, uS, sJ y4, uS, sJ y5, uS, sI (2 : Int32), sI (1 : Int32), sR a105, sR a114, sR a117, sR a120, sR a123, sR a114, sR a117, sR a120, sR a123, sI (1 : Int32), sI (1 : Int32), sI (1 : Int32), sI (1 : Int32), sJ v221, uS, sJ v222, uS, sJ v223, uS, sJ v224, uS, sJ wr, uS, uU, uU, uU, uU, uU, uU, uU, uU, uU, uU, uU] [(.long wi)]))
      have M226 := Fr.app M225 N226
      obtain ⟨jwi, hjwi⟩ : ∃ i : Int, i = j223 * jy5 + j224 * jy4 := ⟨_, rfl⟩
      rw [← hjwi] at Fwi
      have Bwi : -281474976710656 ≤ jwi ∧ jwi ≤ 281474976710656 := by rw [hjwi]; exact own_bd_add (own_bd_mul B223 by5 rfl) (own_bd_mul B224 by4 rfl) (by decide)
      refine OwnGo.pre (fun t k => XT.lstore X226.here hx rfl (hb hby at_402) rfl (l' := #[sI p0, sI p1, sI p2, sI p3, sJ p4, uS, sI p5, sJ y0, uS, sJ y1, uS, sJ y2, uS, sJ y3, uS, sJ y4, uS, sJ y5, uS, sI (2 : Int32), sI (1 : Int32), sR a105, sR a114, sR a117, sR a120, sR a123, sR a114, sR a117, sR a120, sR a123, sI (1 : Int32), sI (1 : Int32), sI (1 : Int32), sI (1 : Int32), sJ v221, uS, sJ v222, uS, sJ v223, uS, sJ v224, uS, sJ wr, uS, sJ wi, uS, uU, uU, uU, uU, uU, uU, uU, uU, uU]) rfl (XS.aload X226.here hx rfl (hb hby at_404) rfl rfl (XS.iload X226.here hx rfl (hb hby at_406) rfl (own_daL X226 hx hZ e226 AFo0z (j := (1 : Int32)) (by decide) (i := 1) (by decide) (x := ro0_1z) rfl (g := (mkF m 408 #[sI p0, sI p1, sI p2, sI p3, sJ p4, uS, sI p5, sJ y0, uS, sJ y1, uS, sJ y2, uS, sJ y3, uS, sJ y4, uS, sJ y5, uS, sI (2 : Int32), sI (1 : Int32), sR a105, sR a114, sR a117, sR a120, sR a123, sR a114, sR a117, sR a120, sR a123, sI (1 : Int32), sI (1 : Int32), sI (1 : Int32), sI (1 : Int32), sJ v221, uS, sJ v222, uS, sJ v223, uS, sJ v224, uS, sJ wr, uS, sJ wi, uS, uU, uU, uU, uU, uU, uU, uU, uU, uU] [(.int (1 : Int32)), (.ref a114)])) rfl (rest := []) rfl (hb hby at_408) (XS.dstore X226.here hx rfl (hb hby at_409) rfl (l' := #[sI p0, sI p1, sI p2, sI p3, sJ p4, uS, sI p5, sJ y0, uS, sJ y1, uS, sJ y2, uS, sJ y3, uS, sJ y4, uS, sJ y5, uS, sI (2 : Int32), sI (1 : Int32), sR a105, sR a114, sR a117, sR a120, sR a123, sR a114, sR a117, sR a120, sR a123, sI (1 : Int32), sI (1 : Int32), sI (1 : Int32), sI (1 : Int32), sJ v221, uS, sJ v222, uS, sJ v223, uS, sJ v224, uS, sJ wr, uS, sJ wi, uS, sD ro0_1z, uS, uU, uU, uU, uU, uU, uU, uU]) rfl (XS.aload X226.here hx rfl (hb hby at_411) rfl rfl (XS.iload X226.here hx rfl (hb hby at_413) rfl (own_daL X226 hx hZ e226 AFo1z (j := (1 : Int32)) (by decide) (i := 1) (by decide) (x := ro1_1z) rfl (g := (mkF m 415 #[sI p0, sI p1, sI p2, sI p3, sJ p4, uS, sI p5, sJ y0, uS, sJ y1, uS, sJ y2, uS, sJ y3, uS, sJ y4, uS, sJ y5, uS, sI (2 : Int32), sI (1 : Int32), sR a105, sR a114, sR a117, sR a120, sR a123, sR a114, sR a117, sR a120, sR a123, sI (1 : Int32), sI (1 : Int32), sI (1 : Int32), sI (1 : Int32), sJ v221, uS, sJ v222, uS, sJ v223, uS, sJ v224, uS, sJ wr, uS, sJ wi, uS, sD ro0_1z, uS, uU, uU, uU, uU, uU, uU, uU] [(.int (1 : Int32)), (.ref a117)])) rfl (rest := []) rfl (hb hby at_415) k)))))))) ?_
      show OwnGo _ _ _ _ (T226.setTop (mkF m 416 #[sI p0, sI p1, sI p2, sI p3, sJ p4, uS, sI p5, sJ y0, uS, sJ y1, uS, sJ y2, uS, sJ y3, uS, sJ y4, uS, sJ y5, uS, sI (2 : Int32), sI (1 : Int32), sR a105, sR a114, sR a117, sR a120, sR a123, sR a114, sR a117, sR a120, sR a123, sI (1 : Int32), sI (1 : Int32), sI (1 : Int32), sI (1 : Int32), sJ v221, uS, sJ v222, uS, sJ v223, uS, sJ v224, uS, sJ wr, uS, sJ wi, uS, sD ro0_1z, uS, uU, uU, uU, uU, uU, uU, uU] [(.double ro1_1z)]))
      refine OwnGo.pre (fun t k => XS.dstore X226.here hx rfl (hb hby at_416) rfl (l' := #[sI p0, sI p1, sI p2, sI p3, sJ p4, uS, sI p5, sJ y0, uS, sJ y1, uS, sJ y2, uS, sJ y3, uS, sJ y4, uS, sJ y5, uS, sI (2 : Int32), sI (1 : Int32), sR a105, sR a114, sR a117, sR a120, sR a123, sR a114, sR a117, sR a120, sR a123, sI (1 : Int32), sI (1 : Int32), sI (1 : Int32), sI (1 : Int32), sJ v221, uS, sJ v222, uS, sJ v223, uS, sJ v224, uS, sJ wr, uS, sJ wi, uS, sD ro0_1z, uS, sD ro1_1z, uS, uU, uU, uU, uU, uU]) rfl (XS.aload X226.here hx rfl (hb hby at_418) rfl rfl (XS.iload X226.here hx rfl (hb hby at_420) rfl (own_daL X226 hx hZ e226 AFo2z (j := (1 : Int32)) (by decide) (i := 1) (by decide) (x := ro2_1z) rfl (g := (mkF m 422 #[sI p0, sI p1, sI p2, sI p3, sJ p4, uS, sI p5, sJ y0, uS, sJ y1, uS, sJ y2, uS, sJ y3, uS, sJ y4, uS, sJ y5, uS, sI (2 : Int32), sI (1 : Int32), sR a105, sR a114, sR a117, sR a120, sR a123, sR a114, sR a117, sR a120, sR a123, sI (1 : Int32), sI (1 : Int32), sI (1 : Int32), sI (1 : Int32), sJ v221, uS, sJ v222, uS, sJ v223, uS, sJ v224, uS, sJ wr, uS, sJ wi, uS, sD ro0_1z, uS, sD ro1_1z, uS, uU, uU, uU, uU, uU] [(.int (1 : Int32)), (.ref a120)])) rfl (rest := []) rfl (hb hby at_422) (XS.dstore X226.here hx rfl (hb hby at_423) rfl (l' := #[sI p0, sI p1, sI p2, sI p3, sJ p4, uS, sI p5, sJ y0, uS, sJ y1, uS, sJ y2, uS, sJ y3, uS, sJ y4, uS, sJ y5, uS, sI (2 : Int32), sI (1 : Int32), sR a105, sR a114, sR a117, sR a120, sR a123, sR a114, sR a117, sR a120, sR a123, sI (1 : Int32), sI (1 : Int32), sI (1 : Int32), sI (1 : Int32), sJ v221, uS, sJ v222, uS, sJ v223, uS, sJ v224, uS, sJ wr, uS, sJ wi, uS, sD ro0_1z, uS, sD ro1_1z, uS, sD ro2_1z, uS, uU, uU, uU]) rfl (XS.aload X226.here hx rfl (hb hby at_425) rfl rfl (XS.iload X226.here hx rfl (hb hby at_427) rfl (own_daL X226 hx hZ e226 AFo3z (j := (1 : Int32)) (by decide) (i := 1) (by decide) (x := ro3_1z) rfl (g := (mkF m 429 #[sI p0, sI p1, sI p2, sI p3, sJ p4, uS, sI p5, sJ y0, uS, sJ y1, uS, sJ y2, uS, sJ y3, uS, sJ y4, uS, sJ y5, uS, sI (2 : Int32), sI (1 : Int32), sR a105, sR a114, sR a117, sR a120, sR a123, sR a114, sR a117, sR a120, sR a123, sI (1 : Int32), sI (1 : Int32), sI (1 : Int32), sI (1 : Int32), sJ v221, uS, sJ v222, uS, sJ v223, uS, sJ v224, uS, sJ wr, uS, sJ wi, uS, sD ro0_1z, uS, sD ro1_1z, uS, sD ro2_1z, uS, uU, uU, uU] [(.int (1 : Int32)), (.ref a123)])) rfl (rest := []) rfl (hb hby at_429) k)))))))) ?_
      show OwnGo _ _ _ _ (T226.setTop (mkF m 430 #[sI p0, sI p1, sI p2, sI p3, sJ p4, uS, sI p5, sJ y0, uS, sJ y1, uS, sJ y2, uS, sJ y3, uS, sJ y4, uS, sJ y5, uS, sI (2 : Int32), sI (1 : Int32), sR a105, sR a114, sR a117, sR a120, sR a123, sR a114, sR a117, sR a120, sR a123, sI (1 : Int32), sI (1 : Int32), sI (1 : Int32), sI (1 : Int32), sJ v221, uS, sJ v222, uS, sJ v223, uS, sJ v224, uS, sJ wr, uS, sJ wi, uS, sD ro0_1z, uS, sD ro1_1z, uS, sD ro2_1z, uS, uU, uU, uU] [(.double ro3_1z)]))
      refine OwnGo.pre (fun t k => XS.dstore X226.here hx rfl (hb hby at_430) rfl (l' := #[sI p0, sI p1, sI p2, sI p3, sJ p4, uS, sI p5, sJ y0, uS, sJ y1, uS, sJ y2, uS, sJ y3, uS, sJ y4, uS, sJ y5, uS, sI (2 : Int32), sI (1 : Int32), sR a105, sR a114, sR a117, sR a120, sR a123, sR a114, sR a117, sR a120, sR a123, sI (1 : Int32), sI (1 : Int32), sI (1 : Int32), sI (1 : Int32), sJ v221, uS, sJ v222, uS, sJ v223, uS, sJ v224, uS, sJ wr, uS, sJ wi, uS, sD ro0_1z, uS, sD ro1_1z, uS, sD ro2_1z, uS, sD ro3_1z, uS, uU]) rfl (XS.dload X226.here hx rfl (hb hby at_432) rfl k)) ?_
      show OwnGo _ _ _ _ (T226.setTop (mkF m 434 #[sI p0, sI p1, sI p2, sI p3, sJ p4, uS, sI p5, sJ y0, uS, sJ y1, uS, sJ y2, uS, sJ y3, uS, sJ y4, uS, sJ y5, uS, sI (2 : Int32), sI (1 : Int32), sR a105, sR a114, sR a117, sR a120, sR a123, sR a114, sR a117, sR a120, sR a123, sI (1 : Int32), sI (1 : Int32), sI (1 : Int32), sI (1 : Int32), sJ v221, uS, sJ v222, uS, sJ v223, uS, sJ v224, uS, sJ wr, uS, sJ wi, uS, sD ro0_1z, uS, sD ro1_1z, uS, sD ro2_1z, uS, sD ro3_1z, uS, uU] [(.double ro2_1z)]))
      obtain ⟨_, _, ⟨T227, L227, k227, n227⟩, -, X227, ⟨Lc227, hQ227, l227, y227, z227⟩, st227⟩ := Jvm.LawKit.callS X226 hx (y := (⟨"com/example/isochron/isochron/dsp/FourierJoinPinLaw", "whole", "(D)Z"⟩ : MethodName)) hown (mvT hZ (hw _ (List.mem_of_getElem? (i := 16) rfl))) (mvT hZ (hw _ (List.mem_of_getElem? (i := 17) rfl))) (mvT hZ (hw _ (List.mem_of_getElem? (i := 2) rfl))) (mvT hZ (hw _ (List.mem_of_getElem? (i := 18) rfl))) (by decide) (backOf (W := 0) (rm := ({ frames := 0, cells := 0, slots := 0, locals := 0 } : Room)) (Q := Q_rmW Z ro2_1z jro2_1z T220.heap n0) (rmW l Z a0 hw [] ro2_1z jro2_1z T220.heap n0 Z220 Hro2_1z (own_bd_le Bjro2_1z (by decide))) hZ (hw _ (List.mem_of_getElem? (i := 18) rfl)) (hw _ (List.mem_of_getElem? (i := 2) rfl)) (by decide) (by decide)) (g := (mkF m 434 #[sI p0, sI p1, sI p2, sI p3, sJ p4, uS, sI p5, sJ y0, uS, sJ y1, uS, sJ y2, uS, sJ y3, uS, sJ y4, uS, sJ y5, uS, sI (2 : Int32), sI (1 : Int32), sR a105, sR a114, sR a117, sR a120, sR a123, sR a114, sR a117, sR a120, sR a123, sI (1 : Int32), sI (1 : Int32), sI (1 : Int32), sI (1 : Int32), sJ v221, uS, sJ v222, uS, sJ v223, uS, sJ v224, uS, sJ wr, uS, sJ wi, uS, sD ro0_1z, uS, sD ro1_1z, uS, sD ro2_1z, uS, sD ro3_1z, uS, uU] [(.double ro2_1z)])) rfl (by rw [hml]; rfl) (argsL := [(.double ro2_1z)]) (rest := []) (lenOf pd_rmW rfl) rfl (by show 2 * 0 + _ ≤ _; exact Nat.le_of_eq rfl) (hb hby at_434) (fun _ _ => ⟨rfl, e226, (by decide : 5 + 0 ≤ _), (by decide : 16 + 0 ≤ _)⟩)
      dsimp only [Pt.U, Pt.locs, Pt.cells, Pt.slots] at X227 l227 y227 z227 st227 hQ227
      replace l227 := l227.symm
      replace y227 := y227.symm
      replace z227 := z227.symm
      subst l227 y227 z227
      obtain ⟨rfl, N227, e227⟩ := hQ227
      refine OwnGo.pre (fun t k => st227 t k) ?_
      show OwnGo _ _ _ _ (T227.setTop (mkF m 437 #[sI p0, sI p1, sI p2, sI p3, sJ p4, uS, sI p5, sJ y0, uS, sJ y1, uS, sJ y2, uS, sJ y3, uS, sJ y4, uS, sJ y5, uS, sI (2 : Int32), sI (1 : Int32), sR a105, sR a114, sR a117, sR a120, sR a123, sR a114, sR a117, sR a120, sR a123, sI (1 : Int32), sI (1 : Int32), sI (1 : Int32), sI (1 : Int32), sJ v221, uS, sJ v222, uS, sJ v223, uS, sJ v224, uS, sJ wr, uS, sJ wi, uS, sD ro0_1z, uS, sD ro1_1z, uS, sD ro2_1z, uS, sD ro3_1z, uS, uU] [(.int (1 : Int32))]))
      have M227 := Fr.app M226 N227
      refine OwnGo.pre (fun t k => XS.ifNo X227.here hx rfl (hb hby at_437) rfl (by decide) (XS.dload X227.here hx rfl (hb hby at_440) rfl k)) ?_
      show OwnGo _ _ _ _ (T227.setTop (mkF m 442 #[sI p0, sI p1, sI p2, sI p3, sJ p4, uS, sI p5, sJ y0, uS, sJ y1, uS, sJ y2, uS, sJ y3, uS, sJ y4, uS, sJ y5, uS, sI (2 : Int32), sI (1 : Int32), sR a105, sR a114, sR a117, sR a120, sR a123, sR a114, sR a117, sR a120, sR a123, sI (1 : Int32), sI (1 : Int32), sI (1 : Int32), sI (1 : Int32), sJ v221, uS, sJ v222, uS, sJ v223, uS, sJ v224, uS, sJ wr, uS, sJ wi, uS, sD ro0_1z, uS, sD ro1_1z, uS, sD ro2_1z, uS, sD ro3_1z, uS, uU] [(.double ro3_1z)]))
      obtain ⟨_, _, ⟨T228, L228, k228, n228⟩, -, X228, ⟨Lc228, hQ228, l228, y228, z228⟩, st228⟩ := Jvm.LawKit.callS X227 hx (y := (⟨"com/example/isochron/isochron/dsp/FourierJoinPinLaw", "whole", "(D)Z"⟩ : MethodName)) hown (mvT hZ (hw _ (List.mem_of_getElem? (i := 16) rfl))) (mvT hZ (hw _ (List.mem_of_getElem? (i := 17) rfl))) (mvT hZ (hw _ (List.mem_of_getElem? (i := 2) rfl))) (mvT hZ (hw _ (List.mem_of_getElem? (i := 18) rfl))) (by decide) (backOf (W := 0) (rm := ({ frames := 0, cells := 0, slots := 0, locals := 0 } : Room)) (Q := Q_rmW Z ro3_1z jro3_1z T220.heap n0) (rmW l Z a0 hw [] ro3_1z jro3_1z T220.heap n0 Z220 Hro3_1z (own_bd_le Bjro3_1z (by decide))) hZ (hw _ (List.mem_of_getElem? (i := 18) rfl)) (hw _ (List.mem_of_getElem? (i := 2) rfl)) (by decide) (by decide)) (g := (mkF m 442 #[sI p0, sI p1, sI p2, sI p3, sJ p4, uS, sI p5, sJ y0, uS, sJ y1, uS, sJ y2, uS, sJ y3, uS, sJ y4, uS, sJ y5, uS, sI (2 : Int32), sI (1 : Int32), sR a105, sR a114, sR a117, sR a120, sR a123, sR a114, sR a117, sR a120, sR a123, sI (1 : Int32), sI (1 : Int32), sI (1 : Int32), sI (1 : Int32), sJ v221, uS, sJ v222, uS, sJ v223, uS, sJ v224, uS, sJ wr, uS, sJ wi, uS, sD ro0_1z, uS, sD ro1_1z, uS, sD ro2_1z, uS, sD ro3_1z, uS, uU] [(.double ro3_1z)])) rfl (by rw [hml]; rfl) (argsL := [(.double ro3_1z)]) (rest := []) (lenOf pd_rmW rfl) rfl (by show 2 * 0 + _ ≤ _; exact Nat.le_of_eq rfl) (hb hby at_442) (fun _ _ => ⟨rfl, e227, (by decide : 5 + 0 ≤ _), (by decide : 16 + 0 ≤ _)⟩)
      dsimp only [Pt.U, Pt.locs, Pt.cells, Pt.slots] at X228 l228 y228 z228 st228 hQ228
      replace l228 := l228.symm
      replace y228 := y228.symm
      replace z228 := z228.symm
      subst l228 y228 z228
      obtain ⟨rfl, N228, e228⟩ := hQ228
      refine OwnGo.pre (fun t k => st228 t k) ?_
      show OwnGo _ _ _ _ (T228.setTop (mkF m 445 #[sI p0, sI p1, sI p2, sI p3, sJ p4, uS, sI p5, sJ y0, uS, sJ y1, uS, sJ y2, uS, sJ y3, uS, sJ y4, uS, sJ y5, uS, sI (2 : Int32), sI (1 : Int32), sR a105, sR a114, sR a117, sR a120, sR a123, sR a114, sR a117, sR a120, sR a123, sI (1 : Int32), sI (1 : Int32), sI (1 : Int32), sI (1 : Int32), sJ v221, uS, sJ v222, uS, sJ v223, uS, sJ v224, uS, sJ wr, uS, sJ wi, uS, sD ro0_1z, uS, sD ro1_1z, uS, sD ro2_1z, uS, sD ro3_1z, uS, uU] [(.int (1 : Int32))]))
      have M228 := Fr.app M227 N228
      obtain ⟨v229, hv229⟩ : ∃ v, FP.d2l ro2_1z = v := ⟨_, rfl⟩
      have F229 : v229.toInt = jro2_1z := by rw [← hv229]; exact own_d2lb Hro2_1z Bjro2_1z (by decide)
      obtain ⟨v230, hv230⟩ : ∃ v, v221 + wi = v := ⟨_, rfl⟩
      obtain ⟨j230, hj230⟩ : ∃ i : Int, i = j221 + jwi := ⟨_, rfl⟩
      have B230 : -281474993487872 ≤ j230 ∧ j230 ≤ 281474993487872 := by rw [hj230]; exact own_bd_add B221 Bwi (by decide)
      have F230 : v230.toInt = j230 := own_lf_add hv230 F221 Fwi B221 Bwi (by decide) hj230
      refine OwnGo.pre (fun t k => XS.ifNo X228.here hx rfl (hb hby at_445) rfl (by decide) (XS.dload X228.here hx rfl (hb hby at_448) rfl (XS.d2lS X228.here hx rfl (hb hby at_450) rfl hv229 (XT.lload X228.here hx rfl (hb hby at_451) rfl (XT.lload X228.here hx rfl (hb hby at_453) rfl (own_ladd X228.here hx rfl (hb hby at_455) rfl hv230 (own_lcmp X228.here hx rfl (hb hby at_456) rfl rfl k))))))) ?_
      show OwnGo _ _ _ _ (T228.setTop (mkF m 457 #[sI p0, sI p1, sI p2, sI p3, sJ p4, uS, sI p5, sJ y0, uS, sJ y1, uS, sJ y2, uS, sJ y3, uS, sJ y4, uS, sJ y5, uS, sI (2 : Int32), sI (1 : Int32), sR a105, sR a114, sR a117, sR a120, sR a123, sR a114, sR a117, sR a120, sR a123, sI (1 : Int32), sI (1 : Int32), sI (1 : Int32), sI (1 : Int32), sJ v221, uS, sJ v222, uS, sJ v223, uS, sJ v224, uS, sJ wr, uS, sJ wi, uS, sD ro0_1z, uS, sD ro1_1z, uS, sD ro2_1z, uS, sD ro3_1z, uS, uU] [(.int (XT.cmpL v229 v230))]))
      have q457 : v229.toInt = v230.toInt := by rw [F229, F230]; simp only [hjro2_1z, hj230, hj221, hjwi, hj223, hj224] <;> exact own_eq0 jy0 jy2 jy5 jy1 jy3 jy4
      obtain ⟨v231, hv231⟩ : ∃ v, FP.d2l ro3_1z = v := ⟨_, rfl⟩
      have F231 : v231.toInt = jro3_1z := by rw [← hv231]; exact own_d2lb Hro3_1z Bjro3_1z (by decide)
      obtain ⟨v232, hv232⟩ : ∃ v, -v231 = v := ⟨_, rfl⟩
      obtain ⟨j232, hj232⟩ : ∃ i : Int, i = -jro3_1z := ⟨_, rfl⟩
      have B232 : -281474993487872 ≤ j232 ∧ j232 ≤ 281474993487872 := by rw [hj232]; exact own_bd_neg Bjro3_1z
      have F232 : v232.toInt = j232 := own_lf_neg hv232 F231 Bjro3_1z (by decide) hj232
      obtain ⟨v233, hv233⟩ : ∃ v, v222 - wr = v := ⟨_, rfl⟩
      obtain ⟨j233, hj233⟩ : ∃ i : Int, i = j222 - jwr := ⟨_, rfl⟩
      have B233 : -281474993487872 ≤ j233 ∧ j233 ≤ 281474993487872 := by rw [hj233]; exact own_bd_sub B222 Bwr (by decide)
      have F233 : v233.toInt = j233 := own_lf_sub hv233 F222 Fwr B222 Bwr (by decide) hj233
      refine OwnGo.pre (fun t k => XS.ifNo X228.here hx rfl (hb hby at_457) rfl ((own_brL .ne _ _).trans (decide_eq_false (fun q => q q457))) (XS.dload X228.here hx rfl (hb hby at_460) rfl (XS.d2lS X228.here hx rfl (hb hby at_462) rfl hv231 (own_lneg X228.here hx rfl (hb hby at_463) rfl hv232 (XT.lload X228.here hx rfl (hb hby at_464) rfl (XT.lload X228.here hx rfl (hb hby at_466) rfl (own_lsub X228.here hx rfl (hb hby at_468) rfl hv233 (own_lcmp X228.here hx rfl (hb hby at_469) rfl rfl k)))))))) ?_
      show OwnGo _ _ _ _ (T228.setTop (mkF m 470 #[sI p0, sI p1, sI p2, sI p3, sJ p4, uS, sI p5, sJ y0, uS, sJ y1, uS, sJ y2, uS, sJ y3, uS, sJ y4, uS, sJ y5, uS, sI (2 : Int32), sI (1 : Int32), sR a105, sR a114, sR a117, sR a120, sR a123, sR a114, sR a117, sR a120, sR a123, sI (1 : Int32), sI (1 : Int32), sI (1 : Int32), sI (1 : Int32), sJ v221, uS, sJ v222, uS, sJ v223, uS, sJ v224, uS, sJ wr, uS, sJ wi, uS, sD ro0_1z, uS, sD ro1_1z, uS, sD ro2_1z, uS, sD ro3_1z, uS, uU] [(.int (XT.cmpL v232 v233))]))
      have q470 : v232.toInt = v233.toInt := by rw [F232, F233]; simp only [hj232, hjro3_1z, hj233, hj222, hjwr, hj223, hj224] <;> exact own_eq1 jy0 jy2 jy4 jy1 jy3 jy5
      refine OwnGo.pre (fun t k => XS.ifNo X228.here hx rfl (hb hby at_470) rfl ((own_brL .ne _ _).trans (decide_eq_false (fun q => q q470))) (XS.iconst X228.here hx rfl (hb hby at_473) (XS.goto X228.here hx rfl (pc0 := 474) (pc' := 478) rfl (hb hby at_474) (by decide) (by decide) (XS.istore X228.here hx rfl (hb hby at_478) rfl (l' := #[sI p0, sI p1, sI p2, sI p3, sJ p4, uS, sI p5, sJ y0, uS, sJ y1, uS, sJ y2, uS, sJ y3, uS, sJ y4, uS, sJ y5, uS, sI (2 : Int32), sI (1 : Int32), sR a105, sR a114, sR a117, sR a120, sR a123, sR a114, sR a117, sR a120, sR a123, sI (1 : Int32), sI (1 : Int32), sI (1 : Int32), sI (1 : Int32), sJ v221, uS, sJ v222, uS, sJ v223, uS, sJ v224, uS, sJ wr, uS, sJ wi, uS, sD ro0_1z, uS, sD ro1_1z, uS, sD ro2_1z, uS, sD ro3_1z, uS, sI (1 : Int32)]) rfl (XS.iload X228.here hx rfl (hb hby at_480) rfl (XS.iconst X228.here hx rfl (hb hby at_482) (XS.icmpNo X228.here hx rfl (hb hby at_483) rfl (by decide) (XS.iload X228.here hx rfl (hb hby at_486) rfl k)))))))) ?_
      show OwnGo _ _ _ _ (T228.setTop (mkF m 488 #[sI p0, sI p1, sI p2, sI p3, sJ p4, uS, sI p5, sJ y0, uS, sJ y1, uS, sJ y2, uS, sJ y3, uS, sJ y4, uS, sJ y5, uS, sI (2 : Int32), sI (1 : Int32), sR a105, sR a114, sR a117, sR a120, sR a123, sR a114, sR a117, sR a120, sR a123, sI (1 : Int32), sI (1 : Int32), sI (1 : Int32), sI (1 : Int32), sJ v221, uS, sJ v222, uS, sJ v223, uS, sJ v224, uS, sJ wr, uS, sJ wi, uS, sD ro0_1z, uS, sD ro1_1z, uS, sD ro2_1z, uS, sD ro3_1z, uS, sI (1 : Int32)] [(.int (1 : Int32))]))
      refine OwnGo.pre (fun t k => XS.ifNo X228.here hx rfl (hb hby at_488) rfl (by decide) (XS.dload X228.here hx rfl (hb hby at_491) rfl k)) ?_
      show OwnGo _ _ _ _ (T228.setTop (mkF m 493 #[sI p0, sI p1, sI p2, sI p3, sJ p4, uS, sI p5, sJ y0, uS, sJ y1, uS, sJ y2, uS, sJ y3, uS, sJ y4, uS, sJ y5, uS, sI (2 : Int32), sI (1 : Int32), sR a105, sR a114, sR a117, sR a120, sR a123, sR a114, sR a117, sR a120, sR a123, sI (1 : Int32), sI (1 : Int32), sI (1 : Int32), sI (1 : Int32), sJ v221, uS, sJ v222, uS, sJ v223, uS, sJ v224, uS, sJ wr, uS, sJ wi, uS, sD ro0_1z, uS, sD ro1_1z, uS, sD ro2_1z, uS, sD ro3_1z, uS, sI (1 : Int32)] [(.double ro0_1z)]))
      obtain ⟨_, _, ⟨T234, L234, k234, n234⟩, -, X234, ⟨Lc234, hQ234, l234, y234, z234⟩, st234⟩ := Jvm.LawKit.callS X228 hx (y := (⟨"com/example/isochron/isochron/dsp/FourierJoinPinLaw", "whole", "(D)Z"⟩ : MethodName)) hown (mvT hZ (hw _ (List.mem_of_getElem? (i := 16) rfl))) (mvT hZ (hw _ (List.mem_of_getElem? (i := 17) rfl))) (mvT hZ (hw _ (List.mem_of_getElem? (i := 2) rfl))) (mvT hZ (hw _ (List.mem_of_getElem? (i := 18) rfl))) (by decide) (backOf (W := 0) (rm := ({ frames := 0, cells := 0, slots := 0, locals := 0 } : Room)) (Q := Q_rmW Z ro0_1z jro0_1z T220.heap n0) (rmW l Z a0 hw [] ro0_1z jro0_1z T220.heap n0 Z220 Hro0_1z (own_bd_le Bjro0_1z (by decide))) hZ (hw _ (List.mem_of_getElem? (i := 18) rfl)) (hw _ (List.mem_of_getElem? (i := 2) rfl)) (by decide) (by decide)) (g := (mkF m 493 #[sI p0, sI p1, sI p2, sI p3, sJ p4, uS, sI p5, sJ y0, uS, sJ y1, uS, sJ y2, uS, sJ y3, uS, sJ y4, uS, sJ y5, uS, sI (2 : Int32), sI (1 : Int32), sR a105, sR a114, sR a117, sR a120, sR a123, sR a114, sR a117, sR a120, sR a123, sI (1 : Int32), sI (1 : Int32), sI (1 : Int32), sI (1 : Int32), sJ v221, uS, sJ v222, uS, sJ v223, uS, sJ v224, uS, sJ wr, uS, sJ wi, uS, sD ro0_1z, uS, sD ro1_1z, uS, sD ro2_1z, uS, sD ro3_1z, uS, sI (1 : Int32)] [(.double ro0_1z)])) rfl (by rw [hml]; rfl) (argsL := [(.double ro0_1z)]) (rest := []) (lenOf pd_rmW rfl) rfl (by show 2 * 0 + _ ≤ _; exact Nat.le_of_eq rfl) (hb hby at_493) (fun _ _ => ⟨rfl, e228, (by decide : 5 + 0 ≤ _), (by decide : 16 + 0 ≤ _)⟩)
      dsimp only [Pt.U, Pt.locs, Pt.cells, Pt.slots] at X234 l234 y234 z234 st234 hQ234
      replace l234 := l234.symm
      replace y234 := y234.symm
      replace z234 := z234.symm
      subst l234 y234 z234
      obtain ⟨rfl, N234, e234⟩ := hQ234
      refine OwnGo.pre (fun t k => st234 t k) ?_
      show OwnGo _ _ _ _ (T234.setTop (mkF m 496 #[sI p0, sI p1, sI p2, sI p3, sJ p4, uS, sI p5, sJ y0, uS, sJ y1, uS, sJ y2, uS, sJ y3, uS, sJ y4, uS, sJ y5, uS, sI (2 : Int32), sI (1 : Int32), sR a105, sR a114, sR a117, sR a120, sR a123, sR a114, sR a117, sR a120, sR a123, sI (1 : Int32), sI (1 : Int32), sI (1 : Int32), sI (1 : Int32), sJ v221, uS, sJ v222, uS, sJ v223, uS, sJ v224, uS, sJ wr, uS, sJ wi, uS, sD ro0_1z, uS, sD ro1_1z, uS, sD ro2_1z, uS, sD ro3_1z, uS, sI (1 : Int32)] [(.int (1 : Int32))]))
      have M234 := Fr.app M228 N234
      refine OwnGo.pre (fun t k => XS.ifNo X234.here hx rfl (hb hby at_496) rfl (by decide) (XS.dload X234.here hx rfl (hb hby at_499) rfl k)) ?_
      show OwnGo _ _ _ _ (T234.setTop (mkF m 501 #[sI p0, sI p1, sI p2, sI p3, sJ p4, uS, sI p5, sJ y0, uS, sJ y1, uS, sJ y2, uS, sJ y3, uS, sJ y4, uS, sJ y5, uS, sI (2 : Int32), sI (1 : Int32), sR a105, sR a114, sR a117, sR a120, sR a123, sR a114, sR a117, sR a120, sR a123, sI (1 : Int32), sI (1 : Int32), sI (1 : Int32), sI (1 : Int32), sJ v221, uS, sJ v222, uS, sJ v223, uS, sJ v224, uS, sJ wr, uS, sJ wi, uS, sD ro0_1z, uS, sD ro1_1z, uS, sD ro2_1z, uS, sD ro3_1z, uS, sI (1 : Int32)] [(.double ro1_1z)]))
      obtain ⟨_, _, ⟨T235, L235, k235, n235⟩, -, X235, ⟨Lc235, hQ235, l235, y235, z235⟩, st235⟩ := Jvm.LawKit.callS X234 hx (y := (⟨"com/example/isochron/isochron/dsp/FourierJoinPinLaw", "whole", "(D)Z"⟩ : MethodName)) hown (mvT hZ (hw _ (List.mem_of_getElem? (i := 16) rfl))) (mvT hZ (hw _ (List.mem_of_getElem? (i := 17) rfl))) (mvT hZ (hw _ (List.mem_of_getElem? (i := 2) rfl))) (mvT hZ (hw _ (List.mem_of_getElem? (i := 18) rfl))) (by decide) (backOf (W := 0) (rm := ({ frames := 0, cells := 0, slots := 0, locals := 0 } : Room)) (Q := Q_rmW Z ro1_1z jro1_1z T220.heap n0) (rmW l Z a0 hw [] ro1_1z jro1_1z T220.heap n0 Z220 Hro1_1z (own_bd_le Bjro1_1z (by decide))) hZ (hw _ (List.mem_of_getElem? (i := 18) rfl)) (hw _ (List.mem_of_getElem? (i := 2) rfl)) (by decide) (by decide)) (g := (mkF m 501 #[sI p0, sI p1, sI p2, sI p3, sJ p4, uS, sI p5, sJ y0, uS, sJ y1, uS, sJ y2, uS, sJ y3, uS, sJ y4, uS, sJ y5, uS, sI (2 : Int32), sI (1 : Int32), sR a105, sR a114, sR a117, sR a120, sR a123, sR a114, sR a117, sR a120, sR a123, sI (1 : Int32), sI (1 : Int32), sI (1 : Int32), sI (1 : Int32), sJ v221, uS, sJ v222, uS, sJ v223, uS, sJ v224, uS, sJ wr, uS, sJ wi, uS, sD ro0_1z, uS, sD ro1_1z, uS, sD ro2_1z, uS, sD ro3_1z, uS, sI (1 : Int32)] [(.double ro1_1z)])) rfl (by rw [hml]; rfl) (argsL := [(.double ro1_1z)]) (rest := []) (lenOf pd_rmW rfl) rfl (by show 2 * 0 + _ ≤ _; exact Nat.le_of_eq rfl) (hb hby at_501) (fun _ _ => ⟨rfl, e234, (by decide : 5 + 0 ≤ _), (by decide : 16 + 0 ≤ _)⟩)
      dsimp only [Pt.U, Pt.locs, Pt.cells, Pt.slots] at X235 l235 y235 z235 st235 hQ235
      replace l235 := l235.symm
      replace y235 := y235.symm
      replace z235 := z235.symm
      subst l235 y235 z235
      obtain ⟨rfl, N235, e235⟩ := hQ235
      refine OwnGo.pre (fun t k => st235 t k) ?_
      show OwnGo _ _ _ _ (T235.setTop (mkF m 504 #[sI p0, sI p1, sI p2, sI p3, sJ p4, uS, sI p5, sJ y0, uS, sJ y1, uS, sJ y2, uS, sJ y3, uS, sJ y4, uS, sJ y5, uS, sI (2 : Int32), sI (1 : Int32), sR a105, sR a114, sR a117, sR a120, sR a123, sR a114, sR a117, sR a120, sR a123, sI (1 : Int32), sI (1 : Int32), sI (1 : Int32), sI (1 : Int32), sJ v221, uS, sJ v222, uS, sJ v223, uS, sJ v224, uS, sJ wr, uS, sJ wi, uS, sD ro0_1z, uS, sD ro1_1z, uS, sD ro2_1z, uS, sD ro3_1z, uS, sI (1 : Int32)] [(.int (1 : Int32))]))
      have M235 := Fr.app M234 N235
      obtain ⟨v236, hv236⟩ : ∃ v, FP.d2l ro0_1z = v := ⟨_, rfl⟩
      have F236 : v236.toInt = jro0_1z := by rw [← hv236]; exact own_d2lb Hro0_1z Bjro0_1z (by decide)
      obtain ⟨v237, hv237⟩ : ∃ v, v221 - wi = v := ⟨_, rfl⟩
      obtain ⟨j237, hj237⟩ : ∃ i : Int, i = j221 - jwi := ⟨_, rfl⟩
      have B237 : -281474993487872 ≤ j237 ∧ j237 ≤ 281474993487872 := by rw [hj237]; exact own_bd_sub B221 Bwi (by decide)
      have F237 : v237.toInt = j237 := own_lf_sub hv237 F221 Fwi B221 Bwi (by decide) hj237
      refine OwnGo.pre (fun t k => XS.ifNo X235.here hx rfl (hb hby at_504) rfl (by decide) (XS.dload X235.here hx rfl (hb hby at_507) rfl (XS.d2lS X235.here hx rfl (hb hby at_509) rfl hv236 (XT.lload X235.here hx rfl (hb hby at_510) rfl (XT.lload X235.here hx rfl (hb hby at_512) rfl (own_lsub X235.here hx rfl (hb hby at_514) rfl hv237 (own_lcmp X235.here hx rfl (hb hby at_515) rfl rfl k))))))) ?_
      show OwnGo _ _ _ _ (T235.setTop (mkF m 516 #[sI p0, sI p1, sI p2, sI p3, sJ p4, uS, sI p5, sJ y0, uS, sJ y1, uS, sJ y2, uS, sJ y3, uS, sJ y4, uS, sJ y5, uS, sI (2 : Int32), sI (1 : Int32), sR a105, sR a114, sR a117, sR a120, sR a123, sR a114, sR a117, sR a120, sR a123, sI (1 : Int32), sI (1 : Int32), sI (1 : Int32), sI (1 : Int32), sJ v221, uS, sJ v222, uS, sJ v223, uS, sJ v224, uS, sJ wr, uS, sJ wi, uS, sD ro0_1z, uS, sD ro1_1z, uS, sD ro2_1z, uS, sD ro3_1z, uS, sI (1 : Int32)] [(.int (XT.cmpL v236 v237))]))
      have q516 : v236.toInt = v237.toInt := by rw [F236, F237]; simp only [hjro0_1z, hj237, hj221, hjwi, hj223, hj224] <;> exact own_eq2 jy0 jy2 jy5 jy1 jy3 jy4
      obtain ⟨v238, hv238⟩ : ∃ v, FP.d2l ro1_1z = v := ⟨_, rfl⟩
      have F238 : v238.toInt = jro1_1z := by rw [← hv238]; exact own_d2lb Hro1_1z Bjro1_1z (by decide)
      obtain ⟨v239, hv239⟩ : ∃ v, v222 + wr = v := ⟨_, rfl⟩
      obtain ⟨j239, hj239⟩ : ∃ i : Int, i = j222 + jwr := ⟨_, rfl⟩
      have B239 : -281474993487872 ≤ j239 ∧ j239 ≤ 281474993487872 := by rw [hj239]; exact own_bd_add B222 Bwr (by decide)
      have F239 : v239.toInt = j239 := own_lf_add hv239 F222 Fwr B222 Bwr (by decide) hj239
      refine OwnGo.pre (fun t k => XS.ifNo X235.here hx rfl (hb hby at_516) rfl ((own_brL .ne _ _).trans (decide_eq_false (fun q => q q516))) (XS.dload X235.here hx rfl (hb hby at_519) rfl (XS.d2lS X235.here hx rfl (hb hby at_521) rfl hv238 (XT.lload X235.here hx rfl (hb hby at_522) rfl (XT.lload X235.here hx rfl (hb hby at_524) rfl (own_ladd X235.here hx rfl (hb hby at_526) rfl hv239 (own_lcmp X235.here hx rfl (hb hby at_527) rfl rfl k))))))) ?_
      show OwnGo _ _ _ _ (T235.setTop (mkF m 528 #[sI p0, sI p1, sI p2, sI p3, sJ p4, uS, sI p5, sJ y0, uS, sJ y1, uS, sJ y2, uS, sJ y3, uS, sJ y4, uS, sJ y5, uS, sI (2 : Int32), sI (1 : Int32), sR a105, sR a114, sR a117, sR a120, sR a123, sR a114, sR a117, sR a120, sR a123, sI (1 : Int32), sI (1 : Int32), sI (1 : Int32), sI (1 : Int32), sJ v221, uS, sJ v222, uS, sJ v223, uS, sJ v224, uS, sJ wr, uS, sJ wi, uS, sD ro0_1z, uS, sD ro1_1z, uS, sD ro2_1z, uS, sD ro3_1z, uS, sI (1 : Int32)] [(.int (XT.cmpL v238 v239))]))
      have q528 : v238.toInt = v239.toInt := by rw [F238, F239]; simp only [hjro1_1z, hj239, hj222, hjwr, hj223, hj224] <;> exact own_eq3 jy1 jy3 jy0 jy2 jy4 jy5
      refine OwnGo.pre (fun t k => XS.ifNo X235.here hx rfl (hb hby at_528) rfl ((own_brL .ne _ _).trans (decide_eq_false (fun q => q q528))) (XS.iconst X235.here hx rfl (hb hby at_531) (XS.goto X235.here hx rfl (pc0 := 532) (pc' := 536) rfl (hb hby at_532) (by decide) (by decide) (XS.istore X235.here hx rfl (hb hby at_536) rfl (l' := #[sI p0, sI p1, sI p2, sI p3, sJ p4, uS, sI p5, sJ y0, uS, sJ y1, uS, sJ y2, uS, sJ y3, uS, sJ y4, uS, sJ y5, uS, sI (2 : Int32), sI (1 : Int32), sR a105, sR a114, sR a117, sR a120, sR a123, sR a114, sR a117, sR a120, sR a123, sI (1 : Int32), sI (1 : Int32), sI (1 : Int32), sI (1 : Int32), sJ v221, uS, sJ v222, uS, sJ v223, uS, sJ v224, uS, sJ wr, uS, sJ wi, uS, sD ro0_1z, uS, sD ro1_1z, uS, sD ro2_1z, uS, sD ro3_1z, uS, sI (1 : Int32)]) rfl (XS.iload X235.here hx rfl (hb hby at_538) rfl (XS.ifYes X235.here hx rfl (pc0 := 540) (pc' := 604) rfl (hb hby at_540) rfl (by decide) (by decide) (by decide) (XS.iload X235.here hx rfl (hb hby at_604) rfl (XS.iconst X235.here hx rfl (hb hby at_606) k)))))))) ?_
      show OwnGo _ _ _ _ (T235.setTop (mkF m 607 #[sI p0, sI p1, sI p2, sI p3, sJ p4, uS, sI p5, sJ y0, uS, sJ y1, uS, sJ y2, uS, sJ y3, uS, sJ y4, uS, sJ y5, uS, sI (2 : Int32), sI (1 : Int32), sR a105, sR a114, sR a117, sR a120, sR a123, sR a114, sR a117, sR a120, sR a123, sI (1 : Int32), sI (1 : Int32), sI (1 : Int32), sI (1 : Int32), sJ v221, uS, sJ v222, uS, sJ v223, uS, sJ v224, uS, sJ wr, uS, sJ wi, uS, sD ro0_1z, uS, sD ro1_1z, uS, sD ro2_1z, uS, sD ro3_1z, uS, sI (1 : Int32)] [(.int (1 : Int32)), (.int (2 : Int32))]))
      refine OwnGo.pre (fun t k => XS.icmpYes X235.here hx rfl (pc0 := 607) (pc' := 658) rfl (hb hby at_607) rfl (by decide) (by decide) (by decide) (XS.iload X235.here hx rfl (hb hby at_658) rfl (XS.iconst X235.here hx rfl (hb hby at_660) (XS.icmpNo X235.here hx rfl (hb hby at_661) rfl (by decide) (XS.iload X235.here hx rfl (hb hby at_664) rfl (XS.ifNo X235.here hx rfl (hb hby at_666) rfl (by decide) (XS.aload X235.here hx rfl (hb hby at_669) rfl rfl (XS.iconst X235.here hx rfl (hb hby at_671) k)))))))) ?_
      show OwnGo _ _ _ _ (T235.setTop (mkF m 672 #[sI p0, sI p1, sI p2, sI p3, sJ p4, uS, sI p5, sJ y0, uS, sJ y1, uS, sJ y2, uS, sJ y3, uS, sJ y4, uS, sJ y5, uS, sI (2 : Int32), sI (1 : Int32), sR a105, sR a114, sR a117, sR a120, sR a123, sR a114, sR a117, sR a120, sR a123, sI (1 : Int32), sI (1 : Int32), sI (1 : Int32), sI (1 : Int32), sJ v221, uS, sJ v222, uS, sJ v223, uS, sJ v224, uS, sJ wr, uS, sJ wi, uS, sD ro0_1z, uS, sD ro1_1z, uS, sD ro2_1z, uS, sD ro3_1z, uS, sI (1 : Int32)] [(.int (1 : Int32)), (.ref a114)]))
      refine OwnGo.pre (fun t k => XS.iload X235.here hx rfl (hb hby at_672) rfl (own_isub X235.here hx rfl (hb hby at_674) rfl (v := (0 : Int32)) (by decide) (own_daL X235 hx hZ e235 AFo0z (j := (0 : Int32)) (by decide) (i := 0) (by decide) (x := (4602678819172646912 : UInt64)) rfl (g := (mkF m 675 #[sI p0, sI p1, sI p2, sI p3, sJ p4, uS, sI p5, sJ y0, uS, sJ y1, uS, sJ y2, uS, sJ y3, uS, sJ y4, uS, sJ y5, uS, sI (2 : Int32), sI (1 : Int32), sR a105, sR a114, sR a117, sR a120, sR a123, sR a114, sR a117, sR a120, sR a123, sI (1 : Int32), sI (1 : Int32), sI (1 : Int32), sI (1 : Int32), sJ v221, uS, sJ v222, uS, sJ v223, uS, sJ v224, uS, sJ wr, uS, sJ wi, uS, sD ro0_1z, uS, sD ro1_1z, uS, sD ro2_1z, uS, sD ro3_1z, uS, sI (1 : Int32)] [(.int (0 : Int32)), (.ref a114)])) rfl (rest := []) rfl (hb hby at_675) (own_ldcD X235 hx hown (mvT hZ (hw _ (List.mem_of_getElem? (i := 5) rfl))) rfl (hb hby at_676) (XS.dcmpS X235.here hx rfl (hb hby at_679) rfl rfl (XS.ifNo X235.here hx rfl (hb hby at_680) rfl (by decide +kernel) (XS.aload X235.here hx rfl (hb hby at_683) rfl rfl (XS.iconst X235.here hx rfl (hb hby at_685) k)))))))) ?_
      show OwnGo _ _ _ _ (T235.setTop (mkF m 686 #[sI p0, sI p1, sI p2, sI p3, sJ p4, uS, sI p5, sJ y0, uS, sJ y1, uS, sJ y2, uS, sJ y3, uS, sJ y4, uS, sJ y5, uS, sI (2 : Int32), sI (1 : Int32), sR a105, sR a114, sR a117, sR a120, sR a123, sR a114, sR a117, sR a120, sR a123, sI (1 : Int32), sI (1 : Int32), sI (1 : Int32), sI (1 : Int32), sJ v221, uS, sJ v222, uS, sJ v223, uS, sJ v224, uS, sJ wr, uS, sJ wi, uS, sD ro0_1z, uS, sD ro1_1z, uS, sD ro2_1z, uS, sD ro3_1z, uS, sI (1 : Int32)] [(.int (1 : Int32)), (.ref a117)]))
      refine OwnGo.pre (fun t k => XS.iload X235.here hx rfl (hb hby at_686) rfl (own_isub X235.here hx rfl (hb hby at_688) rfl (v := (0 : Int32)) (by decide) (own_daL X235 hx hZ e235 AFo1z (j := (0 : Int32)) (by decide) (i := 0) (by decide) (x := (4602678819172646912 : UInt64)) rfl (g := (mkF m 689 #[sI p0, sI p1, sI p2, sI p3, sJ p4, uS, sI p5, sJ y0, uS, sJ y1, uS, sJ y2, uS, sJ y3, uS, sJ y4, uS, sJ y5, uS, sI (2 : Int32), sI (1 : Int32), sR a105, sR a114, sR a117, sR a120, sR a123, sR a114, sR a117, sR a120, sR a123, sI (1 : Int32), sI (1 : Int32), sI (1 : Int32), sI (1 : Int32), sJ v221, uS, sJ v222, uS, sJ v223, uS, sJ v224, uS, sJ wr, uS, sJ wi, uS, sD ro0_1z, uS, sD ro1_1z, uS, sD ro2_1z, uS, sD ro3_1z, uS, sI (1 : Int32)] [(.int (0 : Int32)), (.ref a117)])) rfl (rest := []) rfl (hb hby at_689) (own_ldcD X235 hx hown (mvT hZ (hw _ (List.mem_of_getElem? (i := 5) rfl))) rfl (hb hby at_690) (XS.dcmpS X235.here hx rfl (hb hby at_693) rfl rfl (XS.ifNo X235.here hx rfl (hb hby at_694) rfl (by decide +kernel) (XS.aload X235.here hx rfl (hb hby at_697) rfl rfl (XS.iconst X235.here hx rfl (hb hby at_699) k)))))))) ?_
      show OwnGo _ _ _ _ (T235.setTop (mkF m 700 #[sI p0, sI p1, sI p2, sI p3, sJ p4, uS, sI p5, sJ y0, uS, sJ y1, uS, sJ y2, uS, sJ y3, uS, sJ y4, uS, sJ y5, uS, sI (2 : Int32), sI (1 : Int32), sR a105, sR a114, sR a117, sR a120, sR a123, sR a114, sR a117, sR a120, sR a123, sI (1 : Int32), sI (1 : Int32), sI (1 : Int32), sI (1 : Int32), sJ v221, uS, sJ v222, uS, sJ v223, uS, sJ v224, uS, sJ wr, uS, sJ wi, uS, sD ro0_1z, uS, sD ro1_1z, uS, sD ro2_1z, uS, sD ro3_1z, uS, sI (1 : Int32)] [(.int (1 : Int32)), (.ref a120)]))
      refine OwnGo.pre (fun t k => XS.iload X235.here hx rfl (hb hby at_700) rfl (own_isub X235.here hx rfl (hb hby at_702) rfl (v := (0 : Int32)) (by decide) (own_daL X235 hx hZ e235 AFo2z (j := (0 : Int32)) (by decide) (i := 0) (by decide) (x := (4602678819172646912 : UInt64)) rfl (g := (mkF m 703 #[sI p0, sI p1, sI p2, sI p3, sJ p4, uS, sI p5, sJ y0, uS, sJ y1, uS, sJ y2, uS, sJ y3, uS, sJ y4, uS, sJ y5, uS, sI (2 : Int32), sI (1 : Int32), sR a105, sR a114, sR a117, sR a120, sR a123, sR a114, sR a117, sR a120, sR a123, sI (1 : Int32), sI (1 : Int32), sI (1 : Int32), sI (1 : Int32), sJ v221, uS, sJ v222, uS, sJ v223, uS, sJ v224, uS, sJ wr, uS, sJ wi, uS, sD ro0_1z, uS, sD ro1_1z, uS, sD ro2_1z, uS, sD ro3_1z, uS, sI (1 : Int32)] [(.int (0 : Int32)), (.ref a120)])) rfl (rest := []) rfl (hb hby at_703) (own_ldcD X235 hx hown (mvT hZ (hw _ (List.mem_of_getElem? (i := 5) rfl))) rfl (hb hby at_704) (XS.dcmpS X235.here hx rfl (hb hby at_707) rfl rfl (XS.ifNo X235.here hx rfl (hb hby at_708) rfl (by decide +kernel) (XS.aload X235.here hx rfl (hb hby at_711) rfl rfl (XS.iconst X235.here hx rfl (hb hby at_713) k)))))))) ?_
      show OwnGo _ _ _ _ (T235.setTop (mkF m 714 #[sI p0, sI p1, sI p2, sI p3, sJ p4, uS, sI p5, sJ y0, uS, sJ y1, uS, sJ y2, uS, sJ y3, uS, sJ y4, uS, sJ y5, uS, sI (2 : Int32), sI (1 : Int32), sR a105, sR a114, sR a117, sR a120, sR a123, sR a114, sR a117, sR a120, sR a123, sI (1 : Int32), sI (1 : Int32), sI (1 : Int32), sI (1 : Int32), sJ v221, uS, sJ v222, uS, sJ v223, uS, sJ v224, uS, sJ wr, uS, sJ wi, uS, sD ro0_1z, uS, sD ro1_1z, uS, sD ro2_1z, uS, sD ro3_1z, uS, sI (1 : Int32)] [(.int (1 : Int32)), (.ref a123)]))
      refine OwnGo.pre (fun t k => XS.iload X235.here hx rfl (hb hby at_714) rfl (own_isub X235.here hx rfl (hb hby at_716) rfl (v := (0 : Int32)) (by decide) (own_daL X235 hx hZ e235 AFo3z (j := (0 : Int32)) (by decide) (i := 0) (by decide) (x := (4602678819172646912 : UInt64)) rfl (g := (mkF m 717 #[sI p0, sI p1, sI p2, sI p3, sJ p4, uS, sI p5, sJ y0, uS, sJ y1, uS, sJ y2, uS, sJ y3, uS, sJ y4, uS, sJ y5, uS, sI (2 : Int32), sI (1 : Int32), sR a105, sR a114, sR a117, sR a120, sR a123, sR a114, sR a117, sR a120, sR a123, sI (1 : Int32), sI (1 : Int32), sI (1 : Int32), sI (1 : Int32), sJ v221, uS, sJ v222, uS, sJ v223, uS, sJ v224, uS, sJ wr, uS, sJ wi, uS, sD ro0_1z, uS, sD ro1_1z, uS, sD ro2_1z, uS, sD ro3_1z, uS, sI (1 : Int32)] [(.int (0 : Int32)), (.ref a123)])) rfl (rest := []) rfl (hb hby at_717) (own_ldcD X235 hx hown (mvT hZ (hw _ (List.mem_of_getElem? (i := 5) rfl))) rfl (hb hby at_718) (XS.dcmpS X235.here hx rfl (hb hby at_721) rfl rfl (XS.ifNo X235.here hx rfl (hb hby at_722) rfl (by decide +kernel) (XS.aload X235.here hx rfl (hb hby at_725) rfl rfl (XS.iconst X235.here hx rfl (hb hby at_727) k)))))))) ?_
      show OwnGo _ _ _ _ (T235.setTop (mkF m 728 #[sI p0, sI p1, sI p2, sI p3, sJ p4, uS, sI p5, sJ y0, uS, sJ y1, uS, sJ y2, uS, sJ y3, uS, sJ y4, uS, sJ y5, uS, sI (2 : Int32), sI (1 : Int32), sR a105, sR a114, sR a117, sR a120, sR a123, sR a114, sR a117, sR a120, sR a123, sI (1 : Int32), sI (1 : Int32), sI (1 : Int32), sI (1 : Int32), sJ v221, uS, sJ v222, uS, sJ v223, uS, sJ v224, uS, sJ wr, uS, sJ wi, uS, sD ro0_1z, uS, sD ro1_1z, uS, sD ro2_1z, uS, sD ro3_1z, uS, sI (1 : Int32)] [(.int (0 : Int32)), (.ref a105)]))
      refine OwnGo.pre (fun t k => own_daL X235 hx hZ e235 A220_a105 (j := (0 : Int32)) (by decide) (i := 0) (by decide) (x := (4602678819172646912 : UInt64)) rfl (g := (mkF m 728 #[sI p0, sI p1, sI p2, sI p3, sJ p4, uS, sI p5, sJ y0, uS, sJ y1, uS, sJ y2, uS, sJ y3, uS, sJ y4, uS, sJ y5, uS, sI (2 : Int32), sI (1 : Int32), sR a105, sR a114, sR a117, sR a120, sR a123, sR a114, sR a117, sR a120, sR a123, sI (1 : Int32), sI (1 : Int32), sI (1 : Int32), sI (1 : Int32), sJ v221, uS, sJ v222, uS, sJ v223, uS, sJ v224, uS, sJ wr, uS, sJ wi, uS, sD ro0_1z, uS, sD ro1_1z, uS, sD ro2_1z, uS, sD ro3_1z, uS, sI (1 : Int32)] [(.int (0 : Int32)), (.ref a105)])) rfl (rest := []) rfl (hb hby at_728) (own_ldcD X235 hx hown (mvT hZ (hw _ (List.mem_of_getElem? (i := 5) rfl))) rfl (hb hby at_729) (XS.dcmpS X235.here hx rfl (hb hby at_732) rfl rfl (XS.ifNo X235.here hx rfl (hb hby at_733) rfl (by decide +kernel) (XS.iconst X235.here hx rfl (hb hby at_736) (XS.goto X235.here hx rfl (pc0 := 737) (pc' := 741) rfl (hb hby at_737) (by decide) (by decide) (XS.istore X235.here hx rfl (hb hby at_741) rfl (l' := #[sI p0, sI p1, sI p2, sI p3, sJ p4, uS, sI p5, sJ y0, uS, sJ y1, uS, sJ y2, uS, sJ y3, uS, sJ y4, uS, sJ y5, uS, sI (2 : Int32), sI (1 : Int32), sR a105, sR a114, sR a117, sR a120, sR a123, sR a114, sR a117, sR a120, sR a123, sI (1 : Int32), sI (1 : Int32), sI (1 : Int32), sI (1 : Int32), sJ v221, uS, sJ v222, uS, sJ v223, uS, sJ v224, uS, sJ wr, uS, sJ wi, uS, sD ro0_1z, uS, sD ro1_1z, uS, sD ro2_1z, uS, sD ro3_1z, uS, sI (1 : Int32)]) rfl (XS.goto X235.here hx rfl (pc0 := 743) (pc' := 802) rfl (hb hby at_743) (by decide) (by decide) k)))))))) ?_
      show OwnGo _ _ _ _ (T235.setTop (mkF m 802 #[sI p0, sI p1, sI p2, sI p3, sJ p4, uS, sI p5, sJ y0, uS, sJ y1, uS, sJ y2, uS, sJ y3, uS, sJ y4, uS, sJ y5, uS, sI (2 : Int32), sI (1 : Int32), sR a105, sR a114, sR a117, sR a120, sR a123, sR a114, sR a117, sR a120, sR a123, sI (1 : Int32), sI (1 : Int32), sI (1 : Int32), sI (1 : Int32), sJ v221, uS, sJ v222, uS, sJ v223, uS, sJ v224, uS, sJ wr, uS, sJ wi, uS, sD ro0_1z, uS, sD ro1_1z, uS, sD ro2_1z, uS, sD ro3_1z, uS, sI (1 : Int32)] []))
      refine OwnGo.pre (fun t k => XS.iload X235.here hx rfl (hb hby at_802) rfl k) ?_
      show OwnGo _ _ _ _ (T235.setTop (mkF m 804 #[sI p0, sI p1, sI p2, sI p3, sJ p4, uS, sI p5, sJ y0, uS, sJ y1, uS, sJ y2, uS, sJ y3, uS, sJ y4, uS, sJ y5, uS, sI (2 : Int32), sI (1 : Int32), sR a105, sR a114, sR a117, sR a120, sR a123, sR a114, sR a117, sR a120, sR a123, sI (1 : Int32), sI (1 : Int32), sI (1 : Int32), sI (1 : Int32), sJ v221, uS, sJ v222, uS, sJ v223, uS, sJ v224, uS, sJ wr, uS, sJ wi, uS, sD ro0_1z, uS, sD ro1_1z, uS, sD ro2_1z, uS, sD ro3_1z, uS, sI (1 : Int32)] [(.int (1 : Int32))]))
      exact own_retZ X235 hx hk hrt (hb hby at_804) ⟨rfl, M235⟩ (by decide) (by decide)
  · skip
    show OwnGo _ _ _ _ (T125.setTop (mkF m 212 #[sI p0, sI p1, sI p2, sI p3, sJ p4, uS, sI p5, sJ y0, uS, sJ y1, uS, sJ y2, uS, sJ y3, uS, sJ y4, uS, sJ y5, uS, sI (3 : Int32), sI ii, sR a105, sR a114, sR a117, sR a120, sR a123, sR a105, sR a105, sR a105, sR a105, sI (0 : Int32), sI (1 : Int32), sI (2 : Int32), sI (3 : Int32), uU, uU, uU, uU, uU, uU, uU, uU, uU, uU, uU, uU, uU, uU, uU, uU, uU, uU, uU, uU, uU] [(.int (1 : Int32)), (.int (3 : Int32))]))
    refine OwnGo.pre (fun t k => XS.icmpYes X125.here hx rfl (pc0 := 212) (pc' := 232) rfl (hb hby at_212) rfl (by decide) (by decide) (by decide) (XS.iload X125.here hx rfl (hb hby at_232) rfl (XS.iconst X125.here hx rfl (hb hby at_234) (XS.icmpYes X125.here hx rfl (pc0 := 235) (pc' := 273) rfl (hb hby at_235) rfl (by decide) (by decide) (by decide) (XS.iload X125.here hx rfl (hb hby at_273) rfl (XS.iconst X125.here hx rfl (hb hby at_275) (XS.icmpNo X125.here hx rfl (hb hby at_276) rfl (by decide) (XS.bipush X125.here hx rfl (hb hby at_279) k)))))))) ?_
    show OwnGo _ _ _ _ (T125.setTop (mkF m 281 #[sI p0, sI p1, sI p2, sI p3, sJ p4, uS, sI p5, sJ y0, uS, sJ y1, uS, sJ y2, uS, sJ y3, uS, sJ y4, uS, sJ y5, uS, sI (3 : Int32), sI ii, sR a105, sR a114, sR a117, sR a120, sR a123, sR a105, sR a105, sR a105, sR a105, sI (0 : Int32), sI (1 : Int32), sI (2 : Int32), sI (3 : Int32), uU, uU, uU, uU, uU, uU, uU, uU, uU, uU, uU, uU, uU, uU, uU, uU, uU, uU, uU, uU, uU] [(.int (6 : Int32))]))
    refine OwnGo.pre (fun t k => XS.istore X125.here hx rfl (hb hby at_281) rfl (l' := #[sI p0, sI p1, sI p2, sI p3, sJ p4, uS, sI p5, sJ y0, uS, sJ y1, uS, sJ y2, uS, sJ y3, uS, sJ y4, uS, sJ y5, uS, sI (3 : Int32), sI ii, sR a105, sR a114, sR a117, sR a120, sR a123, sR a105, sR a105, sR a105, sR a105, sI (6 : Int32), sI (1 : Int32), sI (2 : Int32), sI (3 : Int32), uU, uU, uU, uU, uU, uU, uU, uU, uU, uU, uU, uU, uU, uU, uU, uU, uU, uU, uU, uU, uU]) rfl (XS.bipush X125.here hx rfl (hb hby at_283) (XS.istore X125.here hx rfl (hb hby at_285) rfl (l' := #[sI p0, sI p1, sI p2, sI p3, sJ p4, uS, sI p5, sJ y0, uS, sJ y1, uS, sJ y2, uS, sJ y3, uS, sJ y4, uS, sJ y5, uS, sI (3 : Int32), sI ii, sR a105, sR a114, sR a117, sR a120, sR a123, sR a105, sR a105, sR a105, sR a105, sI (6 : Int32), sI (7 : Int32), sI (2 : Int32), sI (3 : Int32), uU, uU, uU, uU, uU, uU, uU, uU, uU, uU, uU, uU, uU, uU, uU, uU, uU, uU, uU, uU, uU]) rfl (XS.iconst X125.here hx rfl (hb hby at_287) (XS.istore X125.here hx rfl (hb hby at_288) rfl (l' := #[sI p0, sI p1, sI p2, sI p3, sJ p4, uS, sI p5, sJ y0, uS, sJ y1, uS, sJ y2, uS, sJ y3, uS, sJ y4, uS, sJ y5, uS, sI (3 : Int32), sI ii, sR a105, sR a114, sR a117, sR a120, sR a123, sR a105, sR a105, sR a105, sR a105, sI (6 : Int32), sI (7 : Int32), sI (4 : Int32), sI (3 : Int32), uU, uU, uU, uU, uU, uU, uU, uU, uU, uU, uU, uU, uU, uU, uU, uU, uU, uU, uU, uU, uU]) rfl (XS.iconst X125.here hx rfl (hb hby at_290) (XS.istore X125.here hx rfl (hb hby at_291) rfl (l' := #[sI p0, sI p1, sI p2, sI p3, sJ p4, uS, sI p5, sJ y0, uS, sJ y1, uS, sJ y2, uS, sJ y3, uS, sJ y4, uS, sJ y5, uS, sI (3 : Int32), sI ii, sR a105, sR a114, sR a117, sR a120, sR a123, sR a105, sR a105, sR a105, sR a105, sI (6 : Int32), sI (7 : Int32), sI (4 : Int32), sI (5 : Int32), uU, uU, uU, uU, uU, uU, uU, uU, uU, uU, uU, uU, uU, uU, uU, uU, uU, uU, uU, uU, uU]) rfl (XS.aload X125.here hx rfl (hb hby at_293) rfl rfl k)))))))) ?_
    show OwnGo _ _ _ _ (T125.setTop (mkF m 295 #[sI p0, sI p1, sI p2, sI p3, sJ p4, uS, sI p5, sJ y0, uS, sJ y1, uS, sJ y2, uS, sJ y3, uS, sJ y4, uS, sJ y5, uS, sI (3 : Int32), sI ii, sR a105, sR a114, sR a117, sR a120, sR a123, sR a105, sR a105, sR a105, sR a105, sI (6 : Int32), sI (7 : Int32), sI (4 : Int32), sI (5 : Int32), uU, uU, uU, uU, uU, uU, uU, uU, uU, uU, uU, uU, uU, uU, uU, uU, uU, uU, uU, uU, uU] [(.ref a105)]))
    obtain ⟨d240, hd240⟩ : ∃ v, FP.l2d y0 = v := ⟨_, rfl⟩
    have D240 : OwnDS 0 jy0 d240 := by rw [← hd240]; exact own_l2db Fy0 by0 (by decide)
    refine OwnGo.pre (fun t k => XS.iload X125.here hx rfl (hb hby at_295) rfl (XT.lload X125.here hx rfl (hb hby at_297) rfl (XS.l2dS X125.here hx rfl (hb hby at_299) rfl hd240 k))) ?_
    show OwnGo _ _ _ _ (T125.setTop (mkF m 300 #[sI p0, sI p1, sI p2, sI p3, sJ p4, uS, sI p5, sJ y0, uS, sJ y1, uS, sJ y2, uS, sJ y3, uS, sJ y4, uS, sJ y5, uS, sI (3 : Int32), sI ii, sR a105, sR a114, sR a117, sR a120, sR a123, sR a105, sR a105, sR a105, sR a105, sI (6 : Int32), sI (7 : Int32), sI (4 : Int32), sI (5 : Int32), uU, uU, uU, uU, uU, uU, uU, uU, uU, uU, uU, uU, uU, uU, uU, uU, uU, uU, uU, uU, uU] [(.double d240), (.int (6 : Int32)), (.ref a105)]))
    obtain ⟨T241, h241, X241, e241, W241, A241, st241⟩ := own_daS X125 hx hZ e125 A125_a105 (by decide) (i := 6) (by decide) (by show 6 < 8; decide) (g := (mkF m 300 #[sI p0, sI p1, sI p2, sI p3, sJ p4, uS, sI p5, sJ y0, uS, sJ y1, uS, sJ y2, uS, sJ y3, uS, sJ y4, uS, sJ y5, uS, sI (3 : Int32), sI ii, sR a105, sR a114, sR a117, sR a120, sR a123, sR a105, sR a105, sR a105, sR a105, sI (6 : Int32), sI (7 : Int32), sI (4 : Int32), sI (5 : Int32), uU, uU, uU, uU, uU, uU, uU, uU, uU, uU, uU, uU, uU, uU, uU, uU, uU, uU, uU, uU, uU] [(.double d240), (.int (6 : Int32)), (.ref a105)])) rfl rfl (hb hby at_300)
    have A241n : OwnDA Z h241 a105 [(4602678819172646912 : UInt64), (4602678819172646912 : UInt64), (4602678819172646912 : UInt64), (4602678819172646912 : UInt64), (4602678819172646912 : UInt64), (4602678819172646912 : UInt64), d240, (4602678819172646912 : UInt64)] := A241
    have A241_a114 := A125_a114.ot W241 nea105_114.symm
    have A241_a117 := A125_a117.ot W241 nea105_117.symm
    have A241_a120 := A125_a120.ot W241 nea105_120.symm
    have A241_a123 := A125n.ot W241 nea105_123.symm
    have N241 := Fr.snoc X241 N125 G105
    have Z241 : n0 ≤ h241.size := by rw [W241.size]; exact Z125
    refine OwnGo.pre (fun t k => st241 t k) ?_
    show OwnGo _ _ _ _ (T241.setTop (mkF m 301 #[sI p0, sI p1, sI p2, sI p3, sJ p4, uS, sI p5, sJ y0, uS, sJ y1, uS, sJ y2, uS, sJ y3, uS, sJ y4, uS, sJ y5, uS, sI (3 : Int32), sI ii, sR a105, sR a114, sR a117, sR a120, sR a123, sR a105, sR a105, sR a105, sR a105, sI (6 : Int32), sI (7 : Int32), sI (4 : Int32), sI (5 : Int32), uU, uU, uU, uU, uU, uU, uU, uU, uU, uU, uU, uU, uU, uU, uU, uU, uU, uU, uU, uU, uU] []))
    obtain ⟨d242, hd242⟩ : ∃ v, FP.l2d y1 = v := ⟨_, rfl⟩
    have D242 : OwnDS 0 jy1 d242 := by rw [← hd242]; exact own_l2db Fy1 by1 (by decide)
    refine OwnGo.pre (fun t k => XS.aload X241.here hx rfl (hb hby at_301) rfl rfl (XS.iload X241.here hx rfl (hb hby at_303) rfl (XT.lload X241.here hx rfl (hb hby at_305) rfl (XS.l2dS X241.here hx rfl (hb hby at_307) rfl hd242 k)))) ?_
    show OwnGo _ _ _ _ (T241.setTop (mkF m 308 #[sI p0, sI p1, sI p2, sI p3, sJ p4, uS, sI p5, sJ y0, uS, sJ y1, uS, sJ y2, uS, sJ y3, uS, sJ y4, uS, sJ y5, uS, sI (3 : Int32), sI ii, sR a105, sR a114, sR a117, sR a120, sR a123, sR a105, sR a105, sR a105, sR a105, sI (6 : Int32), sI (7 : Int32), sI (4 : Int32), sI (5 : Int32), uU, uU, uU, uU, uU, uU, uU, uU, uU, uU, uU, uU, uU, uU, uU, uU, uU, uU, uU, uU, uU] [(.double d242), (.int (7 : Int32)), (.ref a105)]))
    obtain ⟨T243, h243, X243, e243, W243, A243, st243⟩ := own_daS X241 hx hZ e241 A241n (by decide) (i := 7) (by decide) (by show 7 < 8; decide) (g := (mkF m 308 #[sI p0, sI p1, sI p2, sI p3, sJ p4, uS, sI p5, sJ y0, uS, sJ y1, uS, sJ y2, uS, sJ y3, uS, sJ y4, uS, sJ y5, uS, sI (3 : Int32), sI ii, sR a105, sR a114, sR a117, sR a120, sR a123, sR a105, sR a105, sR a105, sR a105, sI (6 : Int32), sI (7 : Int32), sI (4 : Int32), sI (5 : Int32), uU, uU, uU, uU, uU, uU, uU, uU, uU, uU, uU, uU, uU, uU, uU, uU, uU, uU, uU, uU, uU] [(.double d242), (.int (7 : Int32)), (.ref a105)])) rfl rfl (hb hby at_308)
    have A243n : OwnDA Z h243 a105 [(4602678819172646912 : UInt64), (4602678819172646912 : UInt64), (4602678819172646912 : UInt64), (4602678819172646912 : UInt64), (4602678819172646912 : UInt64), (4602678819172646912 : UInt64), d240, d242] := A243
    have A243_a114 := A241_a114.ot W243 nea105_114.symm
    have A243_a117 := A241_a117.ot W243 nea105_117.symm
    have A243_a120 := A241_a120.ot W243 nea105_120.symm
    have A243_a123 := A241_a123.ot W243 nea105_123.symm
    have N243 := Fr.snoc X243 N241 G105
    have Z243 : n0 ≤ h243.size := by rw [W243.size]; exact Z241
    refine OwnGo.pre (fun t k => st243 t k) ?_
    show OwnGo _ _ _ _ (T243.setTop (mkF m 309 #[sI p0, sI p1, sI p2, sI p3, sJ p4, uS, sI p5, sJ y0, uS, sJ y1, uS, sJ y2, uS, sJ y3, uS, sJ y4, uS, sJ y5, uS, sI (3 : Int32), sI ii, sR a105, sR a114, sR a117, sR a120, sR a123, sR a105, sR a105, sR a105, sR a105, sI (6 : Int32), sI (7 : Int32), sI (4 : Int32), sI (5 : Int32), uU, uU, uU, uU, uU, uU, uU, uU, uU, uU, uU, uU, uU, uU, uU, uU, uU, uU, uU, uU, uU] []))
    obtain ⟨d244, hd244⟩ : ∃ v, FP.l2d y2 = v := ⟨_, rfl⟩
    have D244 : OwnDS 0 jy2 d244 := by rw [← hd244]; exact own_l2db Fy2 by2 (by decide)
    refine OwnGo.pre (fun t k => XS.aload X243.here hx rfl (hb hby at_309) rfl rfl (XS.iload X243.here hx rfl (hb hby at_311) rfl (XT.lload X243.here hx rfl (hb hby at_313) rfl (XS.l2dS X243.here hx rfl (hb hby at_315) rfl hd244 k)))) ?_
    show OwnGo _ _ _ _ (T243.setTop (mkF m 316 #[sI p0, sI p1, sI p2, sI p3, sJ p4, uS, sI p5, sJ y0, uS, sJ y1, uS, sJ y2, uS, sJ y3, uS, sJ y4, uS, sJ y5, uS, sI (3 : Int32), sI ii, sR a105, sR a114, sR a117, sR a120, sR a123, sR a105, sR a105, sR a105, sR a105, sI (6 : Int32), sI (7 : Int32), sI (4 : Int32), sI (5 : Int32), uU, uU, uU, uU, uU, uU, uU, uU, uU, uU, uU, uU, uU, uU, uU, uU, uU, uU, uU, uU, uU] [(.double d244), (.int (4 : Int32)), (.ref a105)]))
    obtain ⟨T245, h245, X245, e245, W245, A245, st245⟩ := own_daS X243 hx hZ e243 A243n (by decide) (i := 4) (by decide) (by show 4 < 8; decide) (g := (mkF m 316 #[sI p0, sI p1, sI p2, sI p3, sJ p4, uS, sI p5, sJ y0, uS, sJ y1, uS, sJ y2, uS, sJ y3, uS, sJ y4, uS, sJ y5, uS, sI (3 : Int32), sI ii, sR a105, sR a114, sR a117, sR a120, sR a123, sR a105, sR a105, sR a105, sR a105, sI (6 : Int32), sI (7 : Int32), sI (4 : Int32), sI (5 : Int32), uU, uU, uU, uU, uU, uU, uU, uU, uU, uU, uU, uU, uU, uU, uU, uU, uU, uU, uU, uU, uU] [(.double d244), (.int (4 : Int32)), (.ref a105)])) rfl rfl (hb hby at_316)
    have A245n : OwnDA Z h245 a105 [(4602678819172646912 : UInt64), (4602678819172646912 : UInt64), (4602678819172646912 : UInt64), (4602678819172646912 : UInt64), d244, (4602678819172646912 : UInt64), d240, d242] := A245
    have A245_a114 := A243_a114.ot W245 nea105_114.symm
    have A245_a117 := A243_a117.ot W245 nea105_117.symm
    have A245_a120 := A243_a120.ot W245 nea105_120.symm
    have A245_a123 := A243_a123.ot W245 nea105_123.symm
    have N245 := Fr.snoc X245 N243 G105
    have Z245 : n0 ≤ h245.size := by rw [W245.size]; exact Z243
    refine OwnGo.pre (fun t k => st245 t k) ?_
    show OwnGo _ _ _ _ (T245.setTop (mkF m 317 #[sI p0, sI p1, sI p2, sI p3, sJ p4, uS, sI p5, sJ y0, uS, sJ y1, uS, sJ y2, uS, sJ y3, uS, sJ y4, uS, sJ y5, uS, sI (3 : Int32), sI ii, sR a105, sR a114, sR a117, sR a120, sR a123, sR a105, sR a105, sR a105, sR a105, sI (6 : Int32), sI (7 : Int32), sI (4 : Int32), sI (5 : Int32), uU, uU, uU, uU, uU, uU, uU, uU, uU, uU, uU, uU, uU, uU, uU, uU, uU, uU, uU, uU, uU] []))
    obtain ⟨d246, hd246⟩ : ∃ v, FP.l2d y3 = v := ⟨_, rfl⟩
    have D246 : OwnDS 0 jy3 d246 := by rw [← hd246]; exact own_l2db Fy3 by3 (by decide)
    refine OwnGo.pre (fun t k => XS.aload X245.here hx rfl (hb hby at_317) rfl rfl (XS.iload X245.here hx rfl (hb hby at_319) rfl (XT.lload X245.here hx rfl (hb hby at_321) rfl (XS.l2dS X245.here hx rfl (hb hby at_323) rfl hd246 k)))) ?_
    show OwnGo _ _ _ _ (T245.setTop (mkF m 324 #[sI p0, sI p1, sI p2, sI p3, sJ p4, uS, sI p5, sJ y0, uS, sJ y1, uS, sJ y2, uS, sJ y3, uS, sJ y4, uS, sJ y5, uS, sI (3 : Int32), sI ii, sR a105, sR a114, sR a117, sR a120, sR a123, sR a105, sR a105, sR a105, sR a105, sI (6 : Int32), sI (7 : Int32), sI (4 : Int32), sI (5 : Int32), uU, uU, uU, uU, uU, uU, uU, uU, uU, uU, uU, uU, uU, uU, uU, uU, uU, uU, uU, uU, uU] [(.double d246), (.int (5 : Int32)), (.ref a105)]))
    obtain ⟨T247, h247, X247, e247, W247, A247, st247⟩ := own_daS X245 hx hZ e245 A245n (by decide) (i := 5) (by decide) (by show 5 < 8; decide) (g := (mkF m 324 #[sI p0, sI p1, sI p2, sI p3, sJ p4, uS, sI p5, sJ y0, uS, sJ y1, uS, sJ y2, uS, sJ y3, uS, sJ y4, uS, sJ y5, uS, sI (3 : Int32), sI ii, sR a105, sR a114, sR a117, sR a120, sR a123, sR a105, sR a105, sR a105, sR a105, sI (6 : Int32), sI (7 : Int32), sI (4 : Int32), sI (5 : Int32), uU, uU, uU, uU, uU, uU, uU, uU, uU, uU, uU, uU, uU, uU, uU, uU, uU, uU, uU, uU, uU] [(.double d246), (.int (5 : Int32)), (.ref a105)])) rfl rfl (hb hby at_324)
    have A247n : OwnDA Z h247 a105 [(4602678819172646912 : UInt64), (4602678819172646912 : UInt64), (4602678819172646912 : UInt64), (4602678819172646912 : UInt64), d244, d246, d240, d242] := A247
    have A247_a114 := A245_a114.ot W247 nea105_114.symm
    have A247_a117 := A245_a117.ot W247 nea105_117.symm
    have A247_a120 := A245_a120.ot W247 nea105_120.symm
    have A247_a123 := A245_a123.ot W247 nea105_123.symm
    have N247 := Fr.snoc X247 N245 G105
    have Z247 : n0 ≤ h247.size := by rw [W247.size]; exact Z245
    refine OwnGo.pre (fun t k => st247 t k) ?_
    show OwnGo _ _ _ _ (T247.setTop (mkF m 325 #[sI p0, sI p1, sI p2, sI p3, sJ p4, uS, sI p5, sJ y0, uS, sJ y1, uS, sJ y2, uS, sJ y3, uS, sJ y4, uS, sJ y5, uS, sI (3 : Int32), sI ii, sR a105, sR a114, sR a117, sR a120, sR a123, sR a105, sR a105, sR a105, sR a105, sI (6 : Int32), sI (7 : Int32), sI (4 : Int32), sI (5 : Int32), uU, uU, uU, uU, uU, uU, uU, uU, uU, uU, uU, uU, uU, uU, uU, uU, uU, uU, uU, uU, uU] []))
    refine OwnGo.pre (fun t k => XS.aload X247.here hx rfl (hb hby at_325) rfl rfl (XS.iload X247.here hx rfl (hb hby at_327) rfl (XS.aload X247.here hx rfl (hb hby at_329) rfl rfl (XS.iload X247.here hx rfl (hb hby at_331) rfl (XS.aload X247.here hx rfl (hb hby at_333) rfl rfl (XS.iload X247.here hx rfl (hb hby at_335) rfl (XS.aload X247.here hx rfl (hb hby at_337) rfl rfl (XS.iload X247.here hx rfl (hb hby at_339) rfl k)))))))) ?_
    show OwnGo _ _ _ _ (T247.setTop (mkF m 341 #[sI p0, sI p1, sI p2, sI p3, sJ p4, uS, sI p5, sJ y0, uS, sJ y1, uS, sJ y2, uS, sJ y3, uS, sJ y4, uS, sJ y5, uS, sI (3 : Int32), sI ii, sR a105, sR a114, sR a117, sR a120, sR a123, sR a105, sR a105, sR a105, sR a105, sI (6 : Int32), sI (7 : Int32), sI (4 : Int32), sI (5 : Int32), uU, uU, uU, uU, uU, uU, uU, uU, uU, uU, uU, uU, uU, uU, uU, uU, uU, uU, uU, uU, uU] [(.int (5 : Int32)), (.ref a105), (.int (4 : Int32)), (.ref a105), (.int (7 : Int32)), (.ref a105), (.int (6 : Int32)), (.ref a105)]))
    obtain ⟨d248, hd248⟩ : ∃ v, FP.l2d y4 = v := ⟨_, rfl⟩
    have D248 : OwnDS 0 jy4 d248 := by rw [← hd248]; exact own_l2db Fy4 by4 (by decide)
    obtain ⟨d249, hd249⟩ : ∃ v, FP.l2d y5 = v := ⟨_, rfl⟩
    have D249 : OwnDS 0 jy5 d249 := by rw [← hd249]; exact own_l2db Fy5 by5 (by decide)
    refine OwnGo.pre (fun t k => XT.lload X247.here hx rfl (hb hby at_341) rfl (XS.l2dS X247.here hx rfl (hb hby at_343) rfl hd248 (XT.lload X247.here hx rfl (hb hby at_344) rfl (XS.l2dS X247.here hx rfl (hb hby at_346) rfl hd249 k)))) ?_
    show OwnGo _ _ _ _ (T247.setTop (mkF m 347 #[sI p0, sI p1, sI p2, sI p3, sJ p4, uS, sI p5, sJ y0, uS, sJ y1, uS, sJ y2, uS, sJ y3, uS, sJ y4, uS, sJ y5, uS, sI (3 : Int32), sI ii, sR a105, sR a114, sR a117, sR a120, sR a123, sR a105, sR a105, sR a105, sR a105, sI (6 : Int32), sI (7 : Int32), sI (4 : Int32), sI (5 : Int32), uU, uU, uU, uU, uU, uU, uU, uU, uU, uU, uU, uU, uU, uU, uU, uU, uU, uU, uU, uU, uU] [(.double d249), (.double d248), (.int (5 : Int32)), (.ref a105), (.int (4 : Int32)), (.ref a105), (.int (7 : Int32)), (.ref a105), (.int (6 : Int32)), (.ref a105)]))
    obtain ⟨_, _, ⟨T250, L250, k250, n250⟩, -, X250, ⟨Lc250, hQ250, l250, y250, z250⟩, st250⟩ := Jvm.LawKit.callS X247 hx (y := (⟨"com/example/isochron/isochron/dsp/Fourier", "join", "([DI[DI[DI[DIDD)V"⟩ : MethodName)) hown (mvT hZ (hw _ (List.mem_of_getElem? (i := 6) rfl))) (mvT hZ (hw _ (List.mem_of_getElem? (i := 7) rfl))) (mvT hZ (hw _ (List.mem_of_getElem? (i := 8) rfl))) (mvT hZ (hw _ (List.mem_of_getElem? (i := 9) rfl))) (by decide) (backOf (W := 0) (rm := ({ frames := 0, cells := 0, slots := 0, locals := 0 } : Room)) (Q := Q_rmK3 Z a105 (4602678819172646912 : UInt64) (4602678819172646912 : UInt64) (4602678819172646912 : UInt64) (4602678819172646912 : UInt64) d244 d246 d240 d242 d248 d249 jy0 jy1 jy2 jy3 jy4 jy5 h247 n0) (rmK3 l Z a0 hw [] a105 (4602678819172646912 : UInt64) (4602678819172646912 : UInt64) (4602678819172646912 : UInt64) (4602678819172646912 : UInt64) d244 d246 d240 d242 d248 d249 jy0 jy1 jy2 jy3 jy4 jy5 h247 n0 Z247 A247n G105 D240 by0 D242 by1 D244 by2 D246 by3 D248 by4 D249 by5) hZ (hw _ (List.mem_of_getElem? (i := 9) rfl)) (hw _ (List.mem_of_getElem? (i := 8) rfl)) (by decide) (by decide)) (g := (mkF m 347 #[sI p0, sI p1, sI p2, sI p3, sJ p4, uS, sI p5, sJ y0, uS, sJ y1, uS, sJ y2, uS, sJ y3, uS, sJ y4, uS, sJ y5, uS, sI (3 : Int32), sI ii, sR a105, sR a114, sR a117, sR a120, sR a123, sR a105, sR a105, sR a105, sR a105, sI (6 : Int32), sI (7 : Int32), sI (4 : Int32), sI (5 : Int32), uU, uU, uU, uU, uU, uU, uU, uU, uU, uU, uU, uU, uU, uU, uU, uU, uU, uU, uU, uU, uU] [(.double d249), (.double d248), (.int (5 : Int32)), (.ref a105), (.int (4 : Int32)), (.ref a105), (.int (7 : Int32)), (.ref a105), (.int (6 : Int32)), (.ref a105)])) rfl (by rw [hml]; rfl) (argsL := [(.ref a105), (.int (6 : Int32)), (.ref a105), (.int (7 : Int32)), (.ref a105), (.int (4 : Int32)), (.ref a105), (.int (5 : Int32)), (.double d248), (.double d249)]) (rest := []) (lenOf pd_rmK3 rfl) rfl (by show 2 * 0 + _ ≤ _; exact Nat.le_of_eq rfl) (hb hby at_347) (fun _ _ => ⟨rfl, e247, (by decide : 5 + 0 ≤ _), (by decide : 16 + 0 ≤ _)⟩)
    dsimp only [Pt.U, Pt.locs, Pt.cells, Pt.slots] at X250 l250 y250 z250 st250 hQ250
    replace l250 := l250.symm
    replace y250 := y250.symm
    replace z250 := z250.symm
    subst l250 y250 z250
    obtain ⟨ro0_4z, ro0_5z, ro0_6z, ro0_7z, rfl, Hro0_4z, Bjro0_4z, Hro0_5z, Bjro0_5z, Hro0_6z, Bjro0_6z, Hro0_7z, Bjro0_7z, AFo0z, KF250, N250, Z250⟩ := hQ250
    refine OwnGo.pre (fun t k => st250 t k) ?_
    show OwnGo _ _ _ _ (T250.setTop (mkF m 350 #[sI p0, sI p1, sI p2, sI p3, sJ p4, uS, sI p5, sJ y0, uS, sJ y1, uS, sJ y2, uS, sJ y3, uS, sJ y4, uS, sJ y5, uS, sI (3 : Int32), sI ii, sR a105, sR a114, sR a117, sR a120, sR a123, sR a105, sR a105, sR a105, sR a105, sI (6 : Int32), sI (7 : Int32), sI (4 : Int32), sI (5 : Int32), uU, uU, uU, uU, uU, uU, uU, uU, uU, uU, uU, uU, uU, uU, uU, uU, uU, uU, uU, uU, uU] []))
    have M250 := Fr.app N247 N250
    have A250_a114 := A247_a114.kp KF250 (ninS nea105_114.symm nin0)
    have A250_a117 := A247_a117.kp KF250 (ninS nea105_117.symm nin0)
    have A250_a120 := A247_a120.kp KF250 (ninS nea105_120.symm nin0)
    have A250_a123 := A247_a123.kp KF250 (ninS nea105_123.symm nin0)
    obtain ⟨jro0_4z, hjro0_4z⟩ : ∃ i : Int, i = ((jy0 + jy2) + (((jy0 - jy2) * jy5) + ((jy1 + jy3) * jy4))) := ⟨_, rfl⟩
    rw [← hjro0_4z] at Hro0_4z Bjro0_4z
    obtain ⟨jro0_5z, hjro0_5z⟩ : ∃ i : Int, i = ((((jy0 - jy2) * jy4) - ((jy1 + jy3) * jy5)) - (jy1 - jy3)) := ⟨_, rfl⟩
    rw [← hjro0_5z] at Hro0_5z Bjro0_5z
    obtain ⟨jro0_6z, hjro0_6z⟩ : ∃ i : Int, i = ((jy0 + jy2) - (((jy0 - jy2) * jy5) + ((jy1 + jy3) * jy4))) := ⟨_, rfl⟩
    rw [← hjro0_6z] at Hro0_6z Bjro0_6z
    obtain ⟨jro0_7z, hjro0_7z⟩ : ∃ i : Int, i = ((jy1 - jy3) + (((jy0 - jy2) * jy4) - ((jy1 + jy3) * jy5))) := ⟨_, rfl⟩
    rw [← hjro0_7z] at Hro0_7z Bjro0_7z
    obtain ⟨v251, hv251⟩ : ∃ v, y0 + y2 = v := ⟨_, rfl⟩
    obtain ⟨j251, hj251⟩ : ∃ i : Int, i = jy0 + jy2 := ⟨_, rfl⟩
    have B251 : -16777216 ≤ j251 ∧ j251 ≤ 16777216 := by rw [hj251]; exact own_bd_add by0 by2 (by decide)
    have F251 : v251.toInt = j251 := own_lf_add hv251 Fy0 Fy2 by0 by2 (by decide) hj251
    obtain ⟨v252, hv252⟩ : ∃ v, y1 - y3 = v := ⟨_, rfl⟩
    obtain ⟨j252, hj252⟩ : ∃ i : Int, i = jy1 - jy3 := ⟨_, rfl⟩
    have B252 : -16777216 ≤ j252 ∧ j252 ≤ 16777216 := by rw [hj252]; exact own_bd_sub by1 by3 (by decide)
    have F252 : v252.toInt = j252 := own_lf_sub hv252 Fy1 Fy3 by1 by3 (by decide) hj252
    refine OwnGo.pre (fun t k => XT.lload X250.here hx rfl (hb hby at_350) rfl (XT.lload X250.here hx rfl (hb hby at_352) rfl (own_ladd X250.here hx rfl (hb hby at_354) rfl hv251 (XT.lstore X250.here hx rfl (hb hby at_355) rfl (l' := #[sI p0, sI p1, sI p2, sI p3, sJ p4, uS, sI p5, sJ y0, uS, sJ y1, uS, sJ y2, uS, sJ y3, uS, sJ y4, uS, sJ y5, uS, sI (3 : Int32), sI ii, sR a105, sR a114, sR a117, sR a120, sR a123, sR a105, sR a105, sR a105, sR a105, sI (6 : Int32), sI (7 : Int32), sI (4 : Int32), sI (5 : Int32), sJ v251, uS, uU, uU, uU, uU, uU, uU, uU, uU, uU, uU, uU, uU, uU, uU, uU, uU, uU, uU, uU]) rfl (XT.lload X250.here hx rfl (hb hby at_357) rfl (XT.lload X250.here hx rfl (hb hby at_359) rfl (own_lsub X250.here hx rfl (hb hby at_361) rfl hv252 (XT.lstore X250.here hx rfl (hb hby at_362) rfl (l' := #[sI p0, sI p1, sI p2, sI p3, sJ p4, uS, sI p5, sJ y0, uS, sJ y1, uS, sJ y2, uS, sJ y3, uS, sJ y4, uS, sJ y5, uS, sI (3 : Int32), sI ii, sR a105, sR a114, sR a117, sR a120, sR a123, sR a105, sR a105, sR a105, sR a105, sI (6 : Int32), sI (7 : Int32), sI (4 : Int32), sI (5 : Int32), sJ v251, uS, sJ v252, uS, uU, uU, uU, uU, uU, uU, uU, uU, uU, uU, uU, uU, uU, uU, uU, uU, uU]) rfl k)))))))) ?_
    show OwnGo _ _ _ _ (T250.setTop (mkF m 364 #[sI p0, sI p1, sI p2, sI p3, sJ p4, uS, sI p5, sJ y0, uS, sJ y1, uS, sJ y2, uS, sJ y3, uS, sJ y4, uS, sJ y5, uS, sI (3 : Int32), sI ii, sR a105, sR a114, sR a117, sR a120, sR a123, sR a105, sR a105, sR a105, sR a105, sI (6 : Int32), sI (7 : Int32), sI (4 : Int32), sI (5 : Int32), sJ v251, uS, sJ v252, uS, uU, uU, uU, uU, uU, uU, uU, uU, uU, uU, uU, uU, uU, uU, uU, uU, uU] []))
    obtain ⟨v253, hv253⟩ : ∃ v, y0 - y2 = v := ⟨_, rfl⟩
    obtain ⟨j253, hj253⟩ : ∃ i : Int, i = jy0 - jy2 := ⟨_, rfl⟩
    have B253 : -16777216 ≤ j253 ∧ j253 ≤ 16777216 := by rw [hj253]; exact own_bd_sub by0 by2 (by decide)
    have F253 : v253.toInt = j253 := own_lf_sub hv253 Fy0 Fy2 by0 by2 (by decide) hj253
    obtain ⟨v254, hv254⟩ : ∃ v, y1 + y3 = v := ⟨_, rfl⟩
    obtain ⟨j254, hj254⟩ : ∃ i : Int, i = jy1 + jy3 := ⟨_, rfl⟩
    have B254 : -16777216 ≤ j254 ∧ j254 ≤ 16777216 := by rw [hj254]; exact own_bd_add by1 by3 (by decide)
    have F254 : v254.toInt = j254 := own_lf_add hv254 Fy1 Fy3 by1 by3 (by decide) hj254
    refine OwnGo.pre (fun t k => XT.lload X250.here hx rfl (hb hby at_364) rfl (XT.lload X250.here hx rfl (hb hby at_366) rfl (own_lsub X250.here hx rfl (hb hby at_368) rfl hv253 (XT.lstore X250.here hx rfl (hb hby at_369) rfl (l' := #[sI p0, sI p1, sI p2, sI p3, sJ p4, uS, sI p5, sJ y0, uS, sJ y1, uS, sJ y2, uS, sJ y3, uS, sJ y4, uS, sJ y5, uS, sI (3 : Int32), sI ii, sR a105, sR a114, sR a117, sR a120, sR a123, sR a105, sR a105, sR a105, sR a105, sI (6 : Int32), sI (7 : Int32), sI (4 : Int32), sI (5 : Int32), sJ v251, uS, sJ v252, uS, sJ v253, uS, uU, uU, uU, uU, uU, uU, uU, uU, uU, uU, uU, uU, uU, uU, uU]) rfl (XT.lload X250.here hx rfl (hb hby at_371) rfl (XT.lload X250.here hx rfl (hb hby at_373) rfl (own_ladd X250.here hx rfl (hb hby at_375) rfl hv254 (XT.lstore X250.here hx rfl (hb hby at_376) rfl (l' := #[sI p0, sI p1, sI p2, sI p3, sJ p4, uS, sI p5, sJ y0, uS, sJ y1, uS, sJ y2, uS, sJ y3, uS, sJ y4, uS, sJ y5, uS, sI (3 : Int32), sI ii, sR a105, sR a114, sR a117, sR a120, sR a123, sR a105, sR a105, sR a105, sR a105, sI (6 : Int32), sI (7 : Int32), sI (4 : Int32), sI (5 : Int32), sJ v251, uS, sJ v252, uS, sJ v253, uS, sJ v254, uS, uU, uU, uU, uU, uU, uU, uU, uU, uU, uU, uU, uU, uU]) rfl k)))))))) ?_
    show OwnGo _ _ _ _ (T250.setTop (mkF m 378 #[sI p0, sI p1, sI p2, sI p3, sJ p4, uS, sI p5, sJ y0, uS, sJ y1, uS, sJ y2, uS, sJ y3, uS, sJ y4, uS, sJ y5, uS, sI (3 : Int32), sI ii, sR a105, sR a114, sR a117, sR a120, sR a123, sR a105, sR a105, sR a105, sR a105, sI (6 : Int32), sI (7 : Int32), sI (4 : Int32), sI (5 : Int32), sJ v251, uS, sJ v252, uS, sJ v253, uS, sJ v254, uS, uU, uU, uU, uU, uU, uU, uU, uU, uU, uU, uU, uU, uU] []))
    refine OwnGo.pre (fun t k => XT.lload X250.here hx rfl (hb hby at_378) rfl (XT.lload X250.here hx rfl (hb hby at_380) rfl (XT.lload X250.here hx rfl (hb hby at_382) rfl (XT.lload X250.here hx rfl (hb hby at_384) rfl k)))) ?_
    show OwnGo _ _ _ _ (T250.setTop (mkF m 386 #[sI p0, sI p1, sI p2, sI p3, sJ p4, uS, sI p5, sJ y0, uS, sJ y1, uS, sJ y2, uS, sJ y3, uS, sJ y4, uS, sJ y5, uS, sI (3 : Int32), sI ii, sR a105, sR a114, sR a117, sR a120, sR a123, sR a105, sR a105, sR a105, sR a105, sI (6 : Int32), sI (7 : Int32), sI (4 : Int32), sI (5 : Int32), sJ v251, uS, sJ v252, uS, sJ v253, uS, sJ v254, uS, uU, uU, uU, uU, uU, uU, uU, uU, uU, uU, uU, uU, uU] [(.long y5), (.long y4), (.long v254), (.long v253)]))
    obtain ⟨_, _, ⟨T255, L255, k255, n255⟩, -, X255, ⟨Lc255, hQ255, l255, y255, z255⟩, st255⟩ := Jvm.LawKit.callS X250 hx (y := (⟨"com/example/isochron/isochron/dsp/FourierJoinPinLaw", "mulRe", "(JJJJ)J"⟩ : MethodName)) hown (mvT hZ (hw _ (List.mem_of_getElem? (i := 10) rfl))) (mvT hZ (hw _ (List.mem_of_getElem? (i := 11) rfl))) (mvT hZ (hw _ (List.mem_of_getElem? (i := 2) rfl))) (mvT hZ (hw _ (List.mem_of_getElem? (i := 12) rfl))) (by decide) (backOf (W := 0) (rm := ({ frames := 0, cells := 0, slots := 0, locals := 0 } : Room)) (Q := Q_rmRe Z v253 v254 y4 y5 j253 j254 jy4 jy5 T250.heap n0) (rmRe l Z a0 hw [] v253 v254 y4 y5 j253 j254 jy4 jy5 T250.heap n0 Z250 F253 (own_bd_le B253 (by decide)) F254 (own_bd_le B254 (by decide)) Fy4 (own_bd_le by4 (by decide)) Fy5 (own_bd_le by5 (by decide))) hZ (hw _ (List.mem_of_getElem? (i := 12) rfl)) (hw _ (List.mem_of_getElem? (i := 2) rfl)) (by decide) (by decide)) (g := (mkF m 386 #[sI p0, sI p1, sI p2, sI p3, sJ p4, uS, sI p5, sJ y0, uS, sJ y1, uS, sJ y2, uS, sJ y3, uS, sJ y4, uS, sJ y5, uS, sI (3 : Int32), sI ii, sR a105, sR a114, sR a117, sR a120, sR a123, sR a105, sR a105, sR a105, sR a105, sI (6 : Int32), sI (7 : Int32), sI (4 : Int32), sI (5 : Int32), sJ v251, uS, sJ v252, uS, sJ v253, uS, sJ v254, uS, uU, uU, uU, uU, uU, uU, uU, uU, uU, uU, uU, uU, uU] [(.long y5), (.long y4), (.long v254), (.long v253)])) rfl (by rw [hml]; rfl) (argsL := [(.long v253), (.long v254), (.long y4), (.long y5)]) (rest := []) (lenOf pd_rmRe rfl) rfl (by show 2 * 0 + _ ≤ _; exact Nat.le_of_eq rfl) (hb hby at_386) (fun _ _ => ⟨rfl, rfl, (by decide : 5 + 0 ≤ _), (by decide : 16 + 0 ≤ _)⟩)
    dsimp only [Pt.U, Pt.locs, Pt.cells, Pt.slots] at X255 l255 y255 z255 st255 hQ255
    replace l255 := l255.symm
    replace y255 := y255.symm
    replace z255 := z255.symm
    subst l255 y255 z255
    obtain ⟨wr, rfl, Fwr, N255, e255⟩ := hQ255
    refine OwnGo.pre (fun t k => st255 t k) ?_
    show OwnGo _ _ _ _ (T255.setTop (mkF m 389 #[sI p0, sI p1, sI p2, sI p3, sJ p4, uS, sI p5, sJ y0, uS, sJ y1, uS, sJ y2, uS, sJ y3, uS, sJ y4, uS, sJ y5, uS, sI (3 : Int32), sI ii, sR a105, sR a114, sR a117, sR a120, sR a123, sR a105, sR a105, sR a105, sR a105, sI (6 : Int32), sI (7 : Int32), sI (4 : Int32), sI (5 : Int32), sJ v251, uS, sJ v252, uS, sJ v253, uS, sJ v254, uS, uU, uU, uU, uU, uU, uU, uU, uU, uU, uU, uU, uU, uU] [(.long wr)]))
    have M255 := Fr.app M250 N255
    obtain ⟨jwr, hjwr⟩ : ∃ i : Int, i = j253 * jy4 - j254 * jy5 := ⟨_, rfl⟩
    rw [← hjwr] at Fwr
    have Bwr : -281474976710656 ≤ jwr ∧ jwr ≤ 281474976710656 := by rw [hjwr]; exact own_bd_sub (own_bd_mul B253 by4 rfl) (own_bd_mul B254 by5 rfl) (by decide)
    refine OwnGo.pre (fun t k => XT.lstore X255.here hx rfl (hb hby at_389) rfl (l' := #[sI p0, sI p1, sI p2, sI p3, sJ p4, uS, sI p5, sJ y0, uS, sJ y1, uS, sJ y2, uS, sJ y3, uS, sJ y4, uS, sJ y5, uS, sI (3 : Int32), sI ii, sR a105, sR a114, sR a117, sR a120, sR a123, sR a105, sR a105, sR a105, sR a105, sI (6 : Int32), sI (7 : Int32), sI (4 : Int32), sI (5 : Int32), sJ v251, uS, sJ v252, uS, sJ v253, uS, sJ v254, uS, sJ wr, uS, uU, uU, uU, uU, uU, uU, uU, uU, uU, uU, uU]) rfl (XT.lload X255.here hx rfl (hb hby at_391) rfl (XT.lload X255.here hx rfl (hb hby at_393) rfl (XT.lload X255.here hx rfl (hb hby at_395) rfl (XT.lload X255.here hx rfl (hb hby at_397) rfl k))))) ?_
    show OwnGo _ _ _ _ (T255.setTop (mkF m 399 #[sI p0, sI p1, sI p2, sI p3, sJ p4, uS, sI p5, sJ y0, uS, sJ y1, uS, sJ y2, uS, sJ y3, uS, sJ y4, uS, sJ y5, uS, sI (3 : Int32), sI ii, sR a105, sR a114, sR a117, sR a120, sR a123, sR a105, sR a105, sR a105, sR a105, sI (6 : Int32), sI (7 : Int32), sI (4 : Int32), sI (5 : Int32), sJ v251, uS, sJ v252, uS, sJ v253, uS, sJ v254, uS, sJ wr, uS, uU, uU, uU, uU, uU, uU, uU, uU, uU, uU, uU] [(.long y5), (.long y4), (.long v254), (.long v253)]))
    obtain ⟨_, _, ⟨T256, L256, k256, n256⟩, -, X256, ⟨Lc256, hQ256, l256, y256, z256⟩, st256⟩ := Jvm.LawKit.callS X255 hx (y := (⟨"com/example/isochron/isochron/dsp/FourierJoinPinLaw", "mulIm", "(JJJJ)J"⟩ : MethodName)) hown (mvT hZ (hw _ (List.mem_of_getElem? (i := 13) rfl))) (mvT hZ (hw _ (List.mem_of_getElem? (i := 14) rfl))) (mvT hZ (hw _ (List.mem_of_getElem? (i := 2) rfl))) (mvT hZ (hw _ (List.mem_of_getElem? (i := 15) rfl))) (by decide) (backOf (W := 0) (rm := ({ frames := 0, cells := 0, slots := 0, locals := 0 } : Room)) (Q := Q_rmIm Z v253 v254 y4 y5 j253 j254 jy4 jy5 T250.heap n0) (rmIm l Z a0 hw [] v253 v254 y4 y5 j253 j254 jy4 jy5 T250.heap n0 Z250 F253 (own_bd_le B253 (by decide)) F254 (own_bd_le B254 (by decide)) Fy4 (own_bd_le by4 (by decide)) Fy5 (own_bd_le by5 (by decide))) hZ (hw _ (List.mem_of_getElem? (i := 15) rfl)) (hw _ (List.mem_of_getElem? (i := 2) rfl)) (by decide) (by decide)) (g := (mkF m 399 #[sI p0, sI p1, sI p2, sI p3, sJ p4, uS, sI p5, sJ y0, uS, sJ y1, uS, sJ y2, uS, sJ y3, uS, sJ y4, uS, sJ y5, uS, sI (3 : Int32), sI ii, sR a105, sR a114, sR a117, sR a120, sR a123, sR a105, sR a105, sR a105, sR a105, sI (6 : Int32), sI (7 : Int32), sI (4 : Int32), sI (5 : Int32), sJ v251, uS, sJ v252, uS, sJ v253, uS, sJ v254, uS, sJ wr, uS, uU, uU, uU, uU, uU, uU, uU, uU, uU, uU, uU] [(.long y5), (.long y4), (.long v254), (.long v253)])) rfl (by rw [hml]; rfl) (argsL := [(.long v253), (.long v254), (.long y4), (.long y5)]) (rest := []) (lenOf pd_rmIm rfl) rfl (by show 2 * 0 + _ ≤ _; exact Nat.le_of_eq rfl) (hb hby at_399) (fun _ _ => ⟨rfl, e255, (by decide : 5 + 0 ≤ _), (by decide : 16 + 0 ≤ _)⟩)
    dsimp only [Pt.U, Pt.locs, Pt.cells, Pt.slots] at X256 l256 y256 z256 st256 hQ256
    replace l256 := l256.symm
    replace y256 := y256.symm
    replace z256 := z256.symm
    subst l256 y256 z256
    obtain ⟨wi, rfl, Fwi, N256, e256⟩ := hQ256
    refine OwnGo.pre (fun t k => st256 t k) ?_
    show OwnGo _ _ _ _ (T256.setTop (mkF m 402 #[sI p0, sI p1, sI p2, sI p3, sJ p4, uS, sI p5, sJ y0, uS, sJ y1, uS, sJ y2, uS, sJ y3, uS, sJ y4, uS, sJ y5, uS, sI (3 : Int32), sI ii, sR a105, sR a114, sR a117, sR a120, sR a123, sR a105, sR a105, sR a105, sR a105, sI (6 : Int32), sI (7 : Int32), sI (4 : Int32), sI (5 : Int32), sJ v251, uS, sJ v252, uS, sJ v253, uS, sJ v254, uS, sJ wr, uS, uU, uU, uU, uU, uU, uU, uU, uU, uU, uU, uU] [(.long wi)]))
    have M256 := Fr.app M255 N256
    obtain ⟨jwi, hjwi⟩ : ∃ i : Int, i = j253 * jy5 + j254 * jy4 := ⟨_, rfl⟩
    rw [← hjwi] at Fwi
    have Bwi : -281474976710656 ≤ jwi ∧ jwi ≤ 281474976710656 := by rw [hjwi]; exact own_bd_add (own_bd_mul B253 by5 rfl) (own_bd_mul B254 by4 rfl) (by decide)
    refine OwnGo.pre (fun t k => XT.lstore X256.here hx rfl (hb hby at_402) rfl (l' := #[sI p0, sI p1, sI p2, sI p3, sJ p4, uS, sI p5, sJ y0, uS, sJ y1, uS, sJ y2, uS, sJ y3, uS, sJ y4, uS, sJ y5, uS, sI (3 : Int32), sI ii, sR a105, sR a114, sR a117, sR a120, sR a123, sR a105, sR a105, sR a105, sR a105, sI (6 : Int32), sI (7 : Int32), sI (4 : Int32), sI (5 : Int32), sJ v251, uS, sJ v252, uS, sJ v253, uS, sJ v254, uS, sJ wr, uS, sJ wi, uS, uU, uU, uU, uU, uU, uU, uU, uU, uU]) rfl (XS.aload X256.here hx rfl (hb hby at_404) rfl rfl (XS.iload X256.here hx rfl (hb hby at_406) rfl (own_daL X256 hx hZ e256 AFo0z (j := (6 : Int32)) (by decide) (i := 6) (by decide) (x := ro0_6z) rfl (g := (mkF m 408 #[sI p0, sI p1, sI p2, sI p3, sJ p4, uS, sI p5, sJ y0, uS, sJ y1, uS, sJ y2, uS, sJ y3, uS, sJ y4, uS, sJ y5, uS, sI (3 : Int32), sI ii, sR a105, sR a114, sR a117, sR a120, sR a123, sR a105, sR a105, sR a105, sR a105, sI (6 : Int32), sI (7 : Int32), sI (4 : Int32), sI (5 : Int32), sJ v251, uS, sJ v252, uS, sJ v253, uS, sJ v254, uS, sJ wr, uS, sJ wi, uS, uU, uU, uU, uU, uU, uU, uU, uU, uU] [(.int (6 : Int32)), (.ref a105)])) rfl (rest := []) rfl (hb hby at_408) (XS.dstore X256.here hx rfl (hb hby at_409) rfl (l' := #[sI p0, sI p1, sI p2, sI p3, sJ p4, uS, sI p5, sJ y0, uS, sJ y1, uS, sJ y2, uS, sJ y3, uS, sJ y4, uS, sJ y5, uS, sI (3 : Int32), sI ii, sR a105, sR a114, sR a117, sR a120, sR a123, sR a105, sR a105, sR a105, sR a105, sI (6 : Int32), sI (7 : Int32), sI (4 : Int32), sI (5 : Int32), sJ v251, uS, sJ v252, uS, sJ v253, uS, sJ v254, uS, sJ wr, uS, sJ wi, uS, sD ro0_6z, uS, uU, uU, uU, uU, uU, uU, uU]) rfl (XS.aload X256.here hx rfl (hb hby at_411) rfl rfl (XS.iload X256.here hx rfl (hb hby at_413) rfl (own_daL X256 hx hZ e256 AFo0z (j := (7 : Int32)) (by decide) (i := 7) (by decide) (x := ro0_7z) rfl (g := (mkF m 415 #[sI p0, sI p1, sI p2, sI p3, sJ p4, uS, sI p5, sJ y0, uS, sJ y1, uS, sJ y2, uS, sJ y3, uS, sJ y4, uS, sJ y5, uS, sI (3 : Int32), sI ii, sR a105, sR a114, sR a117, sR a120, sR a123, sR a105, sR a105, sR a105, sR a105, sI (6 : Int32), sI (7 : Int32), sI (4 : Int32), sI (5 : Int32), sJ v251, uS, sJ v252, uS, sJ v253, uS, sJ v254, uS, sJ wr, uS, sJ wi, uS, sD ro0_6z, uS, uU, uU, uU, uU, uU, uU, uU] [(.int (7 : Int32)), (.ref a105)])) rfl (rest := []) rfl (hb hby at_415) k)))))))) ?_
    show OwnGo _ _ _ _ (T256.setTop (mkF m 416 #[sI p0, sI p1, sI p2, sI p3, sJ p4, uS, sI p5, sJ y0, uS, sJ y1, uS, sJ y2, uS, sJ y3, uS, sJ y4, uS, sJ y5, uS, sI (3 : Int32), sI ii, sR a105, sR a114, sR a117, sR a120, sR a123, sR a105, sR a105, sR a105, sR a105, sI (6 : Int32), sI (7 : Int32), sI (4 : Int32), sI (5 : Int32), sJ v251, uS, sJ v252, uS, sJ v253, uS, sJ v254, uS, sJ wr, uS, sJ wi, uS, sD ro0_6z, uS, uU, uU, uU, uU, uU, uU, uU] [(.double ro0_7z)]))
    refine OwnGo.pre (fun t k => XS.dstore X256.here hx rfl (hb hby at_416) rfl (l' := #[sI p0, sI p1, sI p2, sI p3, sJ p4, uS, sI p5, sJ y0, uS, sJ y1, uS, sJ y2, uS, sJ y3, uS, sJ y4, uS, sJ y5, uS, sI (3 : Int32), sI ii, sR a105, sR a114, sR a117, sR a120, sR a123, sR a105, sR a105, sR a105, sR a105, sI (6 : Int32), sI (7 : Int32), sI (4 : Int32), sI (5 : Int32), sJ v251, uS, sJ v252, uS, sJ v253, uS, sJ v254, uS, sJ wr, uS, sJ wi, uS, sD ro0_6z, uS, sD ro0_7z, uS, uU, uU, uU, uU, uU]) rfl (XS.aload X256.here hx rfl (hb hby at_418) rfl rfl (XS.iload X256.here hx rfl (hb hby at_420) rfl (own_daL X256 hx hZ e256 AFo0z (j := (4 : Int32)) (by decide) (i := 4) (by decide) (x := ro0_4z) rfl (g := (mkF m 422 #[sI p0, sI p1, sI p2, sI p3, sJ p4, uS, sI p5, sJ y0, uS, sJ y1, uS, sJ y2, uS, sJ y3, uS, sJ y4, uS, sJ y5, uS, sI (3 : Int32), sI ii, sR a105, sR a114, sR a117, sR a120, sR a123, sR a105, sR a105, sR a105, sR a105, sI (6 : Int32), sI (7 : Int32), sI (4 : Int32), sI (5 : Int32), sJ v251, uS, sJ v252, uS, sJ v253, uS, sJ v254, uS, sJ wr, uS, sJ wi, uS, sD ro0_6z, uS, sD ro0_7z, uS, uU, uU, uU, uU, uU] [(.int (4 : Int32)), (.ref a105)])) rfl (rest := []) rfl (hb hby at_422) (XS.dstore X256.here hx rfl (hb hby at_423) rfl (l' := #[sI p0, sI p1, sI p2, sI p3, sJ p4, uS, sI p5, sJ y0, uS, sJ y1, uS, sJ y2, uS, sJ y3, uS, sJ y4, uS, sJ y5, uS, sI (3 : Int32), sI ii, sR a105, sR a114, sR a117, sR a120, sR a123, sR a105, sR a105, sR a105, sR a105, sI (6 : Int32), sI (7 : Int32), sI (4 : Int32), sI (5 : Int32), sJ v251, uS, sJ v252, uS, sJ v253, uS, sJ v254, uS, sJ wr, uS, sJ wi, uS, sD ro0_6z, uS, sD ro0_7z, uS, sD ro0_4z, uS, uU, uU, uU]) rfl (XS.aload X256.here hx rfl (hb hby at_425) rfl rfl (XS.iload X256.here hx rfl (hb hby at_427) rfl (own_daL X256 hx hZ e256 AFo0z (j := (5 : Int32)) (by decide) (i := 5) (by decide) (x := ro0_5z) rfl (g := (mkF m 429 #[sI p0, sI p1, sI p2, sI p3, sJ p4, uS, sI p5, sJ y0, uS, sJ y1, uS, sJ y2, uS, sJ y3, uS, sJ y4, uS, sJ y5, uS, sI (3 : Int32), sI ii, sR a105, sR a114, sR a117, sR a120, sR a123, sR a105, sR a105, sR a105, sR a105, sI (6 : Int32), sI (7 : Int32), sI (4 : Int32), sI (5 : Int32), sJ v251, uS, sJ v252, uS, sJ v253, uS, sJ v254, uS, sJ wr, uS, sJ wi, uS, sD ro0_6z, uS, sD ro0_7z, uS, sD ro0_4z, uS, uU, uU, uU] [(.int (5 : Int32)), (.ref a105)])) rfl (rest := []) rfl (hb hby at_429) k)))))))) ?_
    show OwnGo _ _ _ _ (T256.setTop (mkF m 430 #[sI p0, sI p1, sI p2, sI p3, sJ p4, uS, sI p5, sJ y0, uS, sJ y1, uS, sJ y2, uS, sJ y3, uS, sJ y4, uS, sJ y5, uS, sI (3 : Int32), sI ii, sR a105, sR a114, sR a117, sR a120, sR a123, sR a105, sR a105, sR a105, sR a105, sI (6 : Int32), sI (7 : Int32), sI (4 : Int32), sI (5 : Int32), sJ v251, uS, sJ v252, uS, sJ v253, uS, sJ v254, uS, sJ wr, uS, sJ wi, uS, sD ro0_6z, uS, sD ro0_7z, uS, sD ro0_4z, uS, uU, uU, uU] [(.double ro0_5z)]))
    refine OwnGo.pre (fun t k => XS.dstore X256.here hx rfl (hb hby at_430) rfl (l' := #[sI p0, sI p1, sI p2, sI p3, sJ p4, uS, sI p5, sJ y0, uS, sJ y1, uS, sJ y2, uS, sJ y3, uS, sJ y4, uS, sJ y5, uS, sI (3 : Int32), sI ii, sR a105, sR a114, sR a117, sR a120, sR a123, sR a105, sR a105, sR a105, sR a105, sI (6 : Int32), sI (7 : Int32), sI (4 : Int32), sI (5 : Int32), sJ v251, uS, sJ v252, uS, sJ v253, uS, sJ v254, uS, sJ wr, uS, sJ wi, uS, sD ro0_6z, uS, sD ro0_7z, uS, sD ro0_4z, uS, sD ro0_5z, uS, uU]) rfl (XS.dload X256.here hx rfl (hb hby at_432) rfl k)) ?_
    show OwnGo _ _ _ _ (T256.setTop (mkF m 434 #[sI p0, sI p1, sI p2, sI p3, sJ p4, uS, sI p5, sJ y0, uS, sJ y1, uS, sJ y2, uS, sJ y3, uS, sJ y4, uS, sJ y5, uS, sI (3 : Int32), sI ii, sR a105, sR a114, sR a117, sR a120, sR a123, sR a105, sR a105, sR a105, sR a105, sI (6 : Int32), sI (7 : Int32), sI (4 : Int32), sI (5 : Int32), sJ v251, uS, sJ v252, uS, sJ v253, uS, sJ v254, uS, sJ wr, uS, sJ wi, uS, sD ro0_6z, uS, sD ro0_7z, uS, sD ro0_4z, uS, sD ro0_5z, uS, uU] [(.double ro0_4z)]))
    obtain ⟨_, _, ⟨T257, L257, k257, n257⟩, -, X257, ⟨Lc257, hQ257, l257, y257, z257⟩, st257⟩ := Jvm.LawKit.callS X256 hx (y := (⟨"com/example/isochron/isochron/dsp/FourierJoinPinLaw", "whole", "(D)Z"⟩ : MethodName)) hown (mvT hZ (hw _ (List.mem_of_getElem? (i := 16) rfl))) (mvT hZ (hw _ (List.mem_of_getElem? (i := 17) rfl))) (mvT hZ (hw _ (List.mem_of_getElem? (i := 2) rfl))) (mvT hZ (hw _ (List.mem_of_getElem? (i := 18) rfl))) (by decide) (backOf (W := 0) (rm := ({ frames := 0, cells := 0, slots := 0, locals := 0 } : Room)) (Q := Q_rmW Z ro0_4z jro0_4z T250.heap n0) (rmW l Z a0 hw [] ro0_4z jro0_4z T250.heap n0 Z250 Hro0_4z (own_bd_le Bjro0_4z (by decide))) hZ (hw _ (List.mem_of_getElem? (i := 18) rfl)) (hw _ (List.mem_of_getElem? (i := 2) rfl)) (by decide) (by decide)) (g := (mkF m 434 #[sI p0, sI p1, sI p2, sI p3, sJ p4, uS, sI p5, sJ y0, uS, sJ y1, uS, sJ y2, uS, sJ y3, uS, sJ y4, uS, sJ y5, uS, sI (3 : Int32), sI ii, sR a105, sR a114, sR a117, sR a120, sR a123, sR a105, sR a105, sR a105, sR a105, sI (6 : Int32), sI (7 : Int32), sI (4 : Int32), sI (5 : Int32), sJ v251, uS, sJ v252, uS, sJ v253, uS, sJ v254, uS, sJ wr, uS, sJ wi, uS, sD ro0_6z, uS, sD ro0_7z, uS, sD ro0_4z, uS, sD ro0_5z, uS, uU] [(.double ro0_4z)])) rfl (by rw [hml]; rfl) (argsL := [(.double ro0_4z)]) (rest := []) (lenOf pd_rmW rfl) rfl (by show 2 * 0 + _ ≤ _; exact Nat.le_of_eq rfl) (hb hby at_434) (fun _ _ => ⟨rfl, e256, (by decide : 5 + 0 ≤ _), (by decide : 16 + 0 ≤ _)⟩)
    dsimp only [Pt.U, Pt.locs, Pt.cells, Pt.slots] at X257 l257 y257 z257 st257 hQ257
    replace l257 := l257.symm
    replace y257 := y257.symm
    replace z257 := z257.symm
    subst l257 y257 z257
    obtain ⟨rfl, N257, e257⟩ := hQ257
    refine OwnGo.pre (fun t k => st257 t k) ?_
    show OwnGo _ _ _ _ (T257.setTop (mkF m 437 #[sI p0, sI p1, sI p2, sI p3, sJ p4, uS, sI p5, sJ y0, uS, sJ y1, uS, sJ y2, uS, sJ y3, uS, sJ y4, uS, sJ y5, uS, sI (3 : Int32), sI ii, sR a105, sR a114, sR a117, sR a120, sR a123, sR a105, sR a105, sR a105, sR a105, sI (6 : Int32), sI (7 : Int32), sI (4 : Int32), sI (5 : Int32), sJ v251, uS, sJ v252, uS, sJ v253, uS, sJ v254, uS, sJ wr, uS, sJ wi, uS, sD ro0_6z, uS, sD ro0_7z, uS, sD ro0_4z, uS, sD ro0_5z, uS, uU] [(.int (1 : Int32))]))
    have M257 := Fr.app M256 N257
    refine OwnGo.pre (fun t k => XS.ifNo X257.here hx rfl (hb hby at_437) rfl (by decide) (XS.dload X257.here hx rfl (hb hby at_440) rfl k)) ?_
    show OwnGo _ _ _ _ (T257.setTop (mkF m 442 #[sI p0, sI p1, sI p2, sI p3, sJ p4, uS, sI p5, sJ y0, uS, sJ y1, uS, sJ y2, uS, sJ y3, uS, sJ y4, uS, sJ y5, uS, sI (3 : Int32), sI ii, sR a105, sR a114, sR a117, sR a120, sR a123, sR a105, sR a105, sR a105, sR a105, sI (6 : Int32), sI (7 : Int32), sI (4 : Int32), sI (5 : Int32), sJ v251, uS, sJ v252, uS, sJ v253, uS, sJ v254, uS, sJ wr, uS, sJ wi, uS, sD ro0_6z, uS, sD ro0_7z, uS, sD ro0_4z, uS, sD ro0_5z, uS, uU] [(.double ro0_5z)]))
    obtain ⟨_, _, ⟨T258, L258, k258, n258⟩, -, X258, ⟨Lc258, hQ258, l258, y258, z258⟩, st258⟩ := Jvm.LawKit.callS X257 hx (y := (⟨"com/example/isochron/isochron/dsp/FourierJoinPinLaw", "whole", "(D)Z"⟩ : MethodName)) hown (mvT hZ (hw _ (List.mem_of_getElem? (i := 16) rfl))) (mvT hZ (hw _ (List.mem_of_getElem? (i := 17) rfl))) (mvT hZ (hw _ (List.mem_of_getElem? (i := 2) rfl))) (mvT hZ (hw _ (List.mem_of_getElem? (i := 18) rfl))) (by decide) (backOf (W := 0) (rm := ({ frames := 0, cells := 0, slots := 0, locals := 0 } : Room)) (Q := Q_rmW Z ro0_5z jro0_5z T250.heap n0) (rmW l Z a0 hw [] ro0_5z jro0_5z T250.heap n0 Z250 Hro0_5z (own_bd_le Bjro0_5z (by decide))) hZ (hw _ (List.mem_of_getElem? (i := 18) rfl)) (hw _ (List.mem_of_getElem? (i := 2) rfl)) (by decide) (by decide)) (g := (mkF m 442 #[sI p0, sI p1, sI p2, sI p3, sJ p4, uS, sI p5, sJ y0, uS, sJ y1, uS, sJ y2, uS, sJ y3, uS, sJ y4, uS, sJ y5, uS, sI (3 : Int32), sI ii, sR a105, sR a114, sR a117, sR a120, sR a123, sR a105, sR a105, sR a105, sR a105, sI (6 : Int32), sI (7 : Int32), sI (4 : Int32), sI (5 : Int32), sJ v251, uS, sJ v252, uS, sJ v253, uS, sJ v254, uS, sJ wr, uS, sJ wi, uS, sD ro0_6z, uS, sD ro0_7z, uS, sD ro0_4z, uS, sD ro0_5z, uS, uU] [(.double ro0_5z)])) rfl (by rw [hml]; rfl) (argsL := [(.double ro0_5z)]) (rest := []) (lenOf pd_rmW rfl) rfl (by show 2 * 0 + _ ≤ _; exact Nat.le_of_eq rfl) (hb hby at_442) (fun _ _ => ⟨rfl, e257, (by decide : 5 + 0 ≤ _), (by decide : 16 + 0 ≤ _)⟩)
    dsimp only [Pt.U, Pt.locs, Pt.cells, Pt.slots] at X258 l258 y258 z258 st258 hQ258
    replace l258 := l258.symm
    replace y258 := y258.symm
    replace z258 := z258.symm
    subst l258 y258 z258
    obtain ⟨rfl, N258, e258⟩ := hQ258
    refine OwnGo.pre (fun t k => st258 t k) ?_
    show OwnGo _ _ _ _ (T258.setTop (mkF m 445 #[sI p0, sI p1, sI p2, sI p3, sJ p4, uS, sI p5, sJ y0, uS, sJ y1, uS, sJ y2, uS, sJ y3, uS, sJ y4, uS, sJ y5, uS, sI (3 : Int32), sI ii, sR a105, sR a114, sR a117, sR a120, sR a123, sR a105, sR a105, sR a105, sR a105, sI (6 : Int32), sI (7 : Int32), sI (4 : Int32), sI (5 : Int32), sJ v251, uS, sJ v252, uS, sJ v253, uS, sJ v254, uS, sJ wr, uS, sJ wi, uS, sD ro0_6z, uS, sD ro0_7z, uS, sD ro0_4z, uS, sD ro0_5z, uS, uU] [(.int (1 : Int32))]))
    have M258 := Fr.app M257 N258
    obtain ⟨v259, hv259⟩ : ∃ v, FP.d2l ro0_4z = v := ⟨_, rfl⟩
    have F259 : v259.toInt = jro0_4z := by rw [← hv259]; exact own_d2lb Hro0_4z Bjro0_4z (by decide)
    obtain ⟨v260, hv260⟩ : ∃ v, v251 + wi = v := ⟨_, rfl⟩
    obtain ⟨j260, hj260⟩ : ∃ i : Int, i = j251 + jwi := ⟨_, rfl⟩
    have B260 : -281474993487872 ≤ j260 ∧ j260 ≤ 281474993487872 := by rw [hj260]; exact own_bd_add B251 Bwi (by decide)
    have F260 : v260.toInt = j260 := own_lf_add hv260 F251 Fwi B251 Bwi (by decide) hj260
    refine OwnGo.pre (fun t k => XS.ifNo X258.here hx rfl (hb hby at_445) rfl (by decide) (XS.dload X258.here hx rfl (hb hby at_448) rfl (XS.d2lS X258.here hx rfl (hb hby at_450) rfl hv259 (XT.lload X258.here hx rfl (hb hby at_451) rfl (XT.lload X258.here hx rfl (hb hby at_453) rfl (own_ladd X258.here hx rfl (hb hby at_455) rfl hv260 (own_lcmp X258.here hx rfl (hb hby at_456) rfl rfl k))))))) ?_
    show OwnGo _ _ _ _ (T258.setTop (mkF m 457 #[sI p0, sI p1, sI p2, sI p3, sJ p4, uS, sI p5, sJ y0, uS, sJ y1, uS, sJ y2, uS, sJ y3, uS, sJ y4, uS, sJ y5, uS, sI (3 : Int32), sI ii, sR a105, sR a114, sR a117, sR a120, sR a123, sR a105, sR a105, sR a105, sR a105, sI (6 : Int32), sI (7 : Int32), sI (4 : Int32), sI (5 : Int32), sJ v251, uS, sJ v252, uS, sJ v253, uS, sJ v254, uS, sJ wr, uS, sJ wi, uS, sD ro0_6z, uS, sD ro0_7z, uS, sD ro0_4z, uS, sD ro0_5z, uS, uU] [(.int (XT.cmpL v259 v260))]))
    have q457 : v259.toInt = v260.toInt := by rw [F259, F260]; simp only [hjro0_4z, hj260, hj251, hjwi, hj253, hj254] <;> exact own_eq0 jy0 jy2 jy5 jy1 jy3 jy4
    obtain ⟨v261, hv261⟩ : ∃ v, FP.d2l ro0_5z = v := ⟨_, rfl⟩
    have F261 : v261.toInt = jro0_5z := by rw [← hv261]; exact own_d2lb Hro0_5z Bjro0_5z (by decide)
    obtain ⟨v262, hv262⟩ : ∃ v, -v261 = v := ⟨_, rfl⟩
    obtain ⟨j262, hj262⟩ : ∃ i : Int, i = -jro0_5z := ⟨_, rfl⟩
    have B262 : -281474993487872 ≤ j262 ∧ j262 ≤ 281474993487872 := by rw [hj262]; exact own_bd_neg Bjro0_5z
    have F262 : v262.toInt = j262 := own_lf_neg hv262 F261 Bjro0_5z (by decide) hj262
    obtain ⟨v263, hv263⟩ : ∃ v, v252 - wr = v := ⟨_, rfl⟩
    obtain ⟨j263, hj263⟩ : ∃ i : Int, i = j252 - jwr := ⟨_, rfl⟩
    have B263 : -281474993487872 ≤ j263 ∧ j263 ≤ 281474993487872 := by rw [hj263]; exact own_bd_sub B252 Bwr (by decide)
    have F263 : v263.toInt = j263 := own_lf_sub hv263 F252 Fwr B252 Bwr (by decide) hj263
    refine OwnGo.pre (fun t k => XS.ifNo X258.here hx rfl (hb hby at_457) rfl ((own_brL .ne _ _).trans (decide_eq_false (fun q => q q457))) (XS.dload X258.here hx rfl (hb hby at_460) rfl (XS.d2lS X258.here hx rfl (hb hby at_462) rfl hv261 (own_lneg X258.here hx rfl (hb hby at_463) rfl hv262 (XT.lload X258.here hx rfl (hb hby at_464) rfl (XT.lload X258.here hx rfl (hb hby at_466) rfl (own_lsub X258.here hx rfl (hb hby at_468) rfl hv263 (own_lcmp X258.here hx rfl (hb hby at_469) rfl rfl k)))))))) ?_
    show OwnGo _ _ _ _ (T258.setTop (mkF m 470 #[sI p0, sI p1, sI p2, sI p3, sJ p4, uS, sI p5, sJ y0, uS, sJ y1, uS, sJ y2, uS, sJ y3, uS, sJ y4, uS, sJ y5, uS, sI (3 : Int32), sI ii, sR a105, sR a114, sR a117, sR a120, sR a123, sR a105, sR a105, sR a105, sR a105, sI (6 : Int32), sI (7 : Int32), sI (4 : Int32), sI (5 : Int32), sJ v251, uS, sJ v252, uS, sJ v253, uS, sJ v254, uS, sJ wr, uS, sJ wi, uS, sD ro0_6z, uS, sD ro0_7z, uS, sD ro0_4z, uS, sD ro0_5z, uS, uU] [(.int (XT.cmpL v262 v263))]))
    have q470 : v262.toInt = v263.toInt := by rw [F262, F263]; simp only [hj262, hjro0_5z, hj263, hj252, hjwr, hj253, hj254] <;> exact own_eq1 jy0 jy2 jy4 jy1 jy3 jy5
    refine OwnGo.pre (fun t k => XS.ifNo X258.here hx rfl (hb hby at_470) rfl ((own_brL .ne _ _).trans (decide_eq_false (fun q => q q470))) (XS.iconst X258.here hx rfl (hb hby at_473) (XS.goto X258.here hx rfl (pc0 := 474) (pc' := 478) rfl (hb hby at_474) (by decide) (by decide) (XS.istore X258.here hx rfl (hb hby at_478) rfl (l' := #[sI p0, sI p1, sI p2, sI p3, sJ p4, uS, sI p5, sJ y0, uS, sJ y1, uS, sJ y2, uS, sJ y3, uS, sJ y4, uS, sJ y5, uS, sI (3 : Int32), sI ii, sR a105, sR a114, sR a117, sR a120, sR a123, sR a105, sR a105, sR a105, sR a105, sI (6 : Int32), sI (7 : Int32), sI (4 : Int32), sI (5 : Int32), sJ v251, uS, sJ v252, uS, sJ v253, uS, sJ v254, uS, sJ wr, uS, sJ wi, uS, sD ro0_6z, uS, sD ro0_7z, uS, sD ro0_4z, uS, sD ro0_5z, uS, sI (1 : Int32)]) rfl (XS.iload X258.here hx rfl (hb hby at_480) rfl (XS.iconst X258.here hx rfl (hb hby at_482) (XS.icmpNo X258.here hx rfl (hb hby at_483) rfl (by decide) (XS.iload X258.here hx rfl (hb hby at_486) rfl k)))))))) ?_
    show OwnGo _ _ _ _ (T258.setTop (mkF m 488 #[sI p0, sI p1, sI p2, sI p3, sJ p4, uS, sI p5, sJ y0, uS, sJ y1, uS, sJ y2, uS, sJ y3, uS, sJ y4, uS, sJ y5, uS, sI (3 : Int32), sI ii, sR a105, sR a114, sR a117, sR a120, sR a123, sR a105, sR a105, sR a105, sR a105, sI (6 : Int32), sI (7 : Int32), sI (4 : Int32), sI (5 : Int32), sJ v251, uS, sJ v252, uS, sJ v253, uS, sJ v254, uS, sJ wr, uS, sJ wi, uS, sD ro0_6z, uS, sD ro0_7z, uS, sD ro0_4z, uS, sD ro0_5z, uS, sI (1 : Int32)] [(.int (1 : Int32))]))
    refine OwnGo.pre (fun t k => XS.ifNo X258.here hx rfl (hb hby at_488) rfl (by decide) (XS.dload X258.here hx rfl (hb hby at_491) rfl k)) ?_
    show OwnGo _ _ _ _ (T258.setTop (mkF m 493 #[sI p0, sI p1, sI p2, sI p3, sJ p4, uS, sI p5, sJ y0, uS, sJ y1, uS, sJ y2, uS, sJ y3, uS, sJ y4, uS, sJ y5, uS, sI (3 : Int32), sI ii, sR a105, sR a114, sR a117, sR a120, sR a123, sR a105, sR a105, sR a105, sR a105, sI (6 : Int32), sI (7 : Int32), sI (4 : Int32), sI (5 : Int32), sJ v251, uS, sJ v252, uS, sJ v253, uS, sJ v254, uS, sJ wr, uS, sJ wi, uS, sD ro0_6z, uS, sD ro0_7z, uS, sD ro0_4z, uS, sD ro0_5z, uS, sI (1 : Int32)] [(.double ro0_6z)]))
    obtain ⟨_, _, ⟨T264, L264, k264, n264⟩, -, X264, ⟨Lc264, hQ264, l264, y264, z264⟩, st264⟩ := Jvm.LawKit.callS X258 hx (y := (⟨"com/example/isochron/isochron/dsp/FourierJoinPinLaw", "whole", "(D)Z"⟩ : MethodName)) hown (mvT hZ (hw _ (List.mem_of_getElem? (i := 16) rfl))) (mvT hZ (hw _ (List.mem_of_getElem? (i := 17) rfl))) (mvT hZ (hw _ (List.mem_of_getElem? (i := 2) rfl))) (mvT hZ (hw _ (List.mem_of_getElem? (i := 18) rfl))) (by decide) (backOf (W := 0) (rm := ({ frames := 0, cells := 0, slots := 0, locals := 0 } : Room)) (Q := Q_rmW Z ro0_6z jro0_6z T250.heap n0) (rmW l Z a0 hw [] ro0_6z jro0_6z T250.heap n0 Z250 Hro0_6z (own_bd_le Bjro0_6z (by decide))) hZ (hw _ (List.mem_of_getElem? (i := 18) rfl)) (hw _ (List.mem_of_getElem? (i := 2) rfl)) (by decide) (by decide)) (g := (mkF m 493 #[sI p0, sI p1, sI p2, sI p3, sJ p4, uS, sI p5, sJ y0, uS, sJ y1, uS, sJ y2, uS, sJ y3, uS, sJ y4, uS, sJ y5, uS, sI (3 : Int32), sI ii, sR a105, sR a114, sR a117, sR a120, sR a123, sR a105, sR a105, sR a105, sR a105, sI (6 : Int32), sI (7 : Int32), sI (4 : Int32), sI (5 : Int32), sJ v251, uS, sJ v252, uS, sJ v253, uS, sJ v254, uS, sJ wr, uS, sJ wi, uS, sD ro0_6z, uS, sD ro0_7z, uS, sD ro0_4z, uS, sD ro0_5z, uS, sI (1 : Int32)] [(.double ro0_6z)])) rfl (by rw [hml]; rfl) (argsL := [(.double ro0_6z)]) (rest := []) (lenOf pd_rmW rfl) rfl (by show 2 * 0 + _ ≤ _; exact Nat.le_of_eq rfl) (hb hby at_493) (fun _ _ => ⟨rfl, e258, (by decide : 5 + 0 ≤ _), (by decide : 16 + 0 ≤ _)⟩)
    dsimp only [Pt.U, Pt.locs, Pt.cells, Pt.slots] at X264 l264 y264 z264 st264 hQ264
    replace l264 := l264.symm
    replace y264 := y264.symm
    replace z264 := z264.symm
    subst l264 y264 z264
    obtain ⟨rfl, N264, e264⟩ := hQ264
    refine OwnGo.pre (fun t k => st264 t k) ?_
    show OwnGo _ _ _ _ (T264.setTop (mkF m 496 #[sI p0, sI p1, sI p2, sI p3, sJ p4, uS, sI p5, sJ y0, uS, sJ y1, uS, sJ y2, uS, sJ y3, uS, sJ y4, uS, sJ y5, uS, sI (3 : Int32), sI ii, sR a105, sR a114, sR a117, sR a120, sR a123, sR a105, sR a105, sR a105, sR a105, sI (6 : Int32), sI (7 : Int32), sI (4 : Int32), sI (5 : Int32), sJ v251, uS, sJ v252, uS, sJ v253, uS, sJ v254, uS, sJ wr, uS, sJ wi, uS, sD ro0_6z, uS, sD ro0_7z, uS, sD ro0_4z, uS, sD ro0_5z, uS, sI (1 : Int32)] [(.int (1 : Int32))]))
    have M264 := Fr.app M258 N264
    refine OwnGo.pre (fun t k => XS.ifNo X264.here hx rfl (hb hby at_496) rfl (by decide) (XS.dload X264.here hx rfl (hb hby at_499) rfl k)) ?_
    show OwnGo _ _ _ _ (T264.setTop (mkF m 501 #[sI p0, sI p1, sI p2, sI p3, sJ p4, uS, sI p5, sJ y0, uS, sJ y1, uS, sJ y2, uS, sJ y3, uS, sJ y4, uS, sJ y5, uS, sI (3 : Int32), sI ii, sR a105, sR a114, sR a117, sR a120, sR a123, sR a105, sR a105, sR a105, sR a105, sI (6 : Int32), sI (7 : Int32), sI (4 : Int32), sI (5 : Int32), sJ v251, uS, sJ v252, uS, sJ v253, uS, sJ v254, uS, sJ wr, uS, sJ wi, uS, sD ro0_6z, uS, sD ro0_7z, uS, sD ro0_4z, uS, sD ro0_5z, uS, sI (1 : Int32)] [(.double ro0_7z)]))
    obtain ⟨_, _, ⟨T265, L265, k265, n265⟩, -, X265, ⟨Lc265, hQ265, l265, y265, z265⟩, st265⟩ := Jvm.LawKit.callS X264 hx (y := (⟨"com/example/isochron/isochron/dsp/FourierJoinPinLaw", "whole", "(D)Z"⟩ : MethodName)) hown (mvT hZ (hw _ (List.mem_of_getElem? (i := 16) rfl))) (mvT hZ (hw _ (List.mem_of_getElem? (i := 17) rfl))) (mvT hZ (hw _ (List.mem_of_getElem? (i := 2) rfl))) (mvT hZ (hw _ (List.mem_of_getElem? (i := 18) rfl))) (by decide) (backOf (W := 0) (rm := ({ frames := 0, cells := 0, slots := 0, locals := 0 } : Room)) (Q := Q_rmW Z ro0_7z jro0_7z T250.heap n0) (rmW l Z a0 hw [] ro0_7z jro0_7z T250.heap n0 Z250 Hro0_7z (own_bd_le Bjro0_7z (by decide))) hZ (hw _ (List.mem_of_getElem? (i := 18) rfl)) (hw _ (List.mem_of_getElem? (i := 2) rfl)) (by decide) (by decide)) (g := (mkF m 501 #[sI p0, sI p1, sI p2, sI p3, sJ p4, uS, sI p5, sJ y0, uS, sJ y1, uS, sJ y2, uS, sJ y3, uS, sJ y4, uS, sJ y5, uS, sI (3 : Int32), sI ii, sR a105, sR a114, sR a117, sR a120, sR a123, sR a105, sR a105, sR a105, sR a105, sI (6 : Int32), sI (7 : Int32), sI (4 : Int32), sI (5 : Int32), sJ v251, uS, sJ v252, uS, sJ v253, uS, sJ v254, uS, sJ wr, uS, sJ wi, uS, sD ro0_6z, uS, sD ro0_7z, uS, sD ro0_4z, uS, sD ro0_5z, uS, sI (1 : Int32)] [(.double ro0_7z)])) rfl (by rw [hml]; rfl) (argsL := [(.double ro0_7z)]) (rest := []) (lenOf pd_rmW rfl) rfl (by show 2 * 0 + _ ≤ _; exact Nat.le_of_eq rfl) (hb hby at_501) (fun _ _ => ⟨rfl, e264, (by decide : 5 + 0 ≤ _), (by decide : 16 + 0 ≤ _)⟩)
    dsimp only [Pt.U, Pt.locs, Pt.cells, Pt.slots] at X265 l265 y265 z265 st265 hQ265
    replace l265 := l265.symm
    replace y265 := y265.symm
    replace z265 := z265.symm
    subst l265 y265 z265
    obtain ⟨rfl, N265, e265⟩ := hQ265
    refine OwnGo.pre (fun t k => st265 t k) ?_
    show OwnGo _ _ _ _ (T265.setTop (mkF m 504 #[sI p0, sI p1, sI p2, sI p3, sJ p4, uS, sI p5, sJ y0, uS, sJ y1, uS, sJ y2, uS, sJ y3, uS, sJ y4, uS, sJ y5, uS, sI (3 : Int32), sI ii, sR a105, sR a114, sR a117, sR a120, sR a123, sR a105, sR a105, sR a105, sR a105, sI (6 : Int32), sI (7 : Int32), sI (4 : Int32), sI (5 : Int32), sJ v251, uS, sJ v252, uS, sJ v253, uS, sJ v254, uS, sJ wr, uS, sJ wi, uS, sD ro0_6z, uS, sD ro0_7z, uS, sD ro0_4z, uS, sD ro0_5z, uS, sI (1 : Int32)] [(.int (1 : Int32))]))
    have M265 := Fr.app M264 N265
    obtain ⟨v266, hv266⟩ : ∃ v, FP.d2l ro0_6z = v := ⟨_, rfl⟩
    have F266 : v266.toInt = jro0_6z := by rw [← hv266]; exact own_d2lb Hro0_6z Bjro0_6z (by decide)
    obtain ⟨v267, hv267⟩ : ∃ v, v251 - wi = v := ⟨_, rfl⟩
    obtain ⟨j267, hj267⟩ : ∃ i : Int, i = j251 - jwi := ⟨_, rfl⟩
    have B267 : -281474993487872 ≤ j267 ∧ j267 ≤ 281474993487872 := by rw [hj267]; exact own_bd_sub B251 Bwi (by decide)
    have F267 : v267.toInt = j267 := own_lf_sub hv267 F251 Fwi B251 Bwi (by decide) hj267
    refine OwnGo.pre (fun t k => XS.ifNo X265.here hx rfl (hb hby at_504) rfl (by decide) (XS.dload X265.here hx rfl (hb hby at_507) rfl (XS.d2lS X265.here hx rfl (hb hby at_509) rfl hv266 (XT.lload X265.here hx rfl (hb hby at_510) rfl (XT.lload X265.here hx rfl (hb hby at_512) rfl (own_lsub X265.here hx rfl (hb hby at_514) rfl hv267 (own_lcmp X265.here hx rfl (hb hby at_515) rfl rfl k))))))) ?_
    show OwnGo _ _ _ _ (T265.setTop (mkF m 516 #[sI p0, sI p1, sI p2, sI p3, sJ p4, uS, sI p5, sJ y0, uS, sJ y1, uS, sJ y2, uS, sJ y3, uS, sJ y4, uS, sJ y5, uS, sI (3 : Int32), sI ii, sR a105, sR a114, sR a117, sR a120, sR a123, sR a105, sR a105, sR a105, sR a105, sI (6 : Int32), sI (7 : Int32), sI (4 : Int32), sI (5 : Int32), sJ v251, uS, sJ v252, uS, sJ v253, uS, sJ v254, uS, sJ wr, uS, sJ wi, uS, sD ro0_6z, uS, sD ro0_7z, uS, sD ro0_4z, uS, sD ro0_5z, uS, sI (1 : Int32)] [(.int (XT.cmpL v266 v267))]))
    have q516 : v266.toInt = v267.toInt := by rw [F266, F267]; simp only [hjro0_6z, hj267, hj251, hjwi, hj253, hj254] <;> exact own_eq2 jy0 jy2 jy5 jy1 jy3 jy4
    obtain ⟨v268, hv268⟩ : ∃ v, FP.d2l ro0_7z = v := ⟨_, rfl⟩
    have F268 : v268.toInt = jro0_7z := by rw [← hv268]; exact own_d2lb Hro0_7z Bjro0_7z (by decide)
    obtain ⟨v269, hv269⟩ : ∃ v, v252 + wr = v := ⟨_, rfl⟩
    obtain ⟨j269, hj269⟩ : ∃ i : Int, i = j252 + jwr := ⟨_, rfl⟩
    have B269 : -281474993487872 ≤ j269 ∧ j269 ≤ 281474993487872 := by rw [hj269]; exact own_bd_add B252 Bwr (by decide)
    have F269 : v269.toInt = j269 := own_lf_add hv269 F252 Fwr B252 Bwr (by decide) hj269
    refine OwnGo.pre (fun t k => XS.ifNo X265.here hx rfl (hb hby at_516) rfl ((own_brL .ne _ _).trans (decide_eq_false (fun q => q q516))) (XS.dload X265.here hx rfl (hb hby at_519) rfl (XS.d2lS X265.here hx rfl (hb hby at_521) rfl hv268 (XT.lload X265.here hx rfl (hb hby at_522) rfl (XT.lload X265.here hx rfl (hb hby at_524) rfl (own_ladd X265.here hx rfl (hb hby at_526) rfl hv269 (own_lcmp X265.here hx rfl (hb hby at_527) rfl rfl k))))))) ?_
    show OwnGo _ _ _ _ (T265.setTop (mkF m 528 #[sI p0, sI p1, sI p2, sI p3, sJ p4, uS, sI p5, sJ y0, uS, sJ y1, uS, sJ y2, uS, sJ y3, uS, sJ y4, uS, sJ y5, uS, sI (3 : Int32), sI ii, sR a105, sR a114, sR a117, sR a120, sR a123, sR a105, sR a105, sR a105, sR a105, sI (6 : Int32), sI (7 : Int32), sI (4 : Int32), sI (5 : Int32), sJ v251, uS, sJ v252, uS, sJ v253, uS, sJ v254, uS, sJ wr, uS, sJ wi, uS, sD ro0_6z, uS, sD ro0_7z, uS, sD ro0_4z, uS, sD ro0_5z, uS, sI (1 : Int32)] [(.int (XT.cmpL v268 v269))]))
    have q528 : v268.toInt = v269.toInt := by rw [F268, F269]; simp only [hjro0_7z, hj269, hj252, hjwr, hj253, hj254] <;> exact own_eq3 jy1 jy3 jy0 jy2 jy4 jy5
    refine OwnGo.pre (fun t k => XS.ifNo X265.here hx rfl (hb hby at_528) rfl ((own_brL .ne _ _).trans (decide_eq_false (fun q => q q528))) (XS.iconst X265.here hx rfl (hb hby at_531) (XS.goto X265.here hx rfl (pc0 := 532) (pc' := 536) rfl (hb hby at_532) (by decide) (by decide) (XS.istore X265.here hx rfl (hb hby at_536) rfl (l' := #[sI p0, sI p1, sI p2, sI p3, sJ p4, uS, sI p5, sJ y0, uS, sJ y1, uS, sJ y2, uS, sJ y3, uS, sJ y4, uS, sJ y5, uS, sI (3 : Int32), sI ii, sR a105, sR a114, sR a117, sR a120, sR a123, sR a105, sR a105, sR a105, sR a105, sI (6 : Int32), sI (7 : Int32), sI (4 : Int32), sI (5 : Int32), sJ v251, uS, sJ v252, uS, sJ v253, uS, sJ v254, uS, sJ wr, uS, sJ wi, uS, sD ro0_6z, uS, sD ro0_7z, uS, sD ro0_4z, uS, sD ro0_5z, uS, sI (1 : Int32)]) rfl (XS.iload X265.here hx rfl (hb hby at_538) rfl (XS.ifYes X265.here hx rfl (pc0 := 540) (pc' := 604) rfl (hb hby at_540) rfl (by decide) (by decide) (by decide) (XS.iload X265.here hx rfl (hb hby at_604) rfl (XS.iconst X265.here hx rfl (hb hby at_606) k)))))))) ?_
    show OwnGo _ _ _ _ (T265.setTop (mkF m 607 #[sI p0, sI p1, sI p2, sI p3, sJ p4, uS, sI p5, sJ y0, uS, sJ y1, uS, sJ y2, uS, sJ y3, uS, sJ y4, uS, sJ y5, uS, sI (3 : Int32), sI ii, sR a105, sR a114, sR a117, sR a120, sR a123, sR a105, sR a105, sR a105, sR a105, sI (6 : Int32), sI (7 : Int32), sI (4 : Int32), sI (5 : Int32), sJ v251, uS, sJ v252, uS, sJ v253, uS, sJ v254, uS, sJ wr, uS, sJ wi, uS, sD ro0_6z, uS, sD ro0_7z, uS, sD ro0_4z, uS, sD ro0_5z, uS, sI (1 : Int32)] [(.int (1 : Int32)), (.int (3 : Int32))]))
    refine OwnGo.pre (fun t k => XS.icmpYes X265.here hx rfl (pc0 := 607) (pc' := 658) rfl (hb hby at_607) rfl (by decide) (by decide) (by decide) (XS.iload X265.here hx rfl (hb hby at_658) rfl (XS.iconst X265.here hx rfl (hb hby at_660) (XS.icmpYes X265.here hx rfl (pc0 := 661) (pc' := 746) rfl (hb hby at_661) rfl (by decide) (by decide) (by decide) (XS.iload X265.here hx rfl (hb hby at_746) rfl (XS.ifNo X265.here hx rfl (hb hby at_748) rfl (by decide) (XS.aload X265.here hx rfl (hb hby at_751) rfl rfl (XS.iconst X265.here hx rfl (hb hby at_753) k)))))))) ?_
    show OwnGo _ _ _ _ (T265.setTop (mkF m 754 #[sI p0, sI p1, sI p2, sI p3, sJ p4, uS, sI p5, sJ y0, uS, sJ y1, uS, sJ y2, uS, sJ y3, uS, sJ y4, uS, sJ y5, uS, sI (3 : Int32), sI ii, sR a105, sR a114, sR a117, sR a120, sR a123, sR a105, sR a105, sR a105, sR a105, sI (6 : Int32), sI (7 : Int32), sI (4 : Int32), sI (5 : Int32), sJ v251, uS, sJ v252, uS, sJ v253, uS, sJ v254, uS, sJ wr, uS, sJ wi, uS, sD ro0_6z, uS, sD ro0_7z, uS, sD ro0_4z, uS, sD ro0_5z, uS, sI (1 : Int32)] [(.int (0 : Int32)), (.ref a105)]))
    refine OwnGo.pre (fun t k => own_daL X265 hx hZ e265 AFo0z (j := (0 : Int32)) (by decide) (i := 0) (by decide) (x := (4602678819172646912 : UInt64)) rfl (g := (mkF m 754 #[sI p0, sI p1, sI p2, sI p3, sJ p4, uS, sI p5, sJ y0, uS, sJ y1, uS, sJ y2, uS, sJ y3, uS, sJ y4, uS, sJ y5, uS, sI (3 : Int32), sI ii, sR a105, sR a114, sR a117, sR a120, sR a123, sR a105, sR a105, sR a105, sR a105, sI (6 : Int32), sI (7 : Int32), sI (4 : Int32), sI (5 : Int32), sJ v251, uS, sJ v252, uS, sJ v253, uS, sJ v254, uS, sJ wr, uS, sJ wi, uS, sD ro0_6z, uS, sD ro0_7z, uS, sD ro0_4z, uS, sD ro0_5z, uS, sI (1 : Int32)] [(.int (0 : Int32)), (.ref a105)])) rfl (rest := []) rfl (hb hby at_754) (own_ldcD X265 hx hown (mvT hZ (hw _ (List.mem_of_getElem? (i := 5) rfl))) rfl (hb hby at_755) (XS.dcmpS X265.here hx rfl (hb hby at_758) rfl rfl (XS.ifNo X265.here hx rfl (hb hby at_759) rfl (by decide +kernel) (XS.aload X265.here hx rfl (hb hby at_762) rfl rfl (XS.iconst X265.here hx rfl (hb hby at_764) (own_daL X265 hx hZ e265 AFo0z (j := (1 : Int32)) (by decide) (i := 1) (by decide) (x := (4602678819172646912 : UInt64)) rfl (g := (mkF m 765 #[sI p0, sI p1, sI p2, sI p3, sJ p4, uS, sI p5, sJ y0, uS, sJ y1, uS, sJ y2, uS, sJ y3, uS, sJ y4, uS, sJ y5, uS, sI (3 : Int32), sI ii, sR a105, sR a114, sR a117, sR a120, sR a123, sR a105, sR a105, sR a105, sR a105, sI (6 : Int32), sI (7 : Int32), sI (4 : Int32), sI (5 : Int32), sJ v251, uS, sJ v252, uS, sJ v253, uS, sJ v254, uS, sJ wr, uS, sJ wi, uS, sD ro0_6z, uS, sD ro0_7z, uS, sD ro0_4z, uS, sD ro0_5z, uS, sI (1 : Int32)] [(.int (1 : Int32)), (.ref a105)])) rfl (rest := []) rfl (hb hby at_765) (own_ldcD X265 hx hown (mvT hZ (hw _ (List.mem_of_getElem? (i := 5) rfl))) rfl (hb hby at_766) k)))))))) ?_
    show OwnGo _ _ _ _ (T265.setTop (mkF m 769 #[sI p0, sI p1, sI p2, sI p3, sJ p4, uS, sI p5, sJ y0, uS, sJ y1, uS, sJ y2, uS, sJ y3, uS, sJ y4, uS, sJ y5, uS, sI (3 : Int32), sI ii, sR a105, sR a114, sR a117, sR a120, sR a123, sR a105, sR a105, sR a105, sR a105, sI (6 : Int32), sI (7 : Int32), sI (4 : Int32), sI (5 : Int32), sJ v251, uS, sJ v252, uS, sJ v253, uS, sJ v254, uS, sJ wr, uS, sJ wi, uS, sD ro0_6z, uS, sD ro0_7z, uS, sD ro0_4z, uS, sD ro0_5z, uS, sI (1 : Int32)] [(.double (4602678819172646912 : UInt64)), (.double (4602678819172646912 : UInt64))]))
    refine OwnGo.pre (fun t k => XS.dcmpS X265.here hx rfl (hb hby at_769) rfl rfl (XS.ifNo X265.here hx rfl (hb hby at_770) rfl (by decide +kernel) (XS.aload X265.here hx rfl (hb hby at_773) rfl rfl (XS.iconst X265.here hx rfl (hb hby at_775) (own_daL X265 hx hZ e265 AFo0z (j := (2 : Int32)) (by decide) (i := 2) (by decide) (x := (4602678819172646912 : UInt64)) rfl (g := (mkF m 776 #[sI p0, sI p1, sI p2, sI p3, sJ p4, uS, sI p5, sJ y0, uS, sJ y1, uS, sJ y2, uS, sJ y3, uS, sJ y4, uS, sJ y5, uS, sI (3 : Int32), sI ii, sR a105, sR a114, sR a117, sR a120, sR a123, sR a105, sR a105, sR a105, sR a105, sI (6 : Int32), sI (7 : Int32), sI (4 : Int32), sI (5 : Int32), sJ v251, uS, sJ v252, uS, sJ v253, uS, sJ v254, uS, sJ wr, uS, sJ wi, uS, sD ro0_6z, uS, sD ro0_7z, uS, sD ro0_4z, uS, sD ro0_5z, uS, sI (1 : Int32)] [(.int (2 : Int32)), (.ref a105)])) rfl (rest := []) rfl (hb hby at_776) (own_ldcD X265 hx hown (mvT hZ (hw _ (List.mem_of_getElem? (i := 5) rfl))) rfl (hb hby at_777) (XS.dcmpS X265.here hx rfl (hb hby at_780) rfl rfl (XS.ifNo X265.here hx rfl (hb hby at_781) rfl (by decide +kernel) k)))))))) ?_
    show OwnGo _ _ _ _ (T265.setTop (mkF m 784 #[sI p0, sI p1, sI p2, sI p3, sJ p4, uS, sI p5, sJ y0, uS, sJ y1, uS, sJ y2, uS, sJ y3, uS, sJ y4, uS, sJ y5, uS, sI (3 : Int32), sI ii, sR a105, sR a114, sR a117, sR a120, sR a123, sR a105, sR a105, sR a105, sR a105, sI (6 : Int32), sI (7 : Int32), sI (4 : Int32), sI (5 : Int32), sJ v251, uS, sJ v252, uS, sJ v253, uS, sJ v254, uS, sJ wr, uS, sJ wi, uS, sD ro0_6z, uS, sD ro0_7z, uS, sD ro0_4z, uS, sD ro0_5z, uS, sI (1 : Int32)] []))
    refine OwnGo.pre (fun t k => XS.aload X265.here hx rfl (hb hby at_784) rfl rfl (XS.iconst X265.here hx rfl (hb hby at_786) (own_daL X265 hx hZ e265 AFo0z (j := (3 : Int32)) (by decide) (i := 3) (by decide) (x := (4602678819172646912 : UInt64)) rfl (g := (mkF m 787 #[sI p0, sI p1, sI p2, sI p3, sJ p4, uS, sI p5, sJ y0, uS, sJ y1, uS, sJ y2, uS, sJ y3, uS, sJ y4, uS, sJ y5, uS, sI (3 : Int32), sI ii, sR a105, sR a114, sR a117, sR a120, sR a123, sR a105, sR a105, sR a105, sR a105, sI (6 : Int32), sI (7 : Int32), sI (4 : Int32), sI (5 : Int32), sJ v251, uS, sJ v252, uS, sJ v253, uS, sJ v254, uS, sJ wr, uS, sJ wi, uS, sD ro0_6z, uS, sD ro0_7z, uS, sD ro0_4z, uS, sD ro0_5z, uS, sI (1 : Int32)] [(.int (3 : Int32)), (.ref a105)])) rfl (rest := []) rfl (hb hby at_787) (own_ldcD X265 hx hown (mvT hZ (hw _ (List.mem_of_getElem? (i := 5) rfl))) rfl (hb hby at_788) (XS.dcmpS X265.here hx rfl (hb hby at_791) rfl rfl (XS.ifNo X265.here hx rfl (hb hby at_792) rfl (by decide +kernel) (XS.iconst X265.here hx rfl (hb hby at_795) (XS.goto X265.here hx rfl (pc0 := 796) (pc' := 800) rfl (hb hby at_796) (by decide) (by decide) k)))))))) ?_
    show OwnGo _ _ _ _ (T265.setTop (mkF m 800 #[sI p0, sI p1, sI p2, sI p3, sJ p4, uS, sI p5, sJ y0, uS, sJ y1, uS, sJ y2, uS, sJ y3, uS, sJ y4, uS, sJ y5, uS, sI (3 : Int32), sI ii, sR a105, sR a114, sR a117, sR a120, sR a123, sR a105, sR a105, sR a105, sR a105, sI (6 : Int32), sI (7 : Int32), sI (4 : Int32), sI (5 : Int32), sJ v251, uS, sJ v252, uS, sJ v253, uS, sJ v254, uS, sJ wr, uS, sJ wi, uS, sD ro0_6z, uS, sD ro0_7z, uS, sD ro0_4z, uS, sD ro0_5z, uS, sI (1 : Int32)] [(.int (1 : Int32))]))
    refine OwnGo.pre (fun t k => XS.istore X265.here hx rfl (hb hby at_800) rfl (l' := #[sI p0, sI p1, sI p2, sI p3, sJ p4, uS, sI p5, sJ y0, uS, sJ y1, uS, sJ y2, uS, sJ y3, uS, sJ y4, uS, sJ y5, uS, sI (3 : Int32), sI ii, sR a105, sR a114, sR a117, sR a120, sR a123, sR a105, sR a105, sR a105, sR a105, sI (6 : Int32), sI (7 : Int32), sI (4 : Int32), sI (5 : Int32), sJ v251, uS, sJ v252, uS, sJ v253, uS, sJ v254, uS, sJ wr, uS, sJ wi, uS, sD ro0_6z, uS, sD ro0_7z, uS, sD ro0_4z, uS, sD ro0_5z, uS, sI (1 : Int32)]) rfl (XS.iload X265.here hx rfl (hb hby at_802) rfl k)) ?_
    show OwnGo _ _ _ _ (T265.setTop (mkF m 804 #[sI p0, sI p1, sI p2, sI p3, sJ p4, uS, sI p5, sJ y0, uS, sJ y1, uS, sJ y2, uS, sJ y3, uS, sJ y4, uS, sJ y5, uS, sI (3 : Int32), sI ii, sR a105, sR a114, sR a117, sR a120, sR a123, sR a105, sR a105, sR a105, sR a105, sI (6 : Int32), sI (7 : Int32), sI (4 : Int32), sI (5 : Int32), sJ v251, uS, sJ v252, uS, sJ v253, uS, sJ v254, uS, sJ wr, uS, sJ wi, uS, sD ro0_6z, uS, sD ro0_7z, uS, sD ro0_4z, uS, sD ro0_5z, uS, sI (1 : Int32)] [(.int (1 : Int32))]))
    exact own_retZ X265 hx hk hrt (hb hby at_804) ⟨rfl, M265⟩ (by decide) (by decide)
set_option maxRecDepth 65536 in
set_option maxHeartbeats 40000000 in
theorem comes_1 {Post : Tables → Env → Array Value → State → Outcome → State → Prop} (hpost : ∀ tb e args s v u, (limb_1_1.after args s (.returned v) u = true ∧ limb_1_2.after args s (.returned v) u = true ∧ True) → FrameEnd s (.returned v) u (Jvm.fieldLocs frame_1_writes args s ++ Jvm.arrayLocs frame_1_arrays args s ++ Jvm.staticLocs frame_1_statics s) 24 128 → Post tb e args s (.returned v) u) :
    ArmFor flags0 classFile x code maxLocals ret World_1 tables_1 room_1 Calls_1 rest_1 Pre_1 Post := by
  intro l hfl _ _ p e ha hc hk s m args below hf hA hF happ hP
  obtain ⟨hcalls, hrest, hpre⟩ := hP
  obtain ⟨-, -, -, hnamed, -, -, -, hat⟩ := (Spec.applies_iff hf).mp happ
  obtain ⟨hg, hn⟩ := and_e (Cond.before_iff.mp (show (Jvm.Cond.and given_1 narrow_1).before args s = true from hpre))
  obtain ⟨hcnt, q0⟩ := and_e hg
  obtain ⟨b0, q1⟩ := and_e q0
  obtain ⟨b1, q2⟩ := and_e q1
  obtain ⟨b2, q3⟩ := and_e q2
  obtain ⟨b3, q4⟩ := and_e q3
  obtain ⟨b4, q5⟩ := and_e q4
  have b5 := q5
  obtain ⟨w0, w1, w2, w3, w4, w5, rfl⟩ : ∃ w0 w1 w2 w3 w4 w5 : Value, args = #[w0, w1, w2, w3, w4, w5] := by
    have hs : args.size = 6 := by simpa [Cond.value, given_1] using hcnt
    obtain ⟨L⟩ := args
    match L, hs with
    | [w0, w1, w2, w3, w4, w5], _ => exact ⟨w0, w1, w2, w3, w4, w5, rfl⟩
  have hw := fun d (hd : d ∈ tables_1) => atoms_spec (ws := Jvm.Cond.code x code maxLocals ret :: tables_1) hat d (List.mem_cons_of_mem _ hd)
  have hfit : Fit s := fun {y c} hc i hi => by
    obtain ⟨ha, rfl⟩ := Array.getElem?_eq_some_iff.mp hc
    have q := List.all_eq_true.mp ((Array.all_eq_true_iff_forall_mem.mp hF) _ (Array.getElem_mem ha)) i (List.mem_range.mpr hi)
    simpa [Array.getElem?_eq_getElem hi] using q
  obtain ⟨i0, ei0⟩ := is_v b0
  obtain rfl : w0 = (.int i0) := Option.some.inj ei0
  obtain ⟨i1, ei1⟩ := is_v b1
  obtain rfl : w1 = (.int i1) := Option.some.inj ei1
  obtain ⟨i2, ei2⟩ := is_v b2
  obtain rfl : w2 = (.int i2) := Option.some.inj ei2
  obtain ⟨i3, ei3⟩ := is_v b3
  obtain rfl : w3 = (.int i3) := Option.some.inj ei3
  obtain ⟨i4, ei4⟩ := isL_v b4
  obtain rfl : w4 = (.long i4) := Option.some.inj ei4
  obtain ⟨i5, ei5⟩ := is_v b5
  obtain rfl : w5 = (.int i5) := Option.some.inj ei5
  obtain ⟨n, o, h1, h2, h3, _, L, rfl, ⟨rfl, N⟩, hq⟩ := rmL l s _ hw tables_1 i0 i1 i2 i3 i4 i5  s.heap s.heap.size (Nat.le_refl _)  p e ha hc hk s m _ below hf ((Spec.applies_iff_loose hf).mp happ).1 ⟨rfl, State.Warmed39.refl s, rfl⟩ trivial
  refine ⟨n, _, h1, h2, h3, hpost _ _ _ _ _ _ ⟨Cond.after_iff.mpr rfl, Cond.after_iff.mpr (eq_i res_at (Term.int_eval (1)) rfl), trivial⟩ ⟨hq.1, hq.2.1, (hq.2.2.sift fun y hy => Or.inr (N y hy)).mono (by decide) (by decide)⟩⟩
theorem main_1_1 : Claimed_1_1 := comes_1 fun _ _ _ _ _ _ h hF => ⟨h.1, hF⟩
theorem main_1_2 : Claimed_1_2 := comes_1 fun _ _ _ _ _ _ h hF => ⟨h.2.1, hF⟩
end Jvm.Pilot.@@N@@
namespace Jvm.Pilot.@@N@@
open Jvm Jvm.ClassFile Sem Op Lib Jvm.Free Jvm.Stand Jvm.Pilot.@@N@@.Jvm.D
/-! MADE BY PROGRAM (witnessworld.py) out of the Statement's table words and the real class files: 11 classes; the members and pool entries that the words name. The judged class is class 1, her method 5. -/
namespace start1
open Jvm.ClassFile
def u (s : String) : CpInfo := .utf8 (stringToUtf16 s)
/-- a pool by its gaps: so many unusable entries, then the entry; so many at the end -/
def gap : Nat → List CpInfo → List CpInfo
  | 0, r => r
  | n + 1, r => .unusable :: gap n r
def poolList (es : List (Nat × CpInfo)) (last : Nat) : List CpInfo := es.foldr (fun e r => gap e.1 (e.2 :: r)) (gap last [])
def pool (es : List (Nat × CpInfo)) (last : Nat) : Array CpInfo := ⟨poolList es last⟩
def fileOf (pool : Array CpInfo) (this : Nat) (attrs : Array Attribute := #[]) (ms : Array MethodInfo := #[]) (fl : Nat := 33) (sup : Nat := 0) (ifs : Array Nat := #[]) (fds : Array FieldInfo := #[]) : ClassFile where
  minorVersion := 0
  majorVersion := 65
  constantPool := pool
  accessFlags := fl
  thisClass := this
  superClass := sup
  interfaces := ifs
  fields := fds
  methods := ms
  attributes := attrs
def plain (name : String) (sup : Option ClassId) : Class where
  name := name
  kind := .ordinary
  loader := none
  accessFlags := 33
  super := sup
  interfaces := #[]
  cf := none
  fields := #[]
  methods := #[]
  instanceTypes := #[]
  staticTypes := #[]
  resolved := #[]
  callSites := []
  init := .initialized
  statics := none
  mirror := none

def pool0 : Array CpInfo := pool [(5, u "<init>"), (0, u "()V"), (1, .class_ 10), (1, u "java/lang/Object")] 113

def k0m0 : Method := { name := "<init>", desc := "()V", sig := { parameters := [], returnType := none }, accessFlags := 1, code := none }
/-- java/lang/Object -/
def k0 : Class := { plain "java/lang/Object" none with
  accessFlags := 33
  interfaces := #[]
  cf := some (fileOf pool0 8 #[] #[{ accessFlags := 1, nameIndex := 5, descriptorIndex := 6, attributes := #[] }] 33 0 #[] #[])
  fields := #[]
  methods := #[k0m0]
  instanceTypes := #[]
  staticTypes := #[]
  resolved := Array.replicate 124 none
  statics := none }

def pool1 : Array CpInfo := pool [(2, .class_ 4), (1, u "java/lang/Object"), (0, u "<init>"), (0, u "()V"), (0, .methodref 8 9), (0, .class_ 10), (0, .nameAndType 11 12), (0, u "com/example/isochron/isochron/dsp/FourierJoinPinLaw"), (0, u "sext"), (0, u "(I)J"), (0, .double 4602678819172646912), (1, .methodref 16 17), (0, .class_ 18), (0, .nameAndType 19 20), (0, u "com/example/isochron/isochron/dsp/Fourier"), (0, u "join"), (0, u "([DI[DI[DI[DIDD)V"), (0, .methodref 8 22), (0, .nameAndType 23 24), (0, u "mulRe"), (0, u "(JJJJ)J"), (0, .methodref 8 26), (0, .nameAndType 27 24), (0, u "mulIm"), (0, .methodref 8 29), (0, .nameAndType 30 31), (0, u "whole"), (0, u "(D)Z"), (3, u "law"), (0, u "(IIIIJI)Z")] 4

def k1m0 : Method := { name := "<init>", desc := "()V", sig := { parameters := [], returnType := none }, accessFlags := 1, code := none }
def k1c1 : Code := { maxStack := 2, maxLocals := 1, code := method_2_code, exceptionTable := #[], attributes := #[] }
def k1m1 : Method := { name := "sext", desc := "(I)J", sig := { parameters := [.int], returnType := some .long }, accessFlags := 10, code := some k1c1 }
def k1c2 : Code := { maxStack := 4, maxLocals := 2, code := method_3_code, exceptionTable := #[], attributes := #[] }
def k1m2 : Method := { name := "whole", desc := "(D)Z", sig := { parameters := [.double], returnType := some .boolean }, accessFlags := 10, code := some k1c2 }
def k1c3 : Code := { maxStack := 6, maxLocals := 8, code := method_4_code, exceptionTable := #[], attributes := #[] }
def k1m3 : Method := { name := "mulRe", desc := "(JJJJ)J", sig := { parameters := [.long, .long, .long, .long], returnType := some .long }, accessFlags := 10, code := some k1c3 }
def k1c4 : Code := { maxStack := 6, maxLocals := 8, code := method_5_code, exceptionTable := #[], attributes := #[] }
def k1m4 : Method := { name := "mulIm", desc := "(JJJJ)J", sig := { parameters := [.long, .long, .long, .long], returnType := some .long }, accessFlags := 10, code := some k1c4 }
def k1c5 : Code := { maxStack := 12, maxLocals := 55, code := code, exceptionTable := #[], attributes := #[] }
def k1m5 : Method := { name := "law", desc := "(IIIIJI)Z", sig := { parameters := [.int, .int, .int, .int, .long, .int], returnType := some .boolean }, accessFlags := 9, code := some k1c5 }
/-- com/example/isochron/isochron/dsp/FourierJoinPinLaw -/
def k1 : Class := { plain "com/example/isochron/isochron/dsp/FourierJoinPinLaw" (some 0) with
  accessFlags := 49
  interfaces := #[]
  cf := some (fileOf pool1 8 #[] #[{ accessFlags := 1, nameIndex := 5, descriptorIndex := 6, attributes := #[] }, { accessFlags := 10, nameIndex := 11, descriptorIndex := 12, attributes := #[] }, { accessFlags := 10, nameIndex := 30, descriptorIndex := 31, attributes := #[] }, { accessFlags := 10, nameIndex := 23, descriptorIndex := 24, attributes := #[] }, { accessFlags := 10, nameIndex := 27, descriptorIndex := 24, attributes := #[] }, { accessFlags := 9, nameIndex := 35, descriptorIndex := 36, attributes := #[] }] 49 2 #[] #[])
  fields := #[]
  methods := #[k1m0, k1m1, k1m2, k1m3, k1m4, k1m5]
  instanceTypes := #[]
  staticTypes := #[]
  resolved := Array.replicate 41 none
  statics := none }

def pool2 : Array CpInfo := pool [(2, .class_ 4), (1, u "java/lang/Object"), (3, .class_ 10), (1, u "com/example/isochron/isochron/dsp/Fourier"), (0, u "size"), (0, u "I"), (6, u "reversed"), (0, u "[I"), (7, u "[D"), (2, u "passFactors"), (0, u "[[D"), (6, u "pairCos"), (2, u "pairSin"), (124, u "([DI[DI[DI[DIDD)V"), (2, u "join")] 100

def k2c0 : Code := { maxStack := 6, maxLocals := 32, code := prog_161_method_21_code, exceptionTable := #[], attributes := #[] }
def k2m0 : Method := { name := "join", desc := "([DI[DI[DI[DIDD)V", sig := { parameters := [(.array .double), .int, (.array .double), .int, (.array .double), .int, (.array .double), .int, .double, .double], returnType := none }, accessFlags := 8, code := some k2c0 }
/-- com/example/isochron/isochron/dsp/Fourier -/
def k2 : Class := { plain "com/example/isochron/isochron/dsp/Fourier" (some 0) with
  accessFlags := 49
  interfaces := #[]
  cf := some (fileOf pool2 8 #[] #[{ accessFlags := 8, nameIndex := 170, descriptorIndex := 167, attributes := #[] }] 49 2 #[] #[{ accessFlags := 18, nameIndex := 11, descriptorIndex := 12, attributes := #[] }, { accessFlags := 18, nameIndex := 19, descriptorIndex := 20, attributes := #[] }, { accessFlags := 18, nameIndex := 31, descriptorIndex := 32, attributes := #[] }, { accessFlags := 18, nameIndex := 39, descriptorIndex := 28, attributes := #[] }, { accessFlags := 18, nameIndex := 42, descriptorIndex := 28, attributes := #[] }])
  fields := #[{ name := "size", type := .int, accessFlags := 18, slot := 0, constantValue := 0 }, { name := "reversed", type := (.array .int), accessFlags := 18, slot := 1, constantValue := 0 }, { name := "passFactors", type := (.array (.array .double)), accessFlags := 18, slot := 2, constantValue := 0 }, { name := "pairCos", type := (.array .double), accessFlags := 18, slot := 3, constantValue := 0 }, { name := "pairSin", type := (.array .double), accessFlags := 18, slot := 4, constantValue := 0 }]
  methods := #[k2m0]
  instanceTypes := #[.int, (.array .int), (.array (.array .double)), (.array .double), (.array .double)]
  staticTypes := #[]
  resolved := Array.replicate 271 none
  statics := none }

def pool3 : Array CpInfo := pool [(1, u "java/lang/Cloneable"), (0, .class_ 1), (0, u "java/lang/Object"), (0, .class_ 3)] 3

/-- java/lang/Cloneable -/
def k3 : Class := { plain "java/lang/Cloneable" (some 0) with
  accessFlags := 1537
  interfaces := #[]
  cf := some (fileOf pool3 2 #[] #[] 1537 4 #[] #[])
  fields := #[]
  methods := #[]
  instanceTypes := #[]
  staticTypes := #[]
  resolved := Array.replicate 8 none
  statics := none }

def pool4 : Array CpInfo := pool [(1, u "java/io/Serializable"), (0, .class_ 1), (0, u "java/lang/Object"), (0, .class_ 3)] 3

/-- java/io/Serializable -/
def k4 : Class := { plain "java/io/Serializable" (some 0) with
  accessFlags := 1537
  interfaces := #[]
  cf := some (fileOf pool4 2 #[] #[] 1537 4 #[] #[])
  fields := #[]
  methods := #[]
  instanceTypes := #[]
  staticTypes := #[]
  resolved := Array.replicate 8 none
  statics := none }

/-- the primitive byte -/
def k5 : Class := { plain "byte" none with kind := .primitive 'B', accessFlags := 0x411 }
/-- [B -/
def k6 : Class := { plain "[B" (some 0) with kind := .array 5 .byte, interfaces := #[3, 4], accessFlags := 1041 }

/-- the primitive double -/
def k7 : Class := { plain "double" none with kind := .primitive 'D', accessFlags := 0x411 }
/-- [D -/
def k8 : Class := { plain "[D" (some 0) with kind := .array 7 .double, interfaces := #[3, 4], accessFlags := 1041 }

/-- the primitive int -/
def k9 : Class := { plain "int" none with kind := .primitive 'I', accessFlags := 0x411 }
/-- [I -/
def k10 : Class := { plain "[I" (some 0) with kind := .array 9 .int, interfaces := #[3, 4], accessFlags := 1041 }

def heap : Heap := #[]
def classes : Array Class := #[k0, k1, k2, k3, k4, k5, k6, k7, k8, k9, k10]
def interned : List (Array UInt16 × Addr) := []
def slotsUsed : Nat := 0
def theMethod : MethodId := ⟨1, 5⟩
def args0 : Array Value := #[.int 5, .int 3, .int 7, .int 2, .long 11, .int 4]
def aboutOver (below : List Frame) : State where
  vm := { classes := classes, interned := interned.toArray }
  heap := heap
  slotsUsed := slotsUsed
  threads := #[{ frames := .invoking theMethod args0 :: below }]
def below0 : List Frame := [.native { method := ⟨0, 0⟩, args := #[] }]
def about1 : State := aboutOver below0
def p0 : Program := .bare "" "" ""
def e0 : Env := launch0.env 0 0 0
theorem w_frames : about1.frames = Frame.invoking theMethod args0 :: below0 := rfl
set_option maxRecDepth 65536 in
theorem w_args : argsFit about1.vm theMethod args0 = true := by decide +kernel
set_option maxRecDepth 65536 in
theorem w_heap : heapFits about1 = true := by decide +kernel
set_option maxRecDepth 65536 in
theorem w_runnable : about1.curStatus? = some .runnable := by decide +kernel
set_option maxRecDepth 65536 in
theorem w_alone : about1.alone = true := by decide +kernel
set_option maxRecDepth 65536 in
theorem w_named : about1.methodNamed? x = some theMethod := by decide +kernel
set_option maxRecDepth 65536 in
theorem w_hears : about1.hears theMethod below0 = true := by decide +kernel
set_option maxRecDepth 65536 in
theorem w_ripe : about1.ripe theMethod args0 below0 = true := by decide +kernel
theorem w_running : about1.status = .running := rfl
set_option maxRecDepth 65536 in
theorem w_room : about1.hasRoom e0.platform room_1 = true :=
  launch0.hasRoom_least _ room_1 (by decide +kernel) (by decide +kernel) (by decide +kernel) (by decide +kernel) (by decide +kernel) (by decide +kernel)
theorem allAtoms_all (ts : List Jvm.Cond) (a : Array Jvm.Value) (st : Jvm.State) : (allAtoms ts).before a st = ts.all (fun c => c.before a st) := by
  induction ts with
  | nil => rfl
  | cons c t ih =>
    show (Jvm.Cond.and c (allAtoms t)).before a st = _
    rw [Jvm.Cond.before_and, ih, List.all_cons]
def words1 : List Jvm.Cond := Jvm.Cond.code x code maxLocals ret :: tables_1
/-- a 'code' word, met by the world's own term for the bytes: nothing is compared byte by byte -/
theorem code_word {y : MethodName} {bytes : ByteArray} {mx : Nat} {rt : Option FieldType} {a : Array Value} {s : State} {m : MethodId} {meth : Method} {c : Code} (h1 : s.methodNamed? y = some m) (h2 : s.vm.method? m = some meth) (h3 : meth.code = some c) (h4 : c.code = bytes)
    (h5 : (c.maxLocals == mx && c.exceptionTable.isEmpty && decide (c.maxStack ≤ mostOperands) && decide (meth.sig.returnType = rt) && !meth.locks && decide (parseMethodDescriptor y.desc = some meth.sig)) = true) : (Jvm.Cond.code y bytes mx rt).before a s = true := by
  simp only [Bool.and_eq_true, beq_iff_eq, Bool.not_eq_true', decide_eq_true_eq] at h5
  obtain ⟨⟨⟨⟨⟨g1, g2⟩, g3⟩, g4⟩, g5⟩, g6⟩ := h5
  simp [Cond.before, Cond.holds, Cond.value, h1, h2, h3, h4, g1, g2, g3, g4, g5, g6]
def isCode : Jvm.Cond → Bool
  | .code _ _ _ _ => true
  | _ => false
theorem all_split {L : List Jvm.Cond} {P : Jvm.Cond → Bool} (h1 : L.all (fun c => isCode c || P c) = true) (h2 : ∀ c ∈ L.filter isCode, P c = true) : L.all P = true := by
  refine List.all_eq_true.mpr fun c hc => ?_
  have h := List.all_eq_true.mp h1 c hc
  rcases Bool.eq_false_or_eq_true (isCode c) with hi | hi
  · exact h2 c (List.mem_filter.mpr ⟨hc, hi⟩)
  · simpa [hi] using h
set_option maxRecDepth 65536 in
theorem w_c0 : (Jvm.Cond.code x code maxLocals ret).before args0 about1 = true := code_word (m := ⟨1, 5⟩) (meth := k1m5) (c := k1c5) (by decide +kernel) rfl rfl rfl (by decide +kernel)
set_option maxRecDepth 65536 in
theorem w_c1 : (Jvm.Cond.code ({ cls := "com/example/isochron/isochron/dsp/FourierJoinPinLaw", name := "sext", desc := "(I)J" } : Jvm.MethodName) method_2_code (1 : Nat) (Option.some Jvm.ClassFile.FieldType.long)).before args0 about1 = true := code_word (m := ⟨1, 1⟩) (meth := k1m1) (c := k1c1) (by decide +kernel) rfl rfl rfl (by decide +kernel)
set_option maxRecDepth 65536 in
theorem w_c2 : (Jvm.Cond.code ({ cls := "com/example/isochron/isochron/dsp/Fourier", name := "join", desc := "([DI[DI[DI[DIDD)V" } : Jvm.MethodName) prog_161_method_21_code (32 : Nat) (Option.none : Option Jvm.ClassFile.FieldType)).before args0 about1 = true := code_word (m := ⟨2, 0⟩) (meth := k2m0) (c := k2c0) (by decide +kernel) rfl rfl rfl (by decide +kernel)
set_option maxRecDepth 65536 in
theorem w_c3 : (Jvm.Cond.code ({ cls := "com/example/isochron/isochron/dsp/FourierJoinPinLaw", name := "mulRe", desc := "(JJJJ)J" } : Jvm.MethodName) method_4_code (8 : Nat) (Option.some Jvm.ClassFile.FieldType.long)).before args0 about1 = true := code_word (m := ⟨1, 3⟩) (meth := k1m3) (c := k1c3) (by decide +kernel) rfl rfl rfl (by decide +kernel)
set_option maxRecDepth 65536 in
theorem w_c4 : (Jvm.Cond.code ({ cls := "com/example/isochron/isochron/dsp/FourierJoinPinLaw", name := "mulIm", desc := "(JJJJ)J" } : Jvm.MethodName) method_5_code (8 : Nat) (Option.some Jvm.ClassFile.FieldType.long)).before args0 about1 = true := code_word (m := ⟨1, 4⟩) (meth := k1m4) (c := k1c4) (by decide +kernel) rfl rfl rfl (by decide +kernel)
set_option maxRecDepth 65536 in
theorem w_c5 : (Jvm.Cond.code ({ cls := "com/example/isochron/isochron/dsp/FourierJoinPinLaw", name := "whole", desc := "(D)Z" } : Jvm.MethodName) method_3_code (2 : Nat) (Option.some Jvm.ClassFile.FieldType.boolean)).before args0 about1 = true := code_word (m := ⟨1, 2⟩) (meth := k1m2) (c := k1c2) (by decide +kernel) rfl rfl rfl (by decide +kernel)
def codes1 : List Jvm.Cond := [Jvm.Cond.code x code maxLocals ret, Jvm.Cond.code ({ cls := "com/example/isochron/isochron/dsp/FourierJoinPinLaw", name := "sext", desc := "(I)J" } : Jvm.MethodName) method_2_code (1 : Nat) (Option.some Jvm.ClassFile.FieldType.long), Jvm.Cond.code ({ cls := "com/example/isochron/isochron/dsp/Fourier", name := "join", desc := "([DI[DI[DI[DIDD)V" } : Jvm.MethodName) prog_161_method_21_code (32 : Nat) (Option.none : Option Jvm.ClassFile.FieldType), Jvm.Cond.code ({ cls := "com/example/isochron/isochron/dsp/FourierJoinPinLaw", name := "mulRe", desc := "(JJJJ)J" } : Jvm.MethodName) method_4_code (8 : Nat) (Option.some Jvm.ClassFile.FieldType.long), Jvm.Cond.code ({ cls := "com/example/isochron/isochron/dsp/FourierJoinPinLaw", name := "mulIm", desc := "(JJJJ)J" } : Jvm.MethodName) method_5_code (8 : Nat) (Option.some Jvm.ClassFile.FieldType.long), Jvm.Cond.code ({ cls := "com/example/isochron/isochron/dsp/FourierJoinPinLaw", name := "whole", desc := "(D)Z" } : Jvm.MethodName) method_3_code (2 : Nat) (Option.some Jvm.ClassFile.FieldType.boolean)]
set_option maxRecDepth 65536 in
theorem codes_eq : words1.filter isCode = codes1 := rfl
theorem w_codes : ∀ c ∈ words1.filter isCode, c.before args0 about1 = true := by
  rw [codes_eq]
  intro c hc
  simp only [codes1, List.mem_cons, List.not_mem_nil, or_false] at hc
  rcases hc with rfl | rfl | rfl | rfl | rfl | rfl
  · exact w_c0
  · exact w_c1
  · exact w_c2
  · exact w_c3
  · exact w_c4
  · exact w_c5
set_option maxRecDepth 65536 in
theorem w_t1 : words1.all (fun c => isCode c || c.before args0 about1) = true := by decide +kernel
theorem w_tables : (allAtoms (Jvm.Cond.code x code maxLocals ret :: tables_1)).before args0 about1 = true := by
  rw [allAtoms_all]
  show words1.all (fun c => c.before args0 about1) = true
  refine all_split ?_ w_codes
  rw [w_t1]
set_option maxRecDepth 65536 in
theorem w_case : (Jvm.Cond.and given_1 narrow_1).before args0 about1 = true := by decide +kernel
theorem w_applies : (headSpec (Jvm.Cond.code x code maxLocals ret :: tables_1) room_1).applies x e0.platform about1 = true :=
  (Spec.applies_iff w_frames).mpr ⟨w_running, w_runnable, w_alone, w_named, w_hears, w_ripe, w_room, w_tables⟩
theorem atStart : AtStart classFile x code maxLocals ret World_1 tables_1 room_1 Calls_1 rest_1 Pre_1 launch0 p0 e0 about1 theMethod args0 below0 :=
  ⟨lists_1, trivial, launch0.admits_env _ _ _, launch0.least_env, fairChoices_fair.cas, fairChoices_fair.clock, w_frames, w_args, w_heap, w_applies, trivial, trivial, w_case⟩
end start1
theorem witness_1 : WitnessClaimed_1 := ⟨start1.p0, start1.e0, start1.about1, start1.theMethod, start1.args0, start1.below0, start1.atStart⟩
end Jvm.Pilot.@@N@@
