import JvmDerived
import JvmDerived.Pilot.@@N@@Statement
import JvmDerived.Pilot.@@N@@Code
set_option linter.unusedVariables false
set_option linter.unusedSimpArgs false
@@BLOCK:NumsL.lean.txt@@
namespace Jvm.Pilot.@@N@@
open Jvm Jvm.ClassFile Sem Op Lib Jvm.Free Jvm.Stand Jvm.LawKit Jvm.RoadKit Bundle Jvm.Pilot.@@N@@.Jvm.D
section OwnFP
open Jvm.FP.Core
/-- the datum is i * 2^k -/
def OwnSc (k i : Int) : Datum → Prop
  | .fin s c q => Whole i (.fin s c (q - k))
  | _ => False
/-- the double is i * 2^k -/
def OwnDS (k i : Int) (a : UInt64) : Prop := OwnSc k i (val64 a)

theorem own_sc_fin {k i : Int} {d : Datum} (h : OwnSc k i d) : ∃ s c q, d = .fin s c q ∧ Whole i (.fin s c (q - k)) := by
  cases d with
  | nan => exact h.elim
  | inf => exact h.elim
  | fin s c q => exact ⟨s, c, q, rfl, h⟩

theorem own_ds_int {i : Int} {a : UInt64} (h : DInt i a) : OwnDS 0 i a := by
  have h' : Whole i (val64 a) := h
  show OwnSc 0 i (val64 a)
  cases hv : val64 a with
  | nan => rw [hv] at h'; exact h'.elim
  | inf => rw [hv] at h'; exact h'.elim
  | fin s c q => rw [hv] at h'; show Whole i (.fin s c (q - 0)); rw [Int.sub_zero]; exact h'

theorem own_int_ds {i : Int} {a : UInt64} (h : OwnDS 0 i a) : DInt i a := by
  obtain ⟨s, c, q, hv, h'⟩ := own_sc_fin h
  show Whole i (val64 a)
  rw [hv]; rw [Int.sub_zero] at h'; exact h'

theorem own_ds_ne_nan {k i : Int} {a : UInt64} (h : OwnDS k i a) : val64 a ≠ .nan := by
  obtain ⟨s, c, q, hv, -⟩ := own_sc_fin h
  rw [hv]; exact Datum.noConfusion

/-- the numbers i * 2^k with |i| < 2^n are doubles where n ≤ 53, n + k ≤ 1024, -1022 ≤ k -/
theorem own_fitAt (s : Bool) {n m : Nat} {k : Int} (hm : m < 2 ^ n) (hn : n ≤ 53) (h1 : (n : Int) + k ≤ 1024) (h2 : -1022 ≤ k) :
    ∃ c q, Jvm.FP.Core.fits b64 (.fin s c q) ∧ m * 2 ^ (k - q).toNat = c * 1 * 2 ^ (q - k).toNat := by
  have hq1 : b64.qmin = -1074 := by decide
  have hq2 : b64.qmax = 971 := by decide
  by_cases h0 : m = 0
  · subst h0
    exact ⟨0, b64.qmin, zero_fits good_b64 s, by simp⟩
  · have l1 : 2 ^ m.log2 ≤ m := Nat.log2_self_le h0
    have l2 : m < 2 ^ (m.log2 + 1) := Nat.lt_log2_self
    have l3 : m.log2 < n := (Nat.pow_lt_pow_iff_right (by decide : 1 < 2)).mp (Nat.lt_of_le_of_lt l1 hm)
    generalize m.log2 = L at l1 l2 l3
    refine ⟨m * 2 ^ (52 - L), (L : Int) - 52 + k, ⟨?_, by omega, by omega, .inr ?_⟩, ?_⟩
    · calc m * 2 ^ (52 - L) < 2 ^ (L + 1) * 2 ^ (52 - L) := Nat.mul_lt_mul_of_pos_right l2 (Nat.two_pow_pos _)
        _ = 2 ^ b64.p := by rw [← Nat.pow_add]; congr 1; show L + 1 + (52 - L) = 53; omega
    · calc b64.tails = 2 ^ L * 2 ^ (52 - L) := by rw [← Nat.pow_add]; show 2 ^ 52 = _; congr 1; omega
        _ ≤ m * 2 ^ (52 - L) := Nat.mul_le_mul_right _ l1
    · rw [show (k - ((L : Int) - 52 + k)).toNat = 52 - L by omega, show ((L : Int) - 52 + k - k).toNat = 0 by omega]
      simp

theorem own_signed_of {i : Int} {s : Bool} {c : Nat} {q : Int} (h : Whole i (.fin s c q)) : signed s i.natAbs = i := by
  by_cases hi : i = 0
  · rw [hi]; exact signed_zero s
  · rw [whole_sign h hi]
    by_cases h : i < 0
    · rw [decide_eq_true h]; show -(i.natAbs : Int) = i; omega
    · rw [decide_eq_false h]; show (i.natAbs : Int) = i; omega

/-- what roundRatio makes of a ratio that is m * 2^k, m < 2^n -/
theorem own_rr {s : Bool} {A B m n : Nat} {e k i : Int} (hB : 0 < B) (hv : A * 2 ^ (e - k).toNat = m * B * 2 ^ (k - e).toNat)
    (hm : m < 2 ^ n) (hn : n ≤ 53) (h1 : (n : Int) + k ≤ 1024) (h2 : -1022 ≤ k) (hi : signed s m = i) : OwnSc k i (roundRatio b64 s A B e) := by
  obtain ⟨c', q', hfit, hv'⟩ := own_fitAt s hm hn h1 h2
  rw [roundRatio_congr (A' := m) (B' := 1) (e' := k) hB (by decide) (by simpa using hv), roundRatio_exact good_b64 (by decide) hfit hv']
  show signed s (c' * 2 ^ (q' - k).toNat) = i * ((2 ^ (-(q' - k)).toNat : Nat) : Int)
  rw [show (-(q' - k)).toNat = (k - q').toNat by omega, ← hi, ← signed_mul, hv', Nat.mul_one]

theorem own_sc_round {n : Nat} {k i : Int} {d : Datum} (h : OwnSc k i d) (hi : i.natAbs < 2 ^ n) (hn : n ≤ 53) (h1 : (n : Int) + k ≤ 1024) (h2 : -1022 ≤ k) : OwnSc k i (round b64 d) := by
  obtain ⟨s, c, q, rfl, hw⟩ := own_sc_fin h
  refine own_rr (m := i.natAbs) (n := n) (by decide) ?_ hi hn h1 h2 (own_signed_of hw)
  have q1 := whole_natAbs hw
  rw [show (-(q - k)).toNat = (k - q).toNat by omega] at q1
  simpa using q1

theorem own_shift_sum (s : Bool) (c : Nat) (q : Int) (t : Bool) (d : Nat) (r k : Int) :
    ∃ u f w, exactSum (.fin s c q) (.fin t d r) = .fin u f w ∧ exactSum (.fin s c (q - k)) (.fin t d (r - k)) = .fin u f (w - k) := by
  refine ⟨_, _, _, rfl, ?_⟩
  have hmin : min (q - k) (r - k) = min q r - k := by omega
  have hu : sumUnits s c (q - k) t d (r - k) (min (q - k) (r - k)) = sumUnits s c q t d r (min q r) := by
    show signed s (c * 2 ^ (q - k - min (q - k) (r - k)).toNat) + signed t (d * 2 ^ (r - k - min (q - k) (r - k)).toNat) = signed s (c * 2 ^ (q - min q r).toNat) + signed t (d * 2 ^ (r - min q r).toNat)
    rw [hmin, show q - k - (min q r - k) = q - min q r by omega, show r - k - (min q r - k) = r - min q r by omega]
  show Datum.fin (sumSign s t (sumUnits s c (q - k) t d (r - k) (min (q - k) (r - k)))) (sumUnits s c (q - k) t d (r - k) (min (q - k) (r - k))).natAbs (min (q - k) (r - k)) = _
  rw [hu, hmin]

theorem own_sc_sum {k i j : Int} {x y : Datum} (hx : OwnSc k i x) (hy : OwnSc k j y) : OwnSc k (i + j) (exactSum x y) := by
  obtain ⟨s, c, q, rfl, h1⟩ := own_sc_fin hx
  obtain ⟨t, d, r, rfl, h2⟩ := own_sc_fin hy
  obtain ⟨u, f, w, e1, e2⟩ := own_shift_sum s c q t d r k
  have h3 := whole_sum h1 h2
  rw [e2] at h3
  rw [e1]; exact h3

theorem own_sc_neg {k i : Int} {x : Datum} (hx : OwnSc k i x) : OwnSc k (-i) (negate x) := by
  obtain ⟨s, c, q, rfl, h1⟩ := own_sc_fin hx
  exact whole_negate h1

theorem own_sc_mul {k l i j : Int} {x y : Datum} (hx : OwnSc k i x) (hy : OwnSc l j y) : OwnSc (k + l) (i * j) (exactProduct x y) := by
  obtain ⟨s, c, q, rfl, h1⟩ := own_sc_fin hx
  obtain ⟨t, d, r, rfl, h2⟩ := own_sc_fin hy
  have h3 : Whole (i * j) (.fin (s != t) (c * d) (q - k + (r - l))) := whole_product h1 h2
  show Whole (i * j) (.fin (s != t) (c * d) (q + r - (k + l)))
  rw [show q + r - (k + l) = q - k + (r - l) by omega]; exact h3

theorem own_ds_add {n : Nat} {k i j : Int} {a b : UInt64} (ha : OwnDS k i a) (hb : OwnDS k j b) (h : (i + j).natAbs < 2 ^ n) (hn : n ≤ 53 := by decide) (h1 : (n : Int) + k ≤ 1024 := by decide) (h2 : -1022 ≤ k := by decide) : OwnDS k (i + j) (dadd a b) := by
  show OwnSc _ _ _
  rw [val64_dadd]; exact own_sc_round (own_sc_sum ha hb) h hn h1 h2
theorem own_ds_sub {n : Nat} {k i j : Int} {a b : UInt64} (ha : OwnDS k i a) (hb : OwnDS k j b) (h : (i - j).natAbs < 2 ^ n) (hn : n ≤ 53 := by decide) (h1 : (n : Int) + k ≤ 1024 := by decide) (h2 : -1022 ≤ k := by decide) : OwnDS k (i - j) (dsub a b) := by
  show OwnSc _ _ _
  rw [val64_dsub]; exact own_sc_round (own_sc_sum ha (own_sc_neg hb)) h hn h1 h2
theorem own_ds_mul {n : Nat} {k l i j : Int} {a b : UInt64} (ha : OwnDS k i a) (hb : OwnDS l j b) (h : (i * j).natAbs < 2 ^ n) (hn : n ≤ 53 := by decide) (h1 : (n : Int) + (k + l) ≤ 1024 := by decide) (h2 : -1022 ≤ k + l := by decide) : OwnDS (k + l) (i * j) (dmul a b) := by
  show OwnSc _ _ _
  rw [val64_dmul]; exact own_sc_round (own_sc_mul ha hb) h hn h1 h2
theorem own_ds_negC {k i : Int} {a : UInt64} (ha : OwnDS k i a) : OwnDS k (-i) (dneg a) := by
  show OwnSc _ _ _
  rw [val64_dneg]; exact own_sc_neg ha

theorem own_order_shift (s : Bool) (c : Nat) (q : Int) (t : Bool) (d : Nat) (r k : Int) :
    order (.fin s c (q - k)) (.fin t d (r - k)) = order (.fin s c q) (.fin t d r) := by
  have hmin : min (q - k) (r - k) = min q r - k := by omega
  show some (compare (signed s (c * 2 ^ (q - k - min (q - k) (r - k)).toNat)) (signed t (d * 2 ^ (r - k - min (q - k) (r - k)).toNat))) = some (compare (signed s (c * 2 ^ (q - min q r).toNat)) (signed t (d * 2 ^ (r - min q r).toNat)))
  rw [hmin, show q - k - (min q r - k) = q - min q r by omega, show r - k - (min q r - k) = r - min q r by omega]

theorem own_ds_cmp {k i j : Int} {a b : UInt64} (ha : OwnDS k i a) (hb : OwnDS k j b) : dcmp a b = some (compare i j) := by
  obtain ⟨s, c, q, e1, h1⟩ := own_sc_fin ha
  obtain ⟨t, d, r, e2, h2⟩ := own_sc_fin hb
  show order (val64 a) (val64 b) = _
  rw [e1, e2, ← own_order_shift _ _ _ _ _ _ k]
  exact order_whole h1 h2

/-- the number kept, its scale moved down -/
theorem own_ds_down {k i : Int} {a : UInt64} (n : Nat) (h : OwnDS (k + n) i a) : OwnDS k (i * ((2 ^ n : Nat) : Int)) a := by
  obtain ⟨s, c, q, e1, h1⟩ := own_sc_fin h
  show OwnSc _ _ _
  rw [e1]
  have h2 : signed s (c * 2 ^ (q - (k + n)).toNat) = i * ((2 ^ (-(q - (k + n))).toNat : Nat) : Int) := h1
  show signed s (c * 2 ^ (q - k).toNat) = i * ((2 ^ n : Nat) : Int) * ((2 ^ (-(q - k)).toNat : Nat) : Int)
  have p2 : ((2 ^ (-(q - (k + n))).toNat : Nat) : Int) ≠ 0 := by
    have := Nat.two_pow_pos (-(q - (k + n))).toNat; omega
  refine Int.eq_of_mul_eq_mul_right p2 ?_
  have hx : (q - k).toNat + (-(q - (k + n))).toNat = (q - (k + n)).toNat + (n + (-(q - k)).toNat) := by omega
  rw [← signed_mul, Nat.mul_assoc, ← Nat.pow_add, hx, Nat.pow_add, ← Nat.mul_assoc, signed_mul, h2, Nat.pow_add]
  rw [Int.natCast_mul]; ac_rfl
theorem own_ds_up {k i : Int} {a : UInt64} (n : Nat) (h : OwnDS k (i * ((2 ^ n : Nat) : Int)) a) : OwnDS (k + n) i a := by
  obtain ⟨s, c, q, e1, h1⟩ := own_sc_fin h
  show OwnSc _ _ _
  rw [e1]
  have h2 : signed s (c * 2 ^ (q - k).toNat) = i * ((2 ^ n : Nat) : Int) * ((2 ^ (-(q - k)).toNat : Nat) : Int) := h1
  show signed s (c * 2 ^ (q - (k + n)).toNat) = i * ((2 ^ (-(q - (k + n))).toNat : Nat) : Int)
  have p2 : ((2 ^ (n + (-(q - k)).toNat) : Nat) : Int) ≠ 0 := by
    have := Nat.two_pow_pos (n + (-(q - k)).toNat); omega
  refine Int.eq_of_mul_eq_mul_right p2 ?_
  have hx : (q - (k + n)).toNat + (n + (-(q - k)).toNat) = (q - k).toNat + (-(q - (k + n))).toNat := by omega
  rw [← signed_mul, Nat.mul_assoc, ← Nat.pow_add, hx, Nat.pow_add, ← Nat.mul_assoc, signed_mul, h2, Nat.pow_add]
  rw [Int.natCast_mul]; ac_rfl

/-- a quotient that is whole (in its scale) is exact -/
theorem own_ds_div {n : Nat} {k l i j m : Int} {a b : UInt64} (ha : OwnDS k i a) (hb : OwnDS l j b) (hj : j ≠ 0) (hm : i = m * j) (h : m.natAbs < 2 ^ n) (hn : n ≤ 53 := by decide) (h1 : (n : Int) + (k - l) ≤ 1024 := by decide) (h2 : -1022 ≤ k - l := by decide) : OwnDS (k - l) m (ddiv a b) := by
  obtain ⟨s, c, q, e1, w1⟩ := own_sc_fin ha
  obtain ⟨t, d, r, e2, w2⟩ := own_sc_fin hb
  show OwnSc _ _ _
  rw [val64_ddiv, e1, e2]
  have hd : d ≠ 0 := fun h0 => hj ((whole_zero w2).mp h0)
  have hq : quotient b64 (.fin s c q) (.fin t d r) = roundRatio b64 (s != t) c d (q - r) := by
    show (if d = 0 then (if c = 0 then Datum.nan else .inf (s != t)) else roundRatio b64 (s != t) c d (q - r)) = _
    rw [if_neg hd]
  rw [hq]
  have q1 := whole_natAbs w1
  have q2 := whole_natAbs w2
  have hmn : i.natAbs = m.natAbs * j.natAbs := by rw [hm, Int.natAbs_mul]
  refine own_rr (m := m.natAbs) (n := n) (Nat.pos_of_ne_zero hd) ?_ h hn h1 h2 ?_
  · -- c 2^(q-k) = |m| |j| 2^(k-q), d 2^(r-l) = |j| 2^(l-r)
    have hjp : 0 < j.natAbs := Int.natAbs_pos.mpr hj
    rw [hmn] at q1
    generalize j.natAbs = J at q1 q2 hjp
    generalize m.natAbs = M at q1
    have hE : 0 < 2 ^ (-(r - l)).toNat * J * 2 ^ (-(q - k)).toNat * 2 ^ (r - l).toNat := by
      exact Nat.mul_pos (Nat.mul_pos (Nat.mul_pos (Nat.two_pow_pos _) hjp) (Nat.two_pow_pos _)) (Nat.two_pow_pos _)
    refine Nat.eq_of_mul_eq_mul_right hE ?_
    have x1 : (q - r - (k - l)).toNat + (-(q - k)).toNat + (r - l).toNat = (q - k).toNat + (-(r - l)).toNat + (k - l - (q - r)).toNat := by omega
    calc c * 2 ^ (q - r - (k - l)).toNat * (2 ^ (-(r - l)).toNat * J * 2 ^ (-(q - k)).toNat * 2 ^ (r - l).toNat)
        = c * (J * 2 ^ (-(r - l)).toNat) * 2 ^ ((q - r - (k - l)).toNat + (-(q - k)).toNat + (r - l).toNat) := by
          simp only [Nat.pow_add]; ac_rfl
      _ = c * (d * 2 ^ (r - l).toNat) * 2 ^ ((q - k).toNat + (-(r - l)).toNat + (k - l - (q - r)).toNat) := by rw [x1, ← q2]
      _ = (c * 2 ^ (q - k).toNat) * (d * 2 ^ (r - l).toNat) * 2 ^ (-(r - l)).toNat * 2 ^ (k - l - (q - r)).toNat := by
          simp only [Nat.pow_add]; ac_rfl
      _ = (M * J * 2 ^ (-(q - k)).toNat) * (d * 2 ^ (r - l).toNat) * 2 ^ (-(r - l)).toNat * 2 ^ (k - l - (q - r)).toNat := by rw [q1]
      _ = M * d * 2 ^ (k - l - (q - r)).toNat * (2 ^ (-(r - l)).toNat * J * 2 ^ (-(q - k)).toNat * 2 ^ (r - l).toNat) := by ac_rfl
  · have s1 := own_signed_of w1
    have s2 := own_signed_of w2
    have h3 : signed (s != t) (i.natAbs * j.natAbs) = i * j := by rw [signed_xor, s1, s2]
    have h4 : i.natAbs * j.natAbs = m.natAbs * (j.natAbs * j.natAbs) := by rw [hmn, Nat.mul_assoc]
    rw [h4, signed_mul] at h3
    have hjj : ((j.natAbs * j.natAbs : Nat) : Int) = j * j := by rw [Int.natAbs_mul_self]
    rw [hjj, hm, Int.mul_assoc] at h3
    exact Int.eq_of_mul_eq_mul_right (Int.mul_ne_zero hj hj) h3
end OwnFP
/-! own tools: a walk in continuation style, named values, the ends -/
abbrev uU : Slot := .unset
abbrev uS : Slot := .second
abbrev sN : Slot := .val .null
abbrev sI (x : Int32) : Slot := .val (.int x)
abbrev sJ (x : Int64) : Slot := .val (.long x)
abbrev sD (x : UInt64) : Slot := .val (.double x)
abbrev sR (x : Addr) : Slot := .val (.ref x)
def OwnGo (tb : Tables) (e : Env) (below : List Frame) (Q : Outcome → State → Prop) (S : State) : Prop := ∃ s₂ o, Steps tb e below S s₂ ∧ s₂.status = .running ∧ Ended s₂ below o ∧ Q o s₂
theorem OwnGo.pre {tb : Tables} {e : Env} {below : List Frame} {Q : Outcome → State → Prop} {S S' : State} (h : ∀ t, Steps tb e below S' t → Steps tb e below S t) (k : OwnGo tb e below Q S') : OwnGo tb e below Q S := by
  obtain ⟨t, o, h1, h2⟩ := k
  exact ⟨t, o, h t h1, h2⟩
abbrev OwnEnd (s : State) (Q : Option Value → Heap → List Loc → Prop) (kc ks : Nat) : Outcome → State → Prop := fun o s₂ => ∃ v L, o = .returned v ∧ Q v s₂.heap L ∧ FrameEnd s o s₂ L kc ks
section OwnEnds
variable {p : Program} {l : Launch} {e : Env} {R : Room} {s : State} {m : MethodId} {args : Array Value} {below : List Frame} {meth : Method} {c : Code} {T : State} {locs : List Loc} {cells slots : Nat}
theorem own_retZ (X : Stand p l e R s m args below meth c T locs cells slots) (hx : p.tables.exec = Jvm.exec) (hk : meth.locks = false) {pc : Nat} {Ls : Array Slot} {z : Int32} {rest : List Value} (hret : meth.sig.returnType = some .boolean) (hd : decode c.code pc = .ok (.ireturn, 1))
    {Q : Option Value → Heap → List Loc → Prop} {kc ks : Nat} (hq : Q (some (.int (nar .boolean z))) T.heap locs) (hc : cells ≤ kc) (hs : slots ≤ ks) : OwnGo p.tables e below (OwnEnd s Q kc ks) (T.setTop (mkF m pc Ls (.int z :: rest))) := by
  obtain ⟨fs, hr, hrun, hended, hW, hsame⟩ := X.leave (v := some (.int (nar .boolean z))) (fun h => by rw [hret] at h; cases h) hk
  exact ⟨_, _, retN X hx (t := .boolean) hret (by simp) hd hr, hrun, hended, _, _, rfl, hq, ⟨_, rfl⟩, hW, hsame.mono hc hs⟩
theorem own_retI (X : Stand p l e R s m args below meth c T locs cells slots) (hx : p.tables.exec = Jvm.exec) (hk : meth.locks = false) {pc : Nat} {Ls : Array Slot} {z : Int32} {rest : List Value} (hret : meth.sig.returnType = some .int) (hd : decode c.code pc = .ok (.ireturn, 1))
    {Q : Option Value → Heap → List Loc → Prop} {kc ks : Nat} (hq : Q (some (.int z)) T.heap locs) (hc : cells ≤ kc) (hs : slots ≤ ks) : OwnGo p.tables e below (OwnEnd s Q kc ks) (T.setTop (mkF m pc Ls (.int z :: rest))) := by
  obtain ⟨fs, hr, hrun, hended, hW, hsame⟩ := X.leave (v := some (.int z)) (fun h => by rw [hret] at h; cases h) hk
  exact ⟨_, _, retOut X hx hret rfl (Or.inl ⟨rfl, Or.inl rfl, _, rfl⟩) hd hr, hrun, hended, _, _, rfl, hq, ⟨_, rfl⟩, hW, hsame.mono hc hs⟩
theorem own_retJ (X : Stand p l e R s m args below meth c T locs cells slots) (hx : p.tables.exec = Jvm.exec) (hk : meth.locks = false) {pc : Nat} {Ls : Array Slot} {z : Int64} {rest : List Value} (hret : meth.sig.returnType = some .long) (hd : decode c.code pc = .ok (.lreturn, 1))
    {Q : Option Value → Heap → List Loc → Prop} {kc ks : Nat} (hq : Q (some (.long z)) T.heap locs) (hc : cells ≤ kc) (hs : slots ≤ ks) : OwnGo p.tables e below (OwnEnd s Q kc ks) (T.setTop (mkF m pc Ls (.long z :: rest))) := by
  obtain ⟨fs, hr, hrun, hended, hW, hsame⟩ := X.leave (v := some (.long z)) (fun h => by rw [hret] at h; cases h) hk
  exact ⟨_, _, retOut X hx hret rfl (Or.inr (Or.inl ⟨rfl, rfl, _, rfl⟩)) hd hr, hrun, hended, _, _, rfl, hq, ⟨_, rfl⟩, hW, hsame.mono hc hs⟩
theorem own_retD (X : Stand p l e R s m args below meth c T locs cells slots) (hx : p.tables.exec = Jvm.exec) (hk : meth.locks = false) {pc : Nat} {Ls : Array Slot} {z : UInt64} {rest : List Value} (hret : meth.sig.returnType = some .double) (hd : decode c.code pc = .ok (.dreturn, 1))
    {Q : Option Value → Heap → List Loc → Prop} {kc ks : Nat} (hq : Q (some (.double z)) T.heap locs) (hc : cells ≤ kc) (hs : slots ≤ ks) : OwnGo p.tables e below (OwnEnd s Q kc ks) (T.setTop (mkF m pc Ls (.double z :: rest))) := by
  obtain ⟨fs, hr, hrun, hended, hW, hsame⟩ := X.leave (v := some (.double z)) (fun h => by rw [hret] at h; cases h) hk
  exact ⟨_, _, retOut X hx hret rfl (Or.inr (Or.inr (Or.inl ⟨rfl, rfl, _, rfl⟩))) hd hr, hrun, hended, _, _, rfl, hq, ⟨_, rfl⟩, hW, hsame.mono hc hs⟩
theorem own_retA (X : Stand p l e R s m args below meth c T locs cells slots) (hx : p.tables.exec = Jvm.exec) (hk : meth.locks = false) {pc : Nat} {Ls : Array Slot} {C : String} {w : Value} {rest : List Value} (hret : meth.sig.returnType = some (.object C)) (hd : decode c.code pc = .ok (.areturn, 1)) (hw : w.isRef = true)
    {Q : Option Value → Heap → List Loc → Prop} {kc ks : Nat} (hq : Q (some w) T.heap locs) (hc : cells ≤ kc) (hs : slots ≤ ks) : OwnGo p.tables e below (OwnEnd s Q kc ks) (T.setTop (mkF m pc Ls (w :: rest))) := by
  obtain ⟨fs, hr, hrun, hended, hW, hsame⟩ := X.leave (v := some w) (fun h => by rw [hret] at h; cases h) hk
  exact ⟨_, _, retOut X hx hret (by cases w <;> first | rfl | cases hw) (Or.inr (Or.inr (Or.inr (Or.inr ⟨rfl, rfl, hw⟩)))) hd hr, hrun, hended, _, _, rfl, hq, ⟨_, rfl⟩, hW, hsame.mono hc hs⟩
theorem own_ret0 (X : Stand p l e R s m args below meth c T locs cells slots) (hx : p.tables.exec = Jvm.exec) (hk : meth.locks = false) {pc : Nat} {Ls : Array Slot} (hret : meth.sig.returnType = none) (hd : decode c.code pc = .ok (.return_, 1))
    {Q : Option Value → Heap → List Loc → Prop} {kc ks : Nat} (hq : Q none T.heap locs) (hc : cells ≤ kc) (hs : slots ≤ ks) : OwnGo p.tables e below (OwnEnd s Q kc ks) (T.setTop (mkF m pc Ls [])) := by
  obtain ⟨fs, hr, hrun, hended, hW, hsame⟩ := X.leave (v := none) (fun _ => rfl) hk
  exact ⟨_, _, X.returnOut hx hret hd hr, hrun, hended, _, _, rfl, hq, ⟨_, rfl⟩, hW, hsame.mono hc hs⟩
theorem own_ldcD (X : Stand p l e R s m args below meth c T locs cells slots) (hx : p.tables.exec = Jvm.exec) {own : String} {index : Nat} {b : UInt64} (hown : s.vm.findClass own = some m.cls) (hconst : (Cond.constantDouble own index b).before args s = true) {g : JFrame} {target : State} (hg : g.method = m) (hd : decode c.code g.pc = .ok (.ldc2_w index, 3))
    (hr : Steps p.tables e below (T.setTop { g with pc := g.pc + 3, stack := .double b :: g.stack }) target) : Steps p.tables e below (T.setTop g) target := X.ldc2DoubleC hx hown hconst hg hd target hr
theorem own_ldcJ (X : Stand p l e R s m args below meth c T locs cells slots) (hx : p.tables.exec = Jvm.exec) {own : String} {index : Nat} {b : Int64} (hown : s.vm.findClass own = some m.cls) (hconst : (Cond.constantLong own index b).before args s = true) {g : JFrame} {target : State} (hg : g.method = m) (hd : decode c.code g.pc = .ok (.ldc2_w index, 3))
    (hr : Steps p.tables e below (T.setTop { g with pc := g.pc + 3, stack := .long b :: g.stack }) target) : Steps p.tables e below (T.setTop g) target := X.ldc2Long hx hown hconst hg hd target hr
theorem own_ldcI (X : Stand p l e R s m args below meth c T locs cells slots) (hx : p.tables.exec = Jvm.exec) {own : String} {index : Nat} {b : Int32} (hown : s.vm.findClass own = some m.cls) (hconst : (Cond.constant own index b).before args s = true) {g : JFrame} {target : State} (hg : g.method = m) (hd : decode c.code g.pc = .ok (.ldc index, 2))
    (hr : Steps p.tables e below (T.setTop { g with pc := g.pc + 2, stack := .int b :: g.stack }) target) : Steps p.tables e below (T.setTop g) target := X.ldcInt hx hown hconst hg hd target hr
end OwnEnds
theorem own_iadd {tb : Tables} [Ours tb] {e : Env} {below : List Frame} {T target : State} {m : MethodId} {c : Code} {g : JFrame} (h : At T m c below) (hx : tb.exec = Jvm.exec) (hg : g.method = m) {x : Int32} {y : Int32} {v : Int32} {rest : List Value} (hd : decode c.code g.pc = .ok (.iadd, 1)) (hs : g.stack = .int y :: .int x :: rest) (hv : x + y = v)
    (hr : Steps tb e below (T.setTop { g with pc := g.pc + 1, stack := .int v :: rest }) target) : Steps tb e below (T.setTop g) target := by subst hv; exact XS.iadd h hx hg hd hs hr
theorem own_isub {tb : Tables} [Ours tb] {e : Env} {below : List Frame} {T target : State} {m : MethodId} {c : Code} {g : JFrame} (h : At T m c below) (hx : tb.exec = Jvm.exec) (hg : g.method = m) {x : Int32} {y : Int32} {v : Int32} {rest : List Value} (hd : decode c.code g.pc = .ok (.isub, 1)) (hs : g.stack = .int y :: .int x :: rest) (hv : x - y = v)
    (hr : Steps tb e below (T.setTop { g with pc := g.pc + 1, stack := .int v :: rest }) target) : Steps tb e below (T.setTop g) target := by subst hv; exact XS.isub h hx hg hd hs hr
theorem own_iand {tb : Tables} [Ours tb] {e : Env} {below : List Frame} {T target : State} {m : MethodId} {c : Code} {g : JFrame} (h : At T m c below) (hx : tb.exec = Jvm.exec) (hg : g.method = m) {x : Int32} {y : Int32} {v : Int32} {rest : List Value} (hd : decode c.code g.pc = .ok (.iand, 1)) (hs : g.stack = .int y :: .int x :: rest) (hv : x &&& y = v)
    (hr : Steps tb e below (T.setTop { g with pc := g.pc + 1, stack := .int v :: rest }) target) : Steps tb e below (T.setTop g) target := by subst hv; exact XS.iand h hx hg hd hs hr
theorem own_ishl {tb : Tables} [Ours tb] {e : Env} {below : List Frame} {T target : State} {m : MethodId} {c : Code} {g : JFrame} (h : At T m c below) (hx : tb.exec = Jvm.exec) (hg : g.method = m) {x : Int32} {y : Int32} {v : Int32} {rest : List Value} (hd : decode c.code g.pc = .ok (.ishl, 1)) (hs : g.stack = .int y :: .int x :: rest) (hv : x <<< (y &&& 31) = v)
    (hr : Steps tb e below (T.setTop { g with pc := g.pc + 1, stack := .int v :: rest }) target) : Steps tb e below (T.setTop g) target := by subst hv; exact XT.ishl h hx hg hd hs hr
theorem own_ishr {tb : Tables} [Ours tb] {e : Env} {below : List Frame} {T target : State} {m : MethodId} {c : Code} {g : JFrame} (h : At T m c below) (hx : tb.exec = Jvm.exec) (hg : g.method = m) {x : Int32} {y : Int32} {v : Int32} {rest : List Value} (hd : decode c.code g.pc = .ok (.ishr, 1)) (hs : g.stack = .int y :: .int x :: rest) (hv : x >>> (y &&& 31) = v)
    (hr : Steps tb e below (T.setTop { g with pc := g.pc + 1, stack := .int v :: rest }) target) : Steps tb e below (T.setTop g) target := by subst hv; exact XT.ishr h hx hg hd hs hr
theorem own_iushr {tb : Tables} [Ours tb] {e : Env} {below : List Frame} {T target : State} {m : MethodId} {c : Code} {g : JFrame} (h : At T m c below) (hx : tb.exec = Jvm.exec) (hg : g.method = m) {x : Int32} {y : Int32} {v : Int32} {rest : List Value} (hd : decode c.code g.pc = .ok (.iushr, 1)) (hs : g.stack = .int y :: .int x :: rest) (hv : XT.ushr x y = v)
    (hr : Steps tb e below (T.setTop { g with pc := g.pc + 1, stack := .int v :: rest }) target) : Steps tb e below (T.setTop g) target := by subst hv; exact XT.iushr h hx hg hd hs hr
theorem own_irem {tb : Tables} [Ours tb] {e : Env} {below : List Frame} {T target : State} {m : MethodId} {c : Code} {g : JFrame} (h : At T m c below) (hx : tb.exec = Jvm.exec) (hg : g.method = m) {x : Int32} {y : Int32} {v : Int32} {rest : List Value} (hd : decode c.code g.pc = .ok (.irem, 1)) (hs : g.stack = .int y :: .int x :: rest) (hy : y ≠ 0) (hv : x - x / y * y = v)
    (hr : Steps tb e below (T.setTop { g with pc := g.pc + 1, stack := .int v :: rest }) target) : Steps tb e below (T.setTop g) target := by subst hv; exact XS.irem h hx hg hd hs hy hr
theorem own_ladd {tb : Tables} [Ours tb] {e : Env} {below : List Frame} {T target : State} {m : MethodId} {c : Code} {g : JFrame} (h : At T m c below) (hx : tb.exec = Jvm.exec) (hg : g.method = m) {x : Int64} {y : Int64} {v : Int64} {rest : List Value} (hd : decode c.code g.pc = .ok (.ladd, 1)) (hs : g.stack = .long y :: .long x :: rest) (hv : x + y = v)
    (hr : Steps tb e below (T.setTop { g with pc := g.pc + 1, stack := .long v :: rest }) target) : Steps tb e below (T.setTop g) target := by subst hv; exact XT.ladd h hx hg hd hs hr
theorem own_lsub {tb : Tables} [Ours tb] {e : Env} {below : List Frame} {T target : State} {m : MethodId} {c : Code} {g : JFrame} (h : At T m c below) (hx : tb.exec = Jvm.exec) (hg : g.method = m) {x : Int64} {y : Int64} {v : Int64} {rest : List Value} (hd : decode c.code g.pc = .ok (.lsub, 1)) (hs : g.stack = .long y :: .long x :: rest) (hv : x - y = v)
    (hr : Steps tb e below (T.setTop { g with pc := g.pc + 1, stack := .long v :: rest }) target) : Steps tb e below (T.setTop g) target := by subst hv; exact XT.lsub h hx hg hd hs hr
theorem own_lmul {tb : Tables} [Ours tb] {e : Env} {below : List Frame} {T target : State} {m : MethodId} {c : Code} {g : JFrame} (h : At T m c below) (hx : tb.exec = Jvm.exec) (hg : g.method = m) {x : Int64} {y : Int64} {v : Int64} {rest : List Value} (hd : decode c.code g.pc = .ok (.lmul, 1)) (hs : g.stack = .long y :: .long x :: rest) (hv : x * y = v)
    (hr : Steps tb e below (T.setTop { g with pc := g.pc + 1, stack := .long v :: rest }) target) : Steps tb e below (T.setTop g) target := by subst hv; exact XT.lmul h hx hg hd hs hr
theorem own_land {tb : Tables} [Ours tb] {e : Env} {below : List Frame} {T target : State} {m : MethodId} {c : Code} {g : JFrame} (h : At T m c below) (hx : tb.exec = Jvm.exec) (hg : g.method = m) {x : Int64} {y : Int64} {v : Int64} {rest : List Value} (hd : decode c.code g.pc = .ok (.land, 1)) (hs : g.stack = .long y :: .long x :: rest) (hv : x &&& y = v)
    (hr : Steps tb e below (T.setTop { g with pc := g.pc + 1, stack := .long v :: rest }) target) : Steps tb e below (T.setTop g) target := by subst hv; exact XT.land h hx hg hd hs hr
theorem own_lshl {tb : Tables} [Ours tb] {e : Env} {below : List Frame} {T target : State} {m : MethodId} {c : Code} {g : JFrame} (h : At T m c below) (hx : tb.exec = Jvm.exec) (hg : g.method = m) {x : Int64} {y : Int32} {v : Int64} {rest : List Value} (hd : decode c.code g.pc = .ok (.lshl, 1)) (hs : g.stack = .int y :: .long x :: rest) (hv : x <<< (y.toInt64 &&& 63) = v)
    (hr : Steps tb e below (T.setTop { g with pc := g.pc + 1, stack := .long v :: rest }) target) : Steps tb e below (T.setTop g) target := by subst hv; exact XT.lshl h hx hg hd hs hr
theorem own_lshr {tb : Tables} [Ours tb] {e : Env} {below : List Frame} {T target : State} {m : MethodId} {c : Code} {g : JFrame} (h : At T m c below) (hx : tb.exec = Jvm.exec) (hg : g.method = m) {x : Int64} {y : Int32} {v : Int64} {rest : List Value} (hd : decode c.code g.pc = .ok (.lshr, 1)) (hs : g.stack = .int y :: .long x :: rest) (hv : x >>> (y.toInt64 &&& 63) = v)
    (hr : Steps tb e below (T.setTop { g with pc := g.pc + 1, stack := .long v :: rest }) target) : Steps tb e below (T.setTop g) target := by subst hv; exact XT.lshr h hx hg hd hs hr
theorem own_lushr {tb : Tables} [Ours tb] {e : Env} {below : List Frame} {T target : State} {m : MethodId} {c : Code} {g : JFrame} (h : At T m c below) (hx : tb.exec = Jvm.exec) (hg : g.method = m) {x : Int64} {y : Int32} {v : Int64} {rest : List Value} (hd : decode c.code g.pc = .ok (.lushr, 1)) (hs : g.stack = .int y :: .long x :: rest) (hv : XT.ushrL x y = v)
    (hr : Steps tb e below (T.setTop { g with pc := g.pc + 1, stack := .long v :: rest }) target) : Steps tb e below (T.setTop g) target := by subst hv; exact XT.lushr h hx hg hd hs hr
theorem own_lrem {tb : Tables} [Ours tb] {e : Env} {below : List Frame} {T target : State} {m : MethodId} {c : Code} {g : JFrame} (h : At T m c below) (hx : tb.exec = Jvm.exec) (hg : g.method = m) {x : Int64} {y : Int64} {v : Int64} {rest : List Value} (hd : decode c.code g.pc = .ok (.lrem, 1)) (hs : g.stack = .long y :: .long x :: rest) (hy : y ≠ 0) (hv : x - (x / y) * y = v)
    (hr : Steps tb e below (T.setTop { g with pc := g.pc + 1, stack := .long v :: rest }) target) : Steps tb e below (T.setTop g) target := by subst hv; exact XT.lrem h hx hg hd hs hy hr
theorem own_lcmp {tb : Tables} [Ours tb] {e : Env} {below : List Frame} {T target : State} {m : MethodId} {c : Code} {g : JFrame} (h : At T m c below) (hx : tb.exec = Jvm.exec) (hg : g.method = m) {x : Int64} {y : Int64} {v : Int32} {rest : List Value} (hd : decode c.code g.pc = .ok (.lcmp, 1)) (hs : g.stack = .long y :: .long x :: rest) (hv : XT.cmpL x y = v)
    (hr : Steps tb e below (T.setTop { g with pc := g.pc + 1, stack := .int v :: rest }) target) : Steps tb e below (T.setTop g) target := by subst hv; exact XT.lcmp h hx hg hd hs hr
theorem own_lneg {tb : Tables} [Ours tb] {e : Env} {below : List Frame} {T target : State} {m : MethodId} {c : Code} {g : JFrame} (h : At T m c below) (hx : tb.exec = Jvm.exec) (hg : g.method = m) {x : Int64} {v : Int64} {rest : List Value} (hd : decode c.code g.pc = .ok (.lneg, 1)) (hs : g.stack = .long x :: rest) (hv : -x = v)
    (hr : Steps tb e below (T.setTop { g with pc := g.pc + 1, stack := .long v :: rest }) target) : Steps tb e below (T.setTop g) target := by subst hv; exact XT.lneg h hx hg hd hs hr
theorem own_i2l {tb : Tables} [Ours tb] {e : Env} {below : List Frame} {T target : State} {m : MethodId} {c : Code} {g : JFrame} (h : At T m c below) (hx : tb.exec = Jvm.exec) (hg : g.method = m) {x : Int32} {v : Int64} {rest : List Value} (hd : decode c.code g.pc = .ok (.i2l, 1)) (hs : g.stack = .int x :: rest) (hv : x.toInt64 = v)
    (hr : Steps tb e below (T.setTop { g with pc := g.pc + 1, stack := .long v :: rest }) target) : Steps tb e below (T.setTop g) target := by subst hv; exact XT.i2l h hx hg hd hs hr
theorem own_l2i {tb : Tables} [Ours tb] {e : Env} {below : List Frame} {T target : State} {m : MethodId} {c : Code} {g : JFrame} (h : At T m c below) (hx : tb.exec = Jvm.exec) (hg : g.method = m) {x : Int64} {v : Int32} {rest : List Value} (hd : decode c.code g.pc = .ok (.l2i, 1)) (hs : g.stack = .long x :: rest) (hv : x.toInt32 = v)
    (hr : Steps tb e below (T.setTop { g with pc := g.pc + 1, stack := .int v :: rest }) target) : Steps tb e below (T.setTop g) target := by subst hv; exact XT.l2i h hx hg hd hs hr
theorem own_ineg {tb : Tables} [Ours tb] {e : Env} {below : List Frame} {T target : State} {m : MethodId} {c : Code} {g : JFrame} (h : At T m c below) (hx : tb.exec = Jvm.exec) (hg : g.method = m) {x : Int32} {v : Int32} {rest : List Value} (hd : decode c.code g.pc = .ok (.ineg, 1)) (hs : g.stack = .int x :: rest) (hv : -x = v)
    (hr : Steps tb e below (T.setTop { g with pc := g.pc + 1, stack := .int v :: rest }) target) : Steps tb e below (T.setTop g) target := by subst hv; exact XS.ineg h hx hg hd hs hr
section OwnFP2
open Jvm.FP.Core
/-- what a condition asks of two whole numbers -/
def own_rel : ClassFile.Cond → Int → Int → Bool
  | .eq, i, j => decide (i = j)
  | .ne, i, j => decide (i ≠ j)
  | .lt, i, j => decide (i < j)
  | .ge, i, j => decide (j ≤ i)
  | .gt, i, j => decide (j < i)
  | .le, i, j => decide (i ≤ j)
theorem own_br2 (cd : ClassFile.Cond) (x y : Int32) : if_icmp.holds cd x y = own_rel cd x.toInt y.toInt := by
  cases cd
  · show (x == y) = decide (x.toInt = y.toInt)
    by_cases h : x = y
    · subst h; simp
    · rw [beq_eq_false_iff_ne.mpr h, decide_eq_false (fun q => h (Int32.toInt_inj.mp q))]
  · show (x != y) = decide (x.toInt ≠ y.toInt)
    by_cases h : x = y
    · subst h; simp
    · rw [bne_iff_ne.mpr h]; exact (decide_eq_true (p := x.toInt ≠ y.toInt) (fun q => h (Int32.toInt_inj.mp q))).symm
  · exact decide_eq_decide.mpr Int32.lt_iff_toInt_lt
  · exact decide_eq_decide.mpr Int32.le_iff_toInt_le
  · exact decide_eq_decide.mpr Int32.lt_iff_toInt_lt
  · exact decide_eq_decide.mpr Int32.le_iff_toInt_le
theorem own_br0 (cd : ClassFile.Cond) (x : Int32) : ifCond.holds cd x = own_rel cd x.toInt 0 := by
  have h : ifCond.holds cd x = if_icmp.holds cd x 0 := by cases cd <;> rfl
  rw [h, own_br2]; rfl
theorem own_rel_iff (cd : ClassFile.Cond) {i j i' j' : Int} (h1 : i < j ↔ i' < j') (h2 : i = j ↔ i' = j') : own_rel cd i j = own_rel cd i' j' := by
  cases cd
  · exact decide_eq_decide.mpr h2
  · exact decide_eq_decide.mpr (not_congr h2)
  · exact decide_eq_decide.mpr h1
  · exact decide_eq_decide.mpr (by omega)
  · exact decide_eq_decide.mpr (by omega)
  · exact decide_eq_decide.mpr (by omega)
theorem own_sgn3 (cd : ClassFile.Cond) {z : Int32} {i j : Int} (h : (i < j ∧ z = -1) ∨ (i = j ∧ z = 0) ∨ (j < i ∧ z = 1)) : ifCond.holds cd z = own_rel cd i j := by
  rw [own_br0]
  refine own_rel_iff cd ?_ ?_ <;> rcases h with ⟨h1, rfl⟩ | ⟨h1, rfl⟩ | ⟨h1, rfl⟩
  · have e1 : (-1 : Int32).toInt = -1 := rfl
    omega
  · have e1 : (0 : Int32).toInt = 0 := rfl
    omega
  · have e1 : (1 : Int32).toInt = 1 := rfl
    omega
  · have e1 : (-1 : Int32).toInt = -1 := rfl
    omega
  · have e1 : (0 : Int32).toInt = 0 := rfl
    omega
  · have e1 : (1 : Int32).toInt = 1 := rfl
    omega
theorem own_brL (cd : ClassFile.Cond) (x y : Int64) : ifCond.holds cd (XT.cmpL x y) = own_rel cd x.toInt y.toInt := by
  refine own_sgn3 cd ?_
  have h := @Int64.toInt_inj x y
  by_cases h1 : y < x
  · refine Or.inr (Or.inr ⟨Int64.lt_iff_toInt_lt.mp h1, ?_⟩)
    show (if y < x then (1 : Int32) else if x = y then 0 else -1) = 1
    rw [if_pos h1]
  · by_cases h2 : x = y
    · refine Or.inr (Or.inl ⟨h.mpr h2, ?_⟩)
      show (if y < x then (1 : Int32) else if x = y then 0 else -1) = 0
      rw [if_neg h1, if_pos h2]
    · refine Or.inl ⟨?_, ?_⟩
      · rw [Int64.lt_iff_toInt_lt] at h1
        have : x.toInt ≠ y.toInt := fun q => h2 (h.mp q)
        omega
      · show (if y < x then (1 : Int32) else if x = y then 0 else -1) = -1
        rw [if_neg h1, if_neg h2]
theorem own_brD (cd : ClassFile.Cond) {k i j : Int} {a b : UInt64} (ha : OwnDS k i a) (hb : OwnDS k j b) (o : CmpOp) : ifCond.holds cd (cmpValue (FP.dcmp a b) o) = own_rel cd i j := by
  have hc : FP.dcmp a b = some (compare i j) := own_ds_cmp ha hb
  rw [hc]
  refine own_sgn3 cd ?_
  rcases Int.lt_trichotomy i j with q | q | q
  · refine Or.inl ⟨q, ?_⟩
    rw [show compare i j = .lt from Int.compare_eq_lt.mpr q]; rfl
  · refine Or.inr (Or.inl ⟨q, ?_⟩)
    rw [show compare i j = .eq from Int.compare_eq_eq.mpr q]; rfl
  · refine Or.inr (Or.inr ⟨q, ?_⟩)
    rw [show compare i j = .gt from Int.compare_eq_gt.mpr q]; rfl
theorem own_nn {k i : Int} {a : UInt64} (h : OwnDS k i a) : Jvm.Free.Fl.NoNaN64 a := Jvm.Free.Fl.val64_no.mpr (own_ds_ne_nan h)
theorem own_i2d (x : Int32) : OwnDS 0 x.toInt (FP.i2d x) := own_ds_int (i2d_int x)
theorem own_l2d {x : Int64} {i : Int} (h : x.toInt = i) (hb : i.natAbs ≤ 9007199254740992) : OwnDS 0 i (FP.l2d x) := by
  subst h; exact own_ds_int (l2d_int (by omega))
theorem own_i32 (x : Int32) : -2147483648 ≤ x.toInt ∧ x.toInt ≤ 2147483648 := by
  have h1 := x.toInt_lt
  have h2 := x.le_toInt
  omega
theorem own_mul_bd {i j A B : Int} (h1 : -A ≤ i ∧ i ≤ A) (h2 : -B ≤ j ∧ j ≤ B) : -(A * B) ≤ i * j ∧ i * j ≤ A * B := by
  have ha : i.natAbs ≤ A.toNat := by omega
  have hb : j.natAbs ≤ B.toNat := by omega
  have h := Nat.mul_le_mul ha hb
  rw [← Int.natAbs_mul] at h
  have e : ((A.toNat * B.toNat : Nat) : Int) = A * B := by
    rw [Int.natCast_mul, Int.toNat_of_nonneg (by omega), Int.toNat_of_nonneg (by omega)]
  generalize A.toNat * B.toNat = n at h e
  omega
theorem own_d2l {i : Int} {a : UInt64} (h : OwnDS 0 i a) (hb : i.natAbs ≤ 9007199254740992) : (FP.d2l a).toInt = i := by
  have e : (Int64.ofInt i).toInt = i := by rw [Int64.toInt_ofInt]; exact Jvm.Kit.bmod64 (by omega) (by omega)
  have q : FP.d2l a = Int64.ofInt i := d2l_int (a := Int64.ofInt i) (b := a) (by rw [e]; exact own_int_ds h)
  rw [q, e]
theorem own_ds_neg {k i : Int} {a : UInt64} (h : OwnDS k i a) : OwnDS k (-i) (FP.dneg a) := by
  show OwnSc _ _ _
  rw [Jvm.FP.val64_dneg]; exact own_sc_neg h
theorem own_fin {k i : Int} {a : UInt64} (h : OwnDS k i a) : DFin a := by
  obtain ⟨s, c, q, hv, -⟩ := own_sc_fin h
  exact ⟨s, c, q, hv⟩
theorem own_isfin {a : UInt64} (h : DFin a) : ifCond.holds .gt (cmpValue (FP.dcmp (a &&& 0x7fffffffffffffff) 9218868437227405311) .g) = false := by
  have hn : dIsNaN a = false := (notNaN_iff a).mpr (by obtain ⟨s, c, q, hv⟩ := h; rw [hv]; exact Datum.noConfusion)
  have q : FP.dcmp (a &&& 0x7fffffffffffffff) 9218868437227405311 = some .lt ∨ FP.dcmp (a &&& 0x7fffffffffffffff) 9218868437227405311 = some .eq := (le_max hn).mpr h
  rcases q with q | q <;> rw [q] <;> rfl
theorem own_bd_add {i j A B C : Int} (h1 : -A ≤ i ∧ i ≤ A) (h2 : -B ≤ j ∧ j ≤ B) (hC : A + B = C) : -C ≤ i + j ∧ i + j ≤ C := by omega
theorem own_bd_sub {i j A B C : Int} (h1 : -A ≤ i ∧ i ≤ A) (h2 : -B ≤ j ∧ j ≤ B) (hC : A + B = C) : -C ≤ i - j ∧ i - j ≤ C := by omega
theorem own_bd_mul {i j A B C : Int} (h1 : -A ≤ i ∧ i ≤ A) (h2 : -B ≤ j ∧ j ≤ B) (hC : A * B = C) : -C ≤ i * j ∧ i * j ≤ C := hC ▸ own_mul_bd h1 h2
theorem own_bd_neg {i A : Int} (h1 : -A ≤ i ∧ i ≤ A) : -A ≤ -i ∧ -i ≤ A := by omega
theorem own_bd_nat {i C : Int} {n : Nat} (h : -C ≤ i ∧ i ≤ C) (hC : C < ((2 ^ n : Nat) : Int)) : i.natAbs < 2 ^ n := by
  generalize 2 ^ n = N at hC
  omega
theorem own_bd_le {i A C : Int} (h : -A ≤ i ∧ i ≤ A) (hC : A ≤ C) : -C ≤ i ∧ i ≤ C := by omega
theorem own_lf_add {x y v : Int64} {i j A B k : Int} (hv : x + y = v) (Fx : x.toInt = i) (Fy : y.toInt = j) (b1 : -A ≤ i ∧ i ≤ A) (b2 : -B ≤ j ∧ j ≤ B) (hC : A + B < 9223372036854775808) (hk : k = i + j) : v.toInt = k := by
  subst hv hk; rw [Jvm.Kit.i64_add (by rw [Fx, Fy]; omega) (by rw [Fx, Fy]; omega), Fx, Fy]
theorem own_lf_sub {x y v : Int64} {i j A B k : Int} (hv : x - y = v) (Fx : x.toInt = i) (Fy : y.toInt = j) (b1 : -A ≤ i ∧ i ≤ A) (b2 : -B ≤ j ∧ j ≤ B) (hC : A + B < 9223372036854775808) (hk : k = i - j) : v.toInt = k := by
  subst hv hk; rw [Jvm.Kit.i64_sub (by rw [Fx, Fy]; omega) (by rw [Fx, Fy]; omega), Fx, Fy]
theorem own_lf_mul {x y v : Int64} {i j A B k : Int} (hv : x * y = v) (Fx : x.toInt = i) (Fy : y.toInt = j) (b1 : -A ≤ i ∧ i ≤ A) (b2 : -B ≤ j ∧ j ≤ B) (hC : A * B < 9223372036854775808) (hk : k = i * j) : v.toInt = k := by
  have q := own_mul_bd b1 b2
  subst hv hk; rw [Jvm.Kit.i64_mul (by rw [Fx, Fy]; omega) (by rw [Fx, Fy]; omega), Fx, Fy]
theorem own_lf_neg {x v : Int64} {i A k : Int} (hv : -x = v) (Fx : x.toInt = i) (b1 : -A ≤ i ∧ i ≤ A) (hC : A < 9223372036854775808) (hk : k = -i) : v.toInt = k := by
  subst hv hk; rw [Jvm.Kit.i64_neg (by omega), Fx]
theorem own_l2db {x : Int64} {i A : Int} (h : x.toInt = i) (b1 : -A ≤ i ∧ i ≤ A) (hC : A ≤ 9007199254740992) : OwnDS 0 i (FP.l2d x) := own_l2d h (by omega)
theorem own_d2lb {i A : Int} {a : UInt64} (h : OwnDS 0 i a) (b1 : -A ≤ i ∧ i ≤ A) (hC : A ≤ 9007199254740992) : (FP.d2l a).toInt = i := own_d2l h (by omega)
end OwnFP2
/-- an array of doubles by its list -/
def OwnDA (Z : State) (h : Heap) (o : Addr) (vs : List UInt64) : Prop := ∃ c : Cell, Jvm.RoadKit.Arr Z h o c .double ∧ c.slots = (vs.map Value.double).toArray
section OwnDAs
variable {Z : State} {h h' : Heap} {o b : Addr} {vs : List UInt64} {sl : Nat} {w : Value} {ws : List Addr}
theorem OwnDA.lt (A : OwnDA Z h o vs) : o < h.size := by obtain ⟨c, A, -⟩ := A; exact A.lt
theorem OwnDA.ex (A : OwnDA Z h o vs) (E : Ext h h') : OwnDA Z h' o vs := by obtain ⟨c, A, q⟩ := A; exact ⟨c, A.ext E, q⟩
theorem OwnDA.ot (A : OwnDA Z h o vs) (W : Wr h h' b sl w) (q : o ≠ b) : OwnDA Z h' o vs := by obtain ⟨c, A, r⟩ := A; exact ⟨c, A.other W q, r⟩
theorem OwnDA.kp (A : OwnDA Z h o vs) (K : Keep h h' ws) (q : o ∉ ws) : OwnDA Z h' o vs := by obtain ⟨c, A, r⟩ := A; exact ⟨c, ⟨K.2.1 o c A.1 q, A.2⟩, r⟩
theorem OwnDA.nw {k : ClassId} {z : Int32} (A : Jvm.RoadKit.Arr Z h o (newA k .double z) .double) (n : Nat) (hn : z.toNatClampNeg = n) : OwnDA Z h o (List.replicate n 0) := by
  refine ⟨_, A, ?_⟩
  show Array.replicate z.toNatClampNeg (Value.double 0) = _
  rw [hn]; simp
theorem OwnDA.st {x : UInt64} {i : Nat} (A : OwnDA Z h o vs) (W : Wr h h' o i (.double x)) : OwnDA Z h' o (vs.set i x) := by
  obtain ⟨c, A, r⟩ := A
  refine ⟨_, A.same W, ?_⟩
  show c.slots.setIfInBounds i (.double x) = _
  rw [r]; simp [List.map_set]
variable {p : Program} {l : Launch} {e : Env} {R : Room} {s : State} {m : MethodId} {args : Array Value} {below : List Frame} {meth : Method} {c : Code} {T : State} {locs : List Loc} {cells slots : Nat}
theorem own_daS (X : Stand p l e R s m args below meth c T locs cells slots) (hx : p.tables.exec = Jvm.exec) (hZ : Z.Warmed39 s.vm) (eT : T.heap = h) (A : OwnDA Z h o vs) {j : Int32} {x : UInt64} {i : Nat} (hj : ¬ j < 0) (hji : j.toNatClampNeg = i) (hi : i < vs.length) {g : JFrame} (hg : g.method = m) {rest : List Value} (hs : g.stack = .double x :: .int j :: .ref o :: rest) (hd : decode c.code g.pc = .ok (.dastore, 1)) :
    ∃ T' h', Stand p l e R s m args below meth c T' (locs ++ [⟨o, i⟩]) cells slots ∧ T'.heap = h' ∧ Wr h h' o i (.double x) ∧ OwnDA Z h' o (vs.set i x) ∧ ∀ target, Steps p.tables e below (T'.setTop { g with pc := g.pc + 1, stack := rest }) target → Steps p.tables e below (T.setTop g) target := by
  subst hji
  obtain ⟨cl, A', r⟩ := A
  have hz : cl.slots.size = vs.length := by rw [r]; simp
  obtain ⟨T', h', X', e', W, st⟩ := stD X hx hZ eT A' (j := j) (x := x) (fun q => q.elim hj (fun q => by omega)) hg hs hd
  exact ⟨T', h', X', e', W, OwnDA.st ⟨cl, A', r⟩ W, st⟩
theorem own_daL (X : Stand p l e R s m args below meth c T locs cells slots) (hx : p.tables.exec = Jvm.exec) (hZ : Z.Warmed39 s.vm) (eT : T.heap = h) (A : OwnDA Z h o vs) {j : Int32} {x : UInt64} {i : Nat} (hj : ¬ j < 0) (hji : j.toNatClampNeg = i) (hv : vs[i]? = some x) {g : JFrame} (hg : g.method = m) {rest : List Value} (hs : g.stack = .int j :: .ref o :: rest) (hd : decode c.code g.pc = .ok (.daload, 1)) {target : State}
    (hr : Steps p.tables e below (T.setTop { g with pc := g.pc + 1, stack := .double x :: rest }) target) : Steps p.tables e below (T.setTop g) target := by
  subst hji
  obtain ⟨cl, A', r⟩ := A
  have hz : cl.slots.size = vs.length := by rw [r]; simp
  have hi : j.toNatClampNeg < vs.length := (List.getElem?_eq_some_iff.mp hv).1
  exact X.daload hx (j := j) (v := .double x) (by rw [eT]; exact A'.1) (State.isArrayOf_alike hZ.alike A'.2.1) A'.2.2 (fun q => q.elim hj (fun q => by omega)) (by rw [r]; simp [hv]) hg hs hd target hr
theorem own_newD (X : Stand p l e R s m args below meth c T locs cells slots) (hx : p.tables.exec = Jvm.exec) (hZ : Z.Warmed39 s.vm) {a0 : Array Value} (w : (Cond.arrayClass .double).before a0 Z = true) (eT : T.heap = h) {g : JFrame} (hg : g.method = m) (hd : decode c.code g.pc = .ok (.newarray .double, 2)) {z : Int32} {n : Nat} {rest : List Value} (hs : g.stack = .int z :: rest) (hz : ¬ z < 0) (hn : z.toNatClampNeg = n) (hb : n * 8 ≤ 536870912) (hc : cells + 1 ≤ R.cells) (hl : slots + n ≤ R.slots) :
    ∃ T' h', Stand p l e R s m args below meth c T' locs (cells + 1) (slots + n) ∧ T'.heap = h' ∧ Ext h h' ∧ OwnDA Z h' h.size (List.replicate n 0) ∧ ∀ target, Steps p.tables e below (T'.setTop { g with pc := g.pc + 2, stack := .ref h.size :: rest }) target → Steps p.tables e below (T.setTop g) target := by
  obtain ⟨T', h', cA, X', e', E, A, st⟩ := newP X hx hZ (aty := .double) w eT hg hd hs hz (cap := n) (Nat.le_of_eq hn) hb hc hl
  exact ⟨T', h', X', e', E, OwnDA.nw A n hn, st⟩
end OwnDAs
theorem d1_0 : decode method_2_code 0 = .ok (.lload_n 0, 1) := by decide +kernel
theorem d1_1 : decode method_2_code 1 = .ok (.bipush 44, 2) := by decide +kernel
theorem d1_3 : decode method_2_code 3 = .ok (.lshl, 1) := by decide +kernel
theorem d1_4 : decode method_2_code 4 = .ok (.bipush 44, 2) := by decide +kernel
theorem d1_6 : decode method_2_code 6 = .ok (.lshr, 1) := by decide +kernel
theorem d1_7 : decode method_2_code 7 = .ok (.lreturn, 1) := by decide +kernel
theorem pn_rmLo : plainName "com/example/isochron/isochron/dsp/RowButterfliesForwardPinLaw" = true := by first | (simp [plainName, overriddenIn]; done) | decide +kernel
theorem pd_rmLo : parseMethodDescriptor "(J)J" = some ⟨[.long], (some .long)⟩ := by decide +kernel
theorem ef_rmLo (m : MethodId) (y : Int64) : entryFrame m #[(.long y)] 2 = (mkF m 0 #[sJ y, uS] []) := by first | (simp [entryFrame, mkF, argsToLocals, Value.category, maxLocals]; done) | rfl
def Q_rmLo (Z : State) (y : Int64) (h0 : Heap) (n0 : Nat) (v : Option Value) (h : Heap) (L : List Loc) : Prop := ∃ r, v = some (.long r) ∧ (-524288 ≤ r.toInt ∧ r.toInt ≤ 524288) ∧ Fr n0 L ∧ h = h0
set_option maxRecDepth 65536 in
set_option maxHeartbeats 40000000 in
theorem rmLo (l : Launch) (Z : State) (a0 : Array Value) (hw : ∀ d ∈ tables_1, d.before a0 Z = true) (ws : List Jvm.Cond) (y : Int64) (h0 : Heap) (n0 : Nat) (Z0 : n0 ≤ h0.size)  :
    MetFree l (⟨"com/example/isochron/isochron/dsp/RowButterfliesForwardPinLaw", "lo", "(J)J"⟩ : MethodName) (head1 (Jvm.Cond.code (⟨"com/example/isochron/isochron/dsp/RowButterfliesForwardPinLaw", "lo", "(J)J"⟩ : MethodName) method_2_code 2 (some .long) :: ws) ({ frames := 0, cells := 0, slots := 0, locals := 0 } : Room)) (fun a U => a = #[(.long y)] ∧ Z.Warmed39 U.vm ∧ U.heap = h0) (fun _ _ _ _ _ => True) (fun _ U oO U' => ∃ v L, oO = .returned v ∧ Q_rmLo Z y h0 n0 v U'.heap L ∧ FrameEnd U oO U' L ({ frames := 0, cells := 0, slots := 0, locals := 0 } : Room).cells ({ frames := 0, cells := 0, slots := 0, locals := 0 } : Room).slots) := by
  refine MetFree.of_bodySF (plainFor_of_name pn_rmLo) hisR ?_
  intro p e s m args below meth c s₁ Bd hml0 hP hK
  obtain ⟨rfl, hZ, hh⟩ := hP
  have hx := Bd.exec
  have hby := Bd.bytes
  have hml : c.maxLocals = 2 := hml0
  have hown : s.vm.findClass "com/example/isochron/isochron/dsp/RowButterfliesForwardPinLaw" = some m.cls := findClass_of_methodNamed Bd.named
  have hnm := (name_of_methodNamed Bd.named Bd.method).1
  have hk := Bd.notSynchronized
  have hrt := Bd.returns
  have X0 : Stand p l e ({ frames := 0, cells := 0, slots := 0, locals := 0 } : Room) s m #[(.long y)] below meth c s₁ [] 0 0 := Stand.of_body Bd
  have e0 : s₁.heap = h0 := by rw [← hh, Bd.state]; rfl
  have N0 := Fr.nil n0
  show OwnGo p.tables e below (OwnEnd s (Q_rmLo Z y h0 n0) ({ frames := 0, cells := 0, slots := 0, locals := 0 } : Room).cells ({ frames := 0, cells := 0, slots := 0, locals := 0 } : Room).slots) _
  refine OwnGo.pre (fun t k => castTop (ef_rmLo m y) k) ?_
  show OwnGo _ _ _ _ (s₁.setTop (mkF m 0 #[sJ y, uS] []))
  obtain ⟨sl, hsl⟩ : ∃ v, y <<< ((44 : Int32).toInt64 &&& 63) = v := ⟨_, rfl⟩
  obtain ⟨rr, hrr⟩ : ∃ v, sl >>> ((44 : Int32).toInt64 &&& 63) = v := ⟨_, rfl⟩
  have bb : -524288 ≤ rr.toInt ∧ rr.toInt ≤ 524288 := by have q := Jvm.Kit.i64_shr sl ((44 : Int32).toInt64 &&& 63) (k := 44) (by decide); have q1 := sl.toInt_lt; have q2 := sl.le_toInt; rw [hrr] at q; omega
  refine OwnGo.pre (fun t k => XT.lloadN X0.here hx rfl (hb hby d1_0) rfl (XS.bipush X0.here hx rfl (hb hby d1_1) (own_lshl X0.here hx rfl (hb hby d1_3) rfl hsl (XS.bipush X0.here hx rfl (hb hby d1_4) (own_lshr X0.here hx rfl (hb hby d1_6) rfl hrr k))))) ?_
  show OwnGo _ _ _ _ (s₁.setTop (mkF m 7 #[sJ y, uS] [(.long rr)]))
  exact own_retJ X0 hx hk hrt (hb hby d1_7) ⟨_, rfl, bb, N0, e0⟩ (by decide) (by decide)
theorem d2_0 : decode method_3_code 0 = .ok (.lload_n 0, 1) := by decide +kernel
theorem d2_1 : decode method_3_code 1 = .ok (.bipush 12, 2) := by decide +kernel
theorem d2_3 : decode method_3_code 3 = .ok (.lshl, 1) := by decide +kernel
theorem d2_4 : decode method_3_code 4 = .ok (.bipush 44, 2) := by decide +kernel
theorem d2_6 : decode method_3_code 6 = .ok (.lshr, 1) := by decide +kernel
theorem d2_7 : decode method_3_code 7 = .ok (.lreturn, 1) := by decide +kernel
theorem pn_rmHi : plainName "com/example/isochron/isochron/dsp/RowButterfliesForwardPinLaw" = true := by first | (simp [plainName, overriddenIn]; done) | decide +kernel
theorem pd_rmHi : parseMethodDescriptor "(J)J" = some ⟨[.long], (some .long)⟩ := by decide +kernel
theorem ef_rmHi (m : MethodId) (y : Int64) : entryFrame m #[(.long y)] 2 = (mkF m 0 #[sJ y, uS] []) := by first | (simp [entryFrame, mkF, argsToLocals, Value.category, maxLocals]; done) | rfl
def Q_rmHi (Z : State) (y : Int64) (h0 : Heap) (n0 : Nat) (v : Option Value) (h : Heap) (L : List Loc) : Prop := ∃ r, v = some (.long r) ∧ (-524288 ≤ r.toInt ∧ r.toInt ≤ 524288) ∧ Fr n0 L ∧ h = h0
set_option maxRecDepth 65536 in
set_option maxHeartbeats 40000000 in
theorem rmHi (l : Launch) (Z : State) (a0 : Array Value) (hw : ∀ d ∈ tables_1, d.before a0 Z = true) (ws : List Jvm.Cond) (y : Int64) (h0 : Heap) (n0 : Nat) (Z0 : n0 ≤ h0.size)  :
    MetFree l (⟨"com/example/isochron/isochron/dsp/RowButterfliesForwardPinLaw", "hi", "(J)J"⟩ : MethodName) (head1 (Jvm.Cond.code (⟨"com/example/isochron/isochron/dsp/RowButterfliesForwardPinLaw", "hi", "(J)J"⟩ : MethodName) method_3_code 2 (some .long) :: ws) ({ frames := 0, cells := 0, slots := 0, locals := 0 } : Room)) (fun a U => a = #[(.long y)] ∧ Z.Warmed39 U.vm ∧ U.heap = h0) (fun _ _ _ _ _ => True) (fun _ U oO U' => ∃ v L, oO = .returned v ∧ Q_rmHi Z y h0 n0 v U'.heap L ∧ FrameEnd U oO U' L ({ frames := 0, cells := 0, slots := 0, locals := 0 } : Room).cells ({ frames := 0, cells := 0, slots := 0, locals := 0 } : Room).slots) := by
  refine MetFree.of_bodySF (plainFor_of_name pn_rmHi) hisR ?_
  intro p e s m args below meth c s₁ Bd hml0 hP hK
  obtain ⟨rfl, hZ, hh⟩ := hP
  have hx := Bd.exec
  have hby := Bd.bytes
  have hml : c.maxLocals = 2 := hml0
  have hown : s.vm.findClass "com/example/isochron/isochron/dsp/RowButterfliesForwardPinLaw" = some m.cls := findClass_of_methodNamed Bd.named
  have hnm := (name_of_methodNamed Bd.named Bd.method).1
  have hk := Bd.notSynchronized
  have hrt := Bd.returns
  have X0 : Stand p l e ({ frames := 0, cells := 0, slots := 0, locals := 0 } : Room) s m #[(.long y)] below meth c s₁ [] 0 0 := Stand.of_body Bd
  have e0 : s₁.heap = h0 := by rw [← hh, Bd.state]; rfl
  have N0 := Fr.nil n0
  show OwnGo p.tables e below (OwnEnd s (Q_rmHi Z y h0 n0) ({ frames := 0, cells := 0, slots := 0, locals := 0 } : Room).cells ({ frames := 0, cells := 0, slots := 0, locals := 0 } : Room).slots) _
  refine OwnGo.pre (fun t k => castTop (ef_rmHi m y) k) ?_
  show OwnGo _ _ _ _ (s₁.setTop (mkF m 0 #[sJ y, uS] []))
  obtain ⟨sl, hsl⟩ : ∃ v, y <<< ((12 : Int32).toInt64 &&& 63) = v := ⟨_, rfl⟩
  obtain ⟨rr, hrr⟩ : ∃ v, sl >>> ((44 : Int32).toInt64 &&& 63) = v := ⟨_, rfl⟩
  have bb : -524288 ≤ rr.toInt ∧ rr.toInt ≤ 524288 := by have q := Jvm.Kit.i64_shr sl ((44 : Int32).toInt64 &&& 63) (k := 44) (by decide); have q1 := sl.toInt_lt; have q2 := sl.le_toInt; rw [hrr] at q; omega
  refine OwnGo.pre (fun t k => XT.lloadN X0.here hx rfl (hb hby d2_0) rfl (XS.bipush X0.here hx rfl (hb hby d2_1) (own_lshl X0.here hx rfl (hb hby d2_3) rfl hsl (XS.bipush X0.here hx rfl (hb hby d2_4) (own_lshr X0.here hx rfl (hb hby d2_6) rfl hrr k))))) ?_
  show OwnGo _ _ _ _ (s₁.setTop (mkF m 7 #[sJ y, uS] [(.long rr)]))
  exact own_retJ X0 hx hk hrt (hb hby d2_7) ⟨_, rfl, bb, N0, e0⟩ (by decide) (by decide)
theorem d3_0 : decode prog_169_method_2_code 0 = .ok (.iconst 0, 1) := by decide +kernel
theorem d3_1 : decode prog_169_method_2_code 1 = .ok (.istore 7, 2) := by decide +kernel
theorem d3_3 : decode prog_169_method_2_code 3 = .ok (.iload 7, 2) := by decide +kernel
theorem d3_5 : decode prog_169_method_2_code 5 = .ok (.iload 6, 2) := by decide +kernel
theorem d3_7 : decode prog_169_method_2_code 7 = .ok (.if_icmp .ge 107, 3) := by decide +kernel
theorem d3_10 : decode prog_169_method_2_code 10 = .ok (.aload_n 0, 1) := by decide +kernel
theorem d3_11 : decode prog_169_method_2_code 11 = .ok (.iload 7, 2) := by decide +kernel
theorem d3_13 : decode prog_169_method_2_code 13 = .ok (.daload, 1) := by decide +kernel
theorem d3_14 : decode prog_169_method_2_code 14 = .ok (.dstore 8, 2) := by decide +kernel
theorem d3_16 : decode prog_169_method_2_code 16 = .ok (.aload_n 1, 1) := by decide +kernel
theorem d3_17 : decode prog_169_method_2_code 17 = .ok (.iload 7, 2) := by decide +kernel
theorem d3_19 : decode prog_169_method_2_code 19 = .ok (.daload, 1) := by decide +kernel
theorem d3_20 : decode prog_169_method_2_code 20 = .ok (.dstore 10, 2) := by decide +kernel
theorem d3_22 : decode prog_169_method_2_code 22 = .ok (.aload_n 2, 1) := by decide +kernel
theorem d3_23 : decode prog_169_method_2_code 23 = .ok (.iload 7, 2) := by decide +kernel
theorem d3_25 : decode prog_169_method_2_code 25 = .ok (.daload, 1) := by decide +kernel
theorem d3_26 : decode prog_169_method_2_code 26 = .ok (.dstore 12, 2) := by decide +kernel
theorem d3_28 : decode prog_169_method_2_code 28 = .ok (.aload_n 3, 1) := by decide +kernel
theorem d3_29 : decode prog_169_method_2_code 29 = .ok (.iload 7, 2) := by decide +kernel
theorem d3_31 : decode prog_169_method_2_code 31 = .ok (.daload, 1) := by decide +kernel
theorem d3_32 : decode prog_169_method_2_code 32 = .ok (.dstore 14, 2) := by decide +kernel
theorem d3_34 : decode prog_169_method_2_code 34 = .ok (.aload_n 0, 1) := by decide +kernel
theorem d3_35 : decode prog_169_method_2_code 35 = .ok (.iload 7, 2) := by decide +kernel
theorem d3_37 : decode prog_169_method_2_code 37 = .ok (.dload 8, 2) := by decide +kernel
theorem d3_39 : decode prog_169_method_2_code 39 = .ok (.dload 12, 2) := by decide +kernel
theorem d3_41 : decode prog_169_method_2_code 41 = .ok (.dadd, 1) := by decide +kernel
theorem d3_42 : decode prog_169_method_2_code 42 = .ok (.dastore, 1) := by decide +kernel
theorem d3_43 : decode prog_169_method_2_code 43 = .ok (.aload_n 1, 1) := by decide +kernel
theorem d3_44 : decode prog_169_method_2_code 44 = .ok (.iload 7, 2) := by decide +kernel
theorem d3_46 : decode prog_169_method_2_code 46 = .ok (.dload 10, 2) := by decide +kernel
theorem d3_48 : decode prog_169_method_2_code 48 = .ok (.dload 14, 2) := by decide +kernel
theorem d3_50 : decode prog_169_method_2_code 50 = .ok (.dadd, 1) := by decide +kernel
theorem d3_51 : decode prog_169_method_2_code 51 = .ok (.dastore, 1) := by decide +kernel
theorem d3_52 : decode prog_169_method_2_code 52 = .ok (.dload 8, 2) := by decide +kernel
theorem d3_54 : decode prog_169_method_2_code 54 = .ok (.dload 12, 2) := by decide +kernel
theorem d3_56 : decode prog_169_method_2_code 56 = .ok (.dsub, 1) := by decide +kernel
theorem d3_57 : decode prog_169_method_2_code 57 = .ok (.dstore 16, 2) := by decide +kernel
theorem d3_59 : decode prog_169_method_2_code 59 = .ok (.dload 10, 2) := by decide +kernel
theorem d3_61 : decode prog_169_method_2_code 61 = .ok (.dload 14, 2) := by decide +kernel
theorem d3_63 : decode prog_169_method_2_code 63 = .ok (.dsub, 1) := by decide +kernel
theorem d3_64 : decode prog_169_method_2_code 64 = .ok (.dstore 18, 2) := by decide +kernel
theorem d3_66 : decode prog_169_method_2_code 66 = .ok (.aload_n 2, 1) := by decide +kernel
theorem d3_67 : decode prog_169_method_2_code 67 = .ok (.iload 7, 2) := by decide +kernel
theorem d3_69 : decode prog_169_method_2_code 69 = .ok (.dload 16, 2) := by decide +kernel
theorem d3_71 : decode prog_169_method_2_code 71 = .ok (.aload 4, 2) := by decide +kernel
theorem d3_73 : decode prog_169_method_2_code 73 = .ok (.iload 7, 2) := by decide +kernel
theorem d3_75 : decode prog_169_method_2_code 75 = .ok (.daload, 1) := by decide +kernel
theorem d3_76 : decode prog_169_method_2_code 76 = .ok (.dmul, 1) := by decide +kernel
theorem d3_77 : decode prog_169_method_2_code 77 = .ok (.dload 18, 2) := by decide +kernel
theorem d3_79 : decode prog_169_method_2_code 79 = .ok (.aload 5, 2) := by decide +kernel
theorem d3_81 : decode prog_169_method_2_code 81 = .ok (.iload 7, 2) := by decide +kernel
theorem d3_83 : decode prog_169_method_2_code 83 = .ok (.daload, 1) := by decide +kernel
theorem d3_84 : decode prog_169_method_2_code 84 = .ok (.dmul, 1) := by decide +kernel
theorem d3_85 : decode prog_169_method_2_code 85 = .ok (.dadd, 1) := by decide +kernel
theorem d3_86 : decode prog_169_method_2_code 86 = .ok (.dastore, 1) := by decide +kernel
theorem d3_87 : decode prog_169_method_2_code 87 = .ok (.aload_n 3, 1) := by decide +kernel
theorem d3_88 : decode prog_169_method_2_code 88 = .ok (.iload 7, 2) := by decide +kernel
theorem d3_90 : decode prog_169_method_2_code 90 = .ok (.dload 18, 2) := by decide +kernel
theorem d3_92 : decode prog_169_method_2_code 92 = .ok (.aload 4, 2) := by decide +kernel
theorem d3_94 : decode prog_169_method_2_code 94 = .ok (.iload 7, 2) := by decide +kernel
theorem d3_96 : decode prog_169_method_2_code 96 = .ok (.daload, 1) := by decide +kernel
theorem d3_97 : decode prog_169_method_2_code 97 = .ok (.dmul, 1) := by decide +kernel
theorem d3_98 : decode prog_169_method_2_code 98 = .ok (.dload 16, 2) := by decide +kernel
theorem d3_100 : decode prog_169_method_2_code 100 = .ok (.aload 5, 2) := by decide +kernel
theorem d3_102 : decode prog_169_method_2_code 102 = .ok (.iload 7, 2) := by decide +kernel
theorem d3_104 : decode prog_169_method_2_code 104 = .ok (.daload, 1) := by decide +kernel
theorem d3_105 : decode prog_169_method_2_code 105 = .ok (.dmul, 1) := by decide +kernel
theorem d3_106 : decode prog_169_method_2_code 106 = .ok (.dsub, 1) := by decide +kernel
theorem d3_107 : decode prog_169_method_2_code 107 = .ok (.dastore, 1) := by decide +kernel
theorem d3_108 : decode prog_169_method_2_code 108 = .ok (.iinc 7 1, 3) := by decide +kernel
theorem d3_111 : decode prog_169_method_2_code 111 = .ok (.goto (-108), 3) := by decide +kernel
theorem d3_114 : decode prog_169_method_2_code 114 = .ok (.return_, 1) := by decide +kernel
theorem pn_rmF0 : plainName "com/example/isochron/isochron/dsp/RowButterflies" = true := by first | (simp [plainName, overriddenIn]; done) | decide +kernel
theorem pd_rmF0 : parseMethodDescriptor "([D[D[D[D[D[DI)V" = some ⟨[(.array .double), (.array .double), (.array .double), (.array .double), (.array .double), (.array .double), .int], none⟩ := by decide +kernel
theorem ef_rmF0 (m : MethodId) (o0 o1 o2 o3 o4 o5 : Addr) (u0_0 u0_1 u1_0 u1_1 u2_0 u2_1 u3_0 u3_1 u4_0 u4_1 u5_0 u5_1 : UInt64) (i0_0 i0_1 i1_0 i1_1 i2_0 i2_1 i3_0 i3_1 i4_0 i4_1 i5_0 i5_1 : Int) : entryFrame m #[(.ref o0), (.ref o1), (.ref o2), (.ref o3), (.ref o4), (.ref o5), (.int (0 : Int32))] 20 = (mkF m 0 #[sR o0, sR o1, sR o2, sR o3, sR o4, sR o5, sI (0 : Int32), uU, uU, uU, uU, uU, uU, uU, uU, uU, uU, uU, uU, uU] []) := by first | (simp [entryFrame, mkF, argsToLocals, Value.category, maxLocals]; done) | rfl
def Q_rmF0 (Z : State) (o0 o1 o2 o3 o4 o5 : Addr) (u0_0 u0_1 u1_0 u1_1 u2_0 u2_1 u3_0 u3_1 u4_0 u4_1 u5_0 u5_1 : UInt64) (i0_0 i0_1 i1_0 i1_1 i2_0 i2_1 i3_0 i3_1 i4_0 i4_1 i5_0 i5_1 : Int) (h0 : Heap) (n0 : Nat) (v : Option Value) (h : Heap) (L : List Loc) : Prop := v = none ∧ OwnDA Z h o0 [u0_0, u0_1] ∧ OwnDA Z h o1 [u1_0, u1_1] ∧ OwnDA Z h o2 [u2_0, u2_1] ∧ OwnDA Z h o3 [u3_0, u3_1] ∧ OwnDA Z h o4 [u4_0, u4_1] ∧ OwnDA Z h o5 [u5_0, u5_1] ∧ Fr n0 L ∧ n0 ≤ h.size
set_option maxRecDepth 65536 in
set_option maxHeartbeats 40000000 in
theorem rmF0 (l : Launch) (Z : State) (a0 : Array Value) (hw : ∀ d ∈ tables_1, d.before a0 Z = true) (ws : List Jvm.Cond) (o0 o1 o2 o3 o4 o5 : Addr) (u0_0 u0_1 u1_0 u1_1 u2_0 u2_1 u3_0 u3_1 u4_0 u4_1 u5_0 u5_1 : UInt64) (i0_0 i0_1 i1_0 i1_1 i2_0 i2_1 i3_0 i3_1 i4_0 i4_1 i5_0 i5_1 : Int) (h0 : Heap) (n0 : Nat) (Z0 : n0 ≤ h0.size) (Aa0 : OwnDA Z h0 o0 [u0_0, u0_1]) (Aa1 : OwnDA Z h0 o1 [u1_0, u1_1]) (Aa2 : OwnDA Z h0 o2 [u2_0, u2_1]) (Aa3 : OwnDA Z h0 o3 [u3_0, u3_1]) (Aa4 : OwnDA Z h0 o4 [u4_0, u4_1]) (Aa5 : OwnDA Z h0 o5 [u5_0, u5_1]) (ne0_1 : o0 ≠ o1) (ne0_2 : o0 ≠ o2) (ne0_3 : o0 ≠ o3) (ne0_4 : o0 ≠ o4) (ne0_5 : o0 ≠ o5) (ne1_2 : o1 ≠ o2) (ne1_3 : o1 ≠ o3) (ne1_4 : o1 ≠ o4) (ne1_5 : o1 ≠ o5) (ne2_3 : o2 ≠ o3) (ne2_4 : o2 ≠ o4) (ne2_5 : o2 ≠ o5) (ne3_4 : o3 ≠ o4) (ne3_5 : o3 ≠ o5) (ne4_5 : o4 ≠ o5) (g0 : n0 ≤ o0) (g1 : n0 ≤ o1) (g2 : n0 ≤ o2) (g3 : n0 ≤ o3) (D0_0 : OwnDS 0 i0_0 u0_0) (B0_0 : -524288 ≤ i0_0 ∧ i0_0 ≤ 524288) (D0_1 : OwnDS 0 i0_1 u0_1) (B0_1 : -524288 ≤ i0_1 ∧ i0_1 ≤ 524288) (D1_0 : OwnDS 0 i1_0 u1_0) (B1_0 : -524288 ≤ i1_0 ∧ i1_0 ≤ 524288) (D1_1 : OwnDS 0 i1_1 u1_1) (B1_1 : -524288 ≤ i1_1 ∧ i1_1 ≤ 524288) (D2_0 : OwnDS 0 i2_0 u2_0) (B2_0 : -524288 ≤ i2_0 ∧ i2_0 ≤ 524288) (D2_1 : OwnDS 0 i2_1 u2_1) (B2_1 : -524288 ≤ i2_1 ∧ i2_1 ≤ 524288) (D3_0 : OwnDS 0 i3_0 u3_0) (B3_0 : -524288 ≤ i3_0 ∧ i3_0 ≤ 524288) (D3_1 : OwnDS 0 i3_1 u3_1) (B3_1 : -524288 ≤ i3_1 ∧ i3_1 ≤ 524288) (D4_0 : OwnDS 0 i4_0 u4_0) (B4_0 : -524288 ≤ i4_0 ∧ i4_0 ≤ 524288) (D4_1 : OwnDS 0 i4_1 u4_1) (B4_1 : -524288 ≤ i4_1 ∧ i4_1 ≤ 524288) (D5_0 : OwnDS 0 i5_0 u5_0) (B5_0 : -524288 ≤ i5_0 ∧ i5_0 ≤ 524288) (D5_1 : OwnDS 0 i5_1 u5_1) (B5_1 : -524288 ≤ i5_1 ∧ i5_1 ≤ 524288) :
    MetFree l (⟨"com/example/isochron/isochron/dsp/RowButterflies", "forward", "([D[D[D[D[D[DI)V"⟩ : MethodName) (head1 (Jvm.Cond.code (⟨"com/example/isochron/isochron/dsp/RowButterflies", "forward", "([D[D[D[D[D[DI)V"⟩ : MethodName) prog_169_method_2_code 20 none :: ws) ({ frames := 0, cells := 0, slots := 0, locals := 0 } : Room)) (fun a U => a = #[(.ref o0), (.ref o1), (.ref o2), (.ref o3), (.ref o4), (.ref o5), (.int (0 : Int32))] ∧ Z.Warmed39 U.vm ∧ U.heap = h0) (fun _ _ _ _ _ => True) (fun _ U oO U' => ∃ v L, oO = .returned v ∧ Q_rmF0 Z o0 o1 o2 o3 o4 o5 u0_0 u0_1 u1_0 u1_1 u2_0 u2_1 u3_0 u3_1 u4_0 u4_1 u5_0 u5_1 i0_0 i0_1 i1_0 i1_1 i2_0 i2_1 i3_0 i3_1 i4_0 i4_1 i5_0 i5_1 h0 n0 v U'.heap L ∧ FrameEnd U oO U' L ({ frames := 0, cells := 0, slots := 0, locals := 0 } : Room).cells ({ frames := 0, cells := 0, slots := 0, locals := 0 } : Room).slots) := by
  refine MetFree.of_bodySF (plainFor_of_name pn_rmF0) hisR ?_
  intro p e s m args below meth c s₁ Bd hml0 hP hK
  obtain ⟨rfl, hZ, hh⟩ := hP
  have hx := Bd.exec
  have hby := Bd.bytes
  have hml : c.maxLocals = 20 := hml0
  have hown : s.vm.findClass "com/example/isochron/isochron/dsp/RowButterflies" = some m.cls := findClass_of_methodNamed Bd.named
  have hnm := (name_of_methodNamed Bd.named Bd.method).1
  have hk := Bd.notSynchronized
  have hrt := Bd.returns
  have X0 : Stand p l e ({ frames := 0, cells := 0, slots := 0, locals := 0 } : Room) s m #[(.ref o0), (.ref o1), (.ref o2), (.ref o3), (.ref o4), (.ref o5), (.int (0 : Int32))] below meth c s₁ [] 0 0 := Stand.of_body Bd
  have e0 : s₁.heap = h0 := by rw [← hh, Bd.state]; rfl
  have N0 := Fr.nil n0
  show OwnGo p.tables e below (OwnEnd s (Q_rmF0 Z o0 o1 o2 o3 o4 o5 u0_0 u0_1 u1_0 u1_1 u2_0 u2_1 u3_0 u3_1 u4_0 u4_1 u5_0 u5_1 i0_0 i0_1 i1_0 i1_1 i2_0 i2_1 i3_0 i3_1 i4_0 i4_1 i5_0 i5_1 h0 n0) ({ frames := 0, cells := 0, slots := 0, locals := 0 } : Room).cells ({ frames := 0, cells := 0, slots := 0, locals := 0 } : Room).slots) _
  refine OwnGo.pre (fun t k => castTop (ef_rmF0 m o0 o1 o2 o3 o4 o5 u0_0 u0_1 u1_0 u1_1 u2_0 u2_1 u3_0 u3_1 u4_0 u4_1 u5_0 u5_1 i0_0 i0_1 i1_0 i1_1 i2_0 i2_1 i3_0 i3_1 i4_0 i4_1 i5_0 i5_1) k) ?_
  show OwnGo _ _ _ _ (s₁.setTop (mkF m 0 #[sR o0, sR o1, sR o2, sR o3, sR o4, sR o5, sI (0 : Int32), uU, uU, uU, uU, uU, uU, uU, uU, uU, uU, uU, uU, uU] []))
  refine OwnGo.pre (fun t k => XS.iconst X0.here hx rfl (hb hby d3_0) (XS.istore X0.here hx rfl (hb hby d3_1) rfl (l' := #[sR o0, sR o1, sR o2, sR o3, sR o4, sR o5, sI (0 : Int32), sI (0 : Int32), uU, uU, uU, uU, uU, uU, uU, uU, uU, uU, uU, uU]) rfl (XS.iload X0.here hx rfl (hb hby d3_3) rfl (XS.iload X0.here hx rfl (hb hby d3_5) rfl (XS.icmpYes X0.here hx rfl (pc0 := 7) (pc' := 114) rfl (hb hby d3_7) rfl (by decide) (by decide) (by decide) k))))) ?_
  show OwnGo _ _ _ _ (s₁.setTop (mkF m 114 #[sR o0, sR o1, sR o2, sR o3, sR o4, sR o5, sI (0 : Int32), sI (0 : Int32), uU, uU, uU, uU, uU, uU, uU, uU, uU, uU, uU, uU] []))
  exact own_ret0 X0 hx hk hrt (hb hby d3_114) ⟨rfl, (e0.symm ▸ Aa0), (e0.symm ▸ Aa1), (e0.symm ▸ Aa2), (e0.symm ▸ Aa3), (e0.symm ▸ Aa4), (e0.symm ▸ Aa5), N0, (e0.symm ▸ Z0)⟩ (by decide) (by decide)
theorem pn_rmF1 : plainName "com/example/isochron/isochron/dsp/RowButterflies" = true := by first | (simp [plainName, overriddenIn]; done) | decide +kernel
theorem pd_rmF1 : parseMethodDescriptor "([D[D[D[D[D[DI)V" = some ⟨[(.array .double), (.array .double), (.array .double), (.array .double), (.array .double), (.array .double), .int], none⟩ := by decide +kernel
theorem ef_rmF1 (m : MethodId) (o0 o1 o2 o3 o4 o5 : Addr) (u0_0 u0_1 u1_0 u1_1 u2_0 u2_1 u3_0 u3_1 u4_0 u4_1 u5_0 u5_1 : UInt64) (i0_0 i0_1 i1_0 i1_1 i2_0 i2_1 i3_0 i3_1 i4_0 i4_1 i5_0 i5_1 : Int) : entryFrame m #[(.ref o0), (.ref o1), (.ref o2), (.ref o3), (.ref o4), (.ref o5), (.int (1 : Int32))] 20 = (mkF m 0 #[sR o0, sR o1, sR o2, sR o3, sR o4, sR o5, sI (1 : Int32), uU, uU, uU, uU, uU, uU, uU, uU, uU, uU, uU, uU, uU] []) := by first | (simp [entryFrame, mkF, argsToLocals, Value.category, maxLocals]; done) | rfl
def Q_rmF1 (Z : State) (o0 o1 o2 o3 o4 o5 : Addr) (u0_0 u0_1 u1_0 u1_1 u2_0 u2_1 u3_0 u3_1 u4_0 u4_1 u5_0 u5_1 : UInt64) (i0_0 i0_1 i1_0 i1_1 i2_0 i2_1 i3_0 i3_1 i4_0 i4_1 i5_0 i5_1 : Int) (h0 : Heap) (n0 : Nat) (v : Option Value) (h : Heap) (L : List Loc) : Prop := ∃ r0_0 r1_0 r2_0 r3_0 : UInt64, v = none ∧ OwnDS 0 (i0_0 + i2_0) r0_0 ∧ OwnDS 0 (i1_0 + i3_0) r1_0 ∧ OwnDS 0 ((i0_0 - i2_0) * i4_0 + (i1_0 - i3_0) * i5_0) r2_0 ∧ OwnDS 0 ((i1_0 - i3_0) * i4_0 - (i0_0 - i2_0) * i5_0) r3_0 ∧ OwnDA Z h o0 [r0_0, u0_1] ∧ OwnDA Z h o1 [r1_0, u1_1] ∧ OwnDA Z h o2 [r2_0, u2_1] ∧ OwnDA Z h o3 [r3_0, u3_1] ∧ OwnDA Z h o4 [u4_0, u4_1] ∧ OwnDA Z h o5 [u5_0, u5_1] ∧ Fr n0 L ∧ n0 ≤ h.size
set_option maxRecDepth 65536 in
set_option maxHeartbeats 40000000 in
theorem rmF1 (l : Launch) (Z : State) (a0 : Array Value) (hw : ∀ d ∈ tables_1, d.before a0 Z = true) (ws : List Jvm.Cond) (o0 o1 o2 o3 o4 o5 : Addr) (u0_0 u0_1 u1_0 u1_1 u2_0 u2_1 u3_0 u3_1 u4_0 u4_1 u5_0 u5_1 : UInt64) (i0_0 i0_1 i1_0 i1_1 i2_0 i2_1 i3_0 i3_1 i4_0 i4_1 i5_0 i5_1 : Int) (h0 : Heap) (n0 : Nat) (Z0 : n0 ≤ h0.size) (Aa0 : OwnDA Z h0 o0 [u0_0, u0_1]) (Aa1 : OwnDA Z h0 o1 [u1_0, u1_1]) (Aa2 : OwnDA Z h0 o2 [u2_0, u2_1]) (Aa3 : OwnDA Z h0 o3 [u3_0, u3_1]) (Aa4 : OwnDA Z h0 o4 [u4_0, u4_1]) (Aa5 : OwnDA Z h0 o5 [u5_0, u5_1]) (ne0_1 : o0 ≠ o1) (ne0_2 : o0 ≠ o2) (ne0_3 : o0 ≠ o3) (ne0_4 : o0 ≠ o4) (ne0_5 : o0 ≠ o5) (ne1_2 : o1 ≠ o2) (ne1_3 : o1 ≠ o3) (ne1_4 : o1 ≠ o4) (ne1_5 : o1 ≠ o5) (ne2_3 : o2 ≠ o3) (ne2_4 : o2 ≠ o4) (ne2_5 : o2 ≠ o5) (ne3_4 : o3 ≠ o4) (ne3_5 : o3 ≠ o5) (ne4_5 : o4 ≠ o5) (g0 : n0 ≤ o0) (g1 : n0 ≤ o1) (g2 : n0 ≤ o2) (g3 : n0 ≤ o3) (D0_0 : OwnDS 0 i0_0 u0_0) (B0_0 : -524288 ≤ i0_0 ∧ i0_0 ≤ 524288) (D0_1 : OwnDS 0 i0_1 u0_1) (B0_1 : -524288 ≤ i0_1 ∧ i0_1 ≤ 524288) (D1_0 : OwnDS 0 i1_0 u1_0) (B1_0 : -524288 ≤ i1_0 ∧ i1_0 ≤ 524288) (D1_1 : OwnDS 0 i1_1 u1_1) (B1_1 : -524288 ≤ i1_1 ∧ i1_1 ≤ 524288) (D2_0 : OwnDS 0 i2_0 u2_0) (B2_0 : -524288 ≤ i2_0 ∧ i2_0 ≤ 524288) (D2_1 : OwnDS 0 i2_1 u2_1) (B2_1 : -524288 ≤ i2_1 ∧ i2_1 ≤ 524288) (D3_0 : OwnDS 0 i3_0 u3_0) (B3_0 : -524288 ≤ i3_0 ∧ i3_0 ≤ 524288) (D3_1 : OwnDS 0 i3_1 u3_1) (B3_1 : -524288 ≤ i3_1 ∧ i3_1 ≤ 524288) (D4_0 : OwnDS 0 i4_0 u4_0) (B4_0 : -524288 ≤ i4_0 ∧ i4_0 ≤ 524288) (D4_1 : OwnDS 0 i4_1 u4_1) (B4_1 : -524288 ≤ i4_1 ∧ i4_1 ≤ 524288) (D5_0 : OwnDS 0 i5_0 u5_0) (B5_0 : -524288 ≤ i5_0 ∧ i5_0 ≤ 524288) (D5_1 : OwnDS 0 i5_1 u5_1) (B5_1 : -524288 ≤ i5_1 ∧ i5_1 ≤ 524288) :
    MetFree l (⟨"com/example/isochron/isochron/dsp/RowButterflies", "forward", "([D[D[D[D[D[DI)V"⟩ : MethodName) (head1 (Jvm.Cond.code (⟨"com/example/isochron/isochron/dsp/RowButterflies", "forward", "([D[D[D[D[D[DI)V"⟩ : MethodName) prog_169_method_2_code 20 none :: ws) ({ frames := 0, cells := 0, slots := 0, locals := 0 } : Room)) (fun a U => a = #[(.ref o0), (.ref o1), (.ref o2), (.ref o3), (.ref o4), (.ref o5), (.int (1 : Int32))] ∧ Z.Warmed39 U.vm ∧ U.heap = h0) (fun _ _ _ _ _ => True) (fun _ U oO U' => ∃ v L, oO = .returned v ∧ Q_rmF1 Z o0 o1 o2 o3 o4 o5 u0_0 u0_1 u1_0 u1_1 u2_0 u2_1 u3_0 u3_1 u4_0 u4_1 u5_0 u5_1 i0_0 i0_1 i1_0 i1_1 i2_0 i2_1 i3_0 i3_1 i4_0 i4_1 i5_0 i5_1 h0 n0 v U'.heap L ∧ FrameEnd U oO U' L ({ frames := 0, cells := 0, slots := 0, locals := 0 } : Room).cells ({ frames := 0, cells := 0, slots := 0, locals := 0 } : Room).slots) := by
  refine MetFree.of_bodySF (plainFor_of_name pn_rmF1) hisR ?_
  intro p e s m args below meth c s₁ Bd hml0 hP hK
  obtain ⟨rfl, hZ, hh⟩ := hP
  have hx := Bd.exec
  have hby := Bd.bytes
  have hml : c.maxLocals = 20 := hml0
  have hown : s.vm.findClass "com/example/isochron/isochron/dsp/RowButterflies" = some m.cls := findClass_of_methodNamed Bd.named
  have hnm := (name_of_methodNamed Bd.named Bd.method).1
  have hk := Bd.notSynchronized
  have hrt := Bd.returns
  have X0 : Stand p l e ({ frames := 0, cells := 0, slots := 0, locals := 0 } : Room) s m #[(.ref o0), (.ref o1), (.ref o2), (.ref o3), (.ref o4), (.ref o5), (.int (1 : Int32))] below meth c s₁ [] 0 0 := Stand.of_body Bd
  have e0 : s₁.heap = h0 := by rw [← hh, Bd.state]; rfl
  have N0 := Fr.nil n0
  show OwnGo p.tables e below (OwnEnd s (Q_rmF1 Z o0 o1 o2 o3 o4 o5 u0_0 u0_1 u1_0 u1_1 u2_0 u2_1 u3_0 u3_1 u4_0 u4_1 u5_0 u5_1 i0_0 i0_1 i1_0 i1_1 i2_0 i2_1 i3_0 i3_1 i4_0 i4_1 i5_0 i5_1 h0 n0) ({ frames := 0, cells := 0, slots := 0, locals := 0 } : Room).cells ({ frames := 0, cells := 0, slots := 0, locals := 0 } : Room).slots) _
  refine OwnGo.pre (fun t k => castTop (ef_rmF1 m o0 o1 o2 o3 o4 o5 u0_0 u0_1 u1_0 u1_1 u2_0 u2_1 u3_0 u3_1 u4_0 u4_1 u5_0 u5_1 i0_0 i0_1 i1_0 i1_1 i2_0 i2_1 i3_0 i3_1 i4_0 i4_1 i5_0 i5_1) k) ?_
  show OwnGo _ _ _ _ (s₁.setTop (mkF m 0 #[sR o0, sR o1, sR o2, sR o3, sR o4, sR o5, sI (1 : Int32), uU, uU, uU, uU, uU, uU, uU, uU, uU, uU, uU, uU, uU] []))
  refine OwnGo.pre (fun t k => XS.iconst X0.here hx rfl (hb hby d3_0) (XS.istore X0.here hx rfl (hb hby d3_1) rfl (l' := #[sR o0, sR o1, sR o2, sR o3, sR o4, sR o5, sI (1 : Int32), sI (0 : Int32), uU, uU, uU, uU, uU, uU, uU, uU, uU, uU, uU, uU]) rfl (XS.iload X0.here hx rfl (hb hby d3_3) rfl (XS.iload X0.here hx rfl (hb hby d3_5) rfl (XS.icmpNo X0.here hx rfl (hb hby d3_7) rfl (by decide) (XS.aloadN X0.here hx rfl (hb hby d3_10) rfl rfl (XS.iload X0.here hx rfl (hb hby d3_11) rfl (own_daL X0 hx hZ e0 Aa0 (j := (0 : Int32)) (by decide) (i := 0) (by decide) (x := u0_0) rfl (g := (mkF m 13 #[sR o0, sR o1, sR o2, sR o3, sR o4, sR o5, sI (1 : Int32), sI (0 : Int32), uU, uU, uU, uU, uU, uU, uU, uU, uU, uU, uU, uU] [(.int (0 : Int32)), (.ref o0)])) rfl (rest := []) rfl (hb hby d3_13) k)))))))) ?_
  show OwnGo _ _ _ _ (s₁.setTop (mkF m 14 #[sR o0, sR o1, sR o2, sR o3, sR o4, sR o5, sI (1 : Int32), sI (0 : Int32), uU, uU, uU, uU, uU, uU, uU, uU, uU, uU, uU, uU] [(.double u0_0)]))
  refine OwnGo.pre (fun t k => XS.dstore X0.here hx rfl (hb hby d3_14) rfl (l' := #[sR o0, sR o1, sR o2, sR o3, sR o4, sR o5, sI (1 : Int32), sI (0 : Int32), sD u0_0, uS, uU, uU, uU, uU, uU, uU, uU, uU, uU, uU]) rfl (XS.aloadN X0.here hx rfl (hb hby d3_16) rfl rfl (XS.iload X0.here hx rfl (hb hby d3_17) rfl (own_daL X0 hx hZ e0 Aa1 (j := (0 : Int32)) (by decide) (i := 0) (by decide) (x := u1_0) rfl (g := (mkF m 19 #[sR o0, sR o1, sR o2, sR o3, sR o4, sR o5, sI (1 : Int32), sI (0 : Int32), sD u0_0, uS, uU, uU, uU, uU, uU, uU, uU, uU, uU, uU] [(.int (0 : Int32)), (.ref o1)])) rfl (rest := []) rfl (hb hby d3_19) (XS.dstore X0.here hx rfl (hb hby d3_20) rfl (l' := #[sR o0, sR o1, sR o2, sR o3, sR o4, sR o5, sI (1 : Int32), sI (0 : Int32), sD u0_0, uS, sD u1_0, uS, uU, uU, uU, uU, uU, uU, uU, uU]) rfl (XS.aloadN X0.here hx rfl (hb hby d3_22) rfl rfl (XS.iload X0.here hx rfl (hb hby d3_23) rfl (own_daL X0 hx hZ e0 Aa2 (j := (0 : Int32)) (by decide) (i := 0) (by decide) (x := u2_0) rfl (g := (mkF m 25 #[sR o0, sR o1, sR o2, sR o3, sR o4, sR o5, sI (1 : Int32), sI (0 : Int32), sD u0_0, uS, sD u1_0, uS, uU, uU, uU, uU, uU, uU, uU, uU] [(.int (0 : Int32)), (.ref o2)])) rfl (rest := []) rfl (hb hby d3_25) k)))))))) ?_
  show OwnGo _ _ _ _ (s₁.setTop (mkF m 26 #[sR o0, sR o1, sR o2, sR o3, sR o4, sR o5, sI (1 : Int32), sI (0 : Int32), sD u0_0, uS, sD u1_0, uS, uU, uU, uU, uU, uU, uU, uU, uU] [(.double u2_0)]))
  refine OwnGo.pre (fun t k => XS.dstore X0.here hx rfl (hb hby d3_26) rfl (l' := #[sR o0, sR o1, sR o2, sR o3, sR o4, sR o5, sI (1 : Int32), sI (0 : Int32), sD u0_0, uS, sD u1_0, uS, sD u2_0, uS, uU, uU, uU, uU, uU, uU]) rfl (XS.aloadN X0.here hx rfl (hb hby d3_28) rfl rfl (XS.iload X0.here hx rfl (hb hby d3_29) rfl (own_daL X0 hx hZ e0 Aa3 (j := (0 : Int32)) (by decide) (i := 0) (by decide) (x := u3_0) rfl (g := (mkF m 31 #[sR o0, sR o1, sR o2, sR o3, sR o4, sR o5, sI (1 : Int32), sI (0 : Int32), sD u0_0, uS, sD u1_0, uS, sD u2_0, uS, uU, uU, uU, uU, uU, uU] [(.int (0 : Int32)), (.ref o3)])) rfl (rest := []) rfl (hb hby d3_31) (XS.dstore X0.here hx rfl (hb hby d3_32) rfl (l' := #[sR o0, sR o1, sR o2, sR o3, sR o4, sR o5, sI (1 : Int32), sI (0 : Int32), sD u0_0, uS, sD u1_0, uS, sD u2_0, uS, sD u3_0, uS, uU, uU, uU, uU]) rfl (XS.aloadN X0.here hx rfl (hb hby d3_34) rfl rfl (XS.iload X0.here hx rfl (hb hby d3_35) rfl (XS.dload X0.here hx rfl (hb hby d3_37) rfl k)))))))) ?_
  show OwnGo _ _ _ _ (s₁.setTop (mkF m 39 #[sR o0, sR o1, sR o2, sR o3, sR o4, sR o5, sI (1 : Int32), sI (0 : Int32), sD u0_0, uS, sD u1_0, uS, sD u2_0, uS, sD u3_0, uS, uU, uU, uU, uU] [(.double u0_0), (.int (0 : Int32)), (.ref o0)]))
  have Dq1 : OwnDS 0 (i0_0 + i2_0) (FP.dadd u0_0 u2_0) := own_ds_add (n := 53) D0_0 D2_0 (own_bd_nat (C := 1048576) (own_bd_add B0_0 B2_0 (by decide)) (by decide))
  obtain ⟨d1, hd1⟩ : ∃ v, FP.dadd u0_0 u2_0 = v := ⟨_, rfl⟩
  obtain ⟨j1, hj1⟩ : ∃ i : Int, i = i0_0 + i2_0 := ⟨_, rfl⟩
  have B1 : -1048576 ≤ j1 ∧ j1 ≤ 1048576 := by rw [hj1]; exact own_bd_add B0_0 B2_0 (by decide)
  have D1 : OwnDS 0 j1 d1 := by rw [hj1, ← hd1]; exact Dq1
  refine OwnGo.pre (fun t k => XS.dload X0.here hx rfl (hb hby d3_39) rfl (XS.daddS X0.here hx rfl (hb hby d3_41) rfl (own_nn Dq1) hd1 k)) ?_
  show OwnGo _ _ _ _ (s₁.setTop (mkF m 42 #[sR o0, sR o1, sR o2, sR o3, sR o4, sR o5, sI (1 : Int32), sI (0 : Int32), sD u0_0, uS, sD u1_0, uS, sD u2_0, uS, sD u3_0, uS, uU, uU, uU, uU] [(.double d1), (.int (0 : Int32)), (.ref o0)]))
  obtain ⟨T2, h2, X2, e2, W2, A2, st2⟩ := own_daS X0 hx hZ e0 Aa0 (by decide) (i := 0) (by decide) (by show 0 < 2; decide) (g := (mkF m 42 #[sR o0, sR o1, sR o2, sR o3, sR o4, sR o5, sI (1 : Int32), sI (0 : Int32), sD u0_0, uS, sD u1_0, uS, sD u2_0, uS, sD u3_0, uS, uU, uU, uU, uU] [(.double d1), (.int (0 : Int32)), (.ref o0)])) rfl rfl (hb hby d3_42)
  have A2n : OwnDA Z h2 o0 [d1, u0_1] := A2
  have A2_o1 := Aa1.ot W2 ne0_1.symm
  have A2_o2 := Aa2.ot W2 ne0_2.symm
  have A2_o3 := Aa3.ot W2 ne0_3.symm
  have A2_o4 := Aa4.ot W2 ne0_4.symm
  have A2_o5 := Aa5.ot W2 ne0_5.symm
  have N2 := Fr.snoc X2 N0 g0
  have Z2 : n0 ≤ h2.size := by rw [W2.size]; exact Z0
  refine OwnGo.pre (fun t k => st2 t k) ?_
  show OwnGo _ _ _ _ (T2.setTop (mkF m 43 #[sR o0, sR o1, sR o2, sR o3, sR o4, sR o5, sI (1 : Int32), sI (0 : Int32), sD u0_0, uS, sD u1_0, uS, sD u2_0, uS, sD u3_0, uS, uU, uU, uU, uU] []))
  have Dq3 : OwnDS 0 (i1_0 + i3_0) (FP.dadd u1_0 u3_0) := own_ds_add (n := 53) D1_0 D3_0 (own_bd_nat (C := 1048576) (own_bd_add B1_0 B3_0 (by decide)) (by decide))
  obtain ⟨d3, hd3⟩ : ∃ v, FP.dadd u1_0 u3_0 = v := ⟨_, rfl⟩
  obtain ⟨j3, hj3⟩ : ∃ i : Int, i = i1_0 + i3_0 := ⟨_, rfl⟩
  have B3 : -1048576 ≤ j3 ∧ j3 ≤ 1048576 := by rw [hj3]; exact own_bd_add B1_0 B3_0 (by decide)
  have D3 : OwnDS 0 j3 d3 := by rw [hj3, ← hd3]; exact Dq3
  refine OwnGo.pre (fun t k => XS.aloadN X2.here hx rfl (hb hby d3_43) rfl rfl (XS.iload X2.here hx rfl (hb hby d3_44) rfl (XS.dload X2.here hx rfl (hb hby d3_46) rfl (XS.dload X2.here hx rfl (hb hby d3_48) rfl (XS.daddS X2.here hx rfl (hb hby d3_50) rfl (own_nn Dq3) hd3 k))))) ?_
  show OwnGo _ _ _ _ (T2.setTop (mkF m 51 #[sR o0, sR o1, sR o2, sR o3, sR o4, sR o5, sI (1 : Int32), sI (0 : Int32), sD u0_0, uS, sD u1_0, uS, sD u2_0, uS, sD u3_0, uS, uU, uU, uU, uU] [(.double d3), (.int (0 : Int32)), (.ref o1)]))
  obtain ⟨T4, h4, X4, e4, W4, A4, st4⟩ := own_daS X2 hx hZ e2 A2_o1 (by decide) (i := 0) (by decide) (by show 0 < 2; decide) (g := (mkF m 51 #[sR o0, sR o1, sR o2, sR o3, sR o4, sR o5, sI (1 : Int32), sI (0 : Int32), sD u0_0, uS, sD u1_0, uS, sD u2_0, uS, sD u3_0, uS, uU, uU, uU, uU] [(.double d3), (.int (0 : Int32)), (.ref o1)])) rfl rfl (hb hby d3_51)
  have A4n : OwnDA Z h4 o1 [d3, u1_1] := A4
  have A4_o0 := A2n.ot W4 ne0_1
  have A4_o2 := A2_o2.ot W4 ne1_2.symm
  have A4_o3 := A2_o3.ot W4 ne1_3.symm
  have A4_o4 := A2_o4.ot W4 ne1_4.symm
  have A4_o5 := A2_o5.ot W4 ne1_5.symm
  have N4 := Fr.snoc X4 N2 g1
  have Z4 : n0 ≤ h4.size := by rw [W4.size]; exact Z2
  refine OwnGo.pre (fun t k => st4 t k) ?_
  show OwnGo _ _ _ _ (T4.setTop (mkF m 52 #[sR o0, sR o1, sR o2, sR o3, sR o4, sR o5, sI (1 : Int32), sI (0 : Int32), sD u0_0, uS, sD u1_0, uS, sD u2_0, uS, sD u3_0, uS, uU, uU, uU, uU] []))
  have Dq5 : OwnDS 0 (i0_0 - i2_0) (FP.dsub u0_0 u2_0) := own_ds_sub (n := 53) D0_0 D2_0 (own_bd_nat (C := 1048576) (own_bd_sub B0_0 B2_0 (by decide)) (by decide))
  obtain ⟨d5, hd5⟩ : ∃ v, FP.dsub u0_0 u2_0 = v := ⟨_, rfl⟩
  obtain ⟨j5, hj5⟩ : ∃ i : Int, i = i0_0 - i2_0 := ⟨_, rfl⟩
  have B5 : -1048576 ≤ j5 ∧ j5 ≤ 1048576 := by rw [hj5]; exact own_bd_sub B0_0 B2_0 (by decide)
  have D5 : OwnDS 0 j5 d5 := by rw [hj5, ← hd5]; exact Dq5
  have Dq6 : OwnDS 0 (i1_0 - i3_0) (FP.dsub u1_0 u3_0) := own_ds_sub (n := 53) D1_0 D3_0 (own_bd_nat (C := 1048576) (own_bd_sub B1_0 B3_0 (by decide)) (by decide))
  obtain ⟨d6, hd6⟩ : ∃ v, FP.dsub u1_0 u3_0 = v := ⟨_, rfl⟩
  obtain ⟨j6, hj6⟩ : ∃ i : Int, i = i1_0 - i3_0 := ⟨_, rfl⟩
  have B6 : -1048576 ≤ j6 ∧ j6 ≤ 1048576 := by rw [hj6]; exact own_bd_sub B1_0 B3_0 (by decide)
  have D6 : OwnDS 0 j6 d6 := by rw [hj6, ← hd6]; exact Dq6
  refine OwnGo.pre (fun t k => XS.dload X4.here hx rfl (hb hby d3_52) rfl (XS.dload X4.here hx rfl (hb hby d3_54) rfl (XS.dsubS X4.here hx rfl (hb hby d3_56) rfl (own_nn Dq5) hd5 (XS.dstore X4.here hx rfl (hb hby d3_57) rfl (l' := #[sR o0, sR o1, sR o2, sR o3, sR o4, sR o5, sI (1 : Int32), sI (0 : Int32), sD u0_0, uS, sD u1_0, uS, sD u2_0, uS, sD u3_0, uS, sD d5, uS, uU, uU]) rfl (XS.dload X4.here hx rfl (hb hby d3_59) rfl (XS.dload X4.here hx rfl (hb hby d3_61) rfl (XS.dsubS X4.here hx rfl (hb hby d3_63) rfl (own_nn Dq6) hd6 (XS.dstore X4.here hx rfl (hb hby d3_64) rfl (l' := #[sR o0, sR o1, sR o2, sR o3, sR o4, sR o5, sI (1 : Int32), sI (0 : Int32), sD u0_0, uS, sD u1_0, uS, sD u2_0, uS, sD u3_0, uS, sD d5, uS, sD d6, uS]) rfl k)))))))) ?_
  show OwnGo _ _ _ _ (T4.setTop (mkF m 66 #[sR o0, sR o1, sR o2, sR o3, sR o4, sR o5, sI (1 : Int32), sI (0 : Int32), sD u0_0, uS, sD u1_0, uS, sD u2_0, uS, sD u3_0, uS, sD d5, uS, sD d6, uS] []))
  obtain ⟨j7, hj7⟩ : ∃ i : Int, i = j5 * i4_0 := ⟨_, rfl⟩
  have B7 : -549755813888 ≤ j7 ∧ j7 ≤ 549755813888 := by rw [hj7]; exact own_bd_mul B5 B4_0 (by decide)
  have Dq7 : OwnDS 0 j7 (FP.dmul d5 u4_0) := by rw [hj7]; have q := own_ds_mul (n := 53) D5 D4_0 (own_bd_nat (C := 549755813888) (own_bd_mul B5 B4_0 (by decide)) (by decide)); exact q
  obtain ⟨d7, hd7⟩ : ∃ v, FP.dmul d5 u4_0 = v := ⟨_, rfl⟩
  have D7 : OwnDS 0 j7 d7 := by rw [← hd7]; exact Dq7
  refine OwnGo.pre (fun t k => XS.aloadN X4.here hx rfl (hb hby d3_66) rfl rfl (XS.iload X4.here hx rfl (hb hby d3_67) rfl (XS.dload X4.here hx rfl (hb hby d3_69) rfl (XS.aload X4.here hx rfl (hb hby d3_71) rfl rfl (XS.iload X4.here hx rfl (hb hby d3_73) rfl (own_daL X4 hx hZ e4 A4_o4 (j := (0 : Int32)) (by decide) (i := 0) (by decide) (x := u4_0) rfl (g := (mkF m 75 #[sR o0, sR o1, sR o2, sR o3, sR o4, sR o5, sI (1 : Int32), sI (0 : Int32), sD u0_0, uS, sD u1_0, uS, sD u2_0, uS, sD u3_0, uS, sD d5, uS, sD d6, uS] [(.int (0 : Int32)), (.ref o4), (.double d5), (.int (0 : Int32)), (.ref o2)])) rfl (rest := [(.double d5), (.int (0 : Int32)), (.ref o2)]) rfl (hb hby d3_75) (XS.dmulS X4.here hx rfl (hb hby d3_76) rfl (own_nn Dq7) hd7 (XS.dload X4.here hx rfl (hb hby d3_77) rfl k)))))))) ?_
  show OwnGo _ _ _ _ (T4.setTop (mkF m 79 #[sR o0, sR o1, sR o2, sR o3, sR o4, sR o5, sI (1 : Int32), sI (0 : Int32), sD u0_0, uS, sD u1_0, uS, sD u2_0, uS, sD u3_0, uS, sD d5, uS, sD d6, uS] [(.double d6), (.double d7), (.int (0 : Int32)), (.ref o2)]))
  obtain ⟨j8, hj8⟩ : ∃ i : Int, i = j6 * i5_0 := ⟨_, rfl⟩
  have B8 : -549755813888 ≤ j8 ∧ j8 ≤ 549755813888 := by rw [hj8]; exact own_bd_mul B6 B5_0 (by decide)
  have Dq8 : OwnDS 0 j8 (FP.dmul d6 u5_0) := by rw [hj8]; have q := own_ds_mul (n := 53) D6 D5_0 (own_bd_nat (C := 549755813888) (own_bd_mul B6 B5_0 (by decide)) (by decide)); exact q
  obtain ⟨d8, hd8⟩ : ∃ v, FP.dmul d6 u5_0 = v := ⟨_, rfl⟩
  have D8 : OwnDS 0 j8 d8 := by rw [← hd8]; exact Dq8
  have Dq9 : OwnDS 0 (j7 + j8) (FP.dadd d7 d8) := own_ds_add (n := 53) D7 D8 (own_bd_nat (C := 1099511627776) (own_bd_add B7 B8 (by decide)) (by decide))
  obtain ⟨d9, hd9⟩ : ∃ v, FP.dadd d7 d8 = v := ⟨_, rfl⟩
  obtain ⟨j9, hj9⟩ : ∃ i : Int, i = j7 + j8 := ⟨_, rfl⟩
  have B9 : -1099511627776 ≤ j9 ∧ j9 ≤ 1099511627776 := by rw [hj9]; exact own_bd_add B7 B8 (by decide)
  have D9 : OwnDS 0 j9 d9 := by rw [hj9, ← hd9]; exact Dq9
  refine OwnGo.pre (fun t k => XS.aload X4.here hx rfl (hb hby d3_79) rfl rfl (XS.iload X4.here hx rfl (hb hby d3_81) rfl (own_daL X4 hx hZ e4 A4_o5 (j := (0 : Int32)) (by decide) (i := 0) (by decide) (x := u5_0) rfl (g := (mkF m 83 #[sR o0, sR o1, sR o2, sR o3, sR o4, sR o5, sI (1 : Int32), sI (0 : Int32), sD u0_0, uS, sD u1_0, uS, sD u2_0, uS, sD u3_0, uS, sD d5, uS, sD d6, uS] [(.int (0 : Int32)), (.ref o5), (.double d6), (.double d7), (.int (0 : Int32)), (.ref o2)])) rfl (rest := [(.double d6), (.double d7), (.int (0 : Int32)), (.ref o2)]) rfl (hb hby d3_83) (XS.dmulS X4.here hx rfl (hb hby d3_84) rfl (own_nn Dq8) hd8 (XS.daddS X4.here hx rfl (hb hby d3_85) rfl (own_nn Dq9) hd9 k))))) ?_
  show OwnGo _ _ _ _ (T4.setTop (mkF m 86 #[sR o0, sR o1, sR o2, sR o3, sR o4, sR o5, sI (1 : Int32), sI (0 : Int32), sD u0_0, uS, sD u1_0, uS, sD u2_0, uS, sD u3_0, uS, sD d5, uS, sD d6, uS] [(.double d9), (.int (0 : Int32)), (.ref o2)]))
  obtain ⟨T10, h10, X10, e10, W10, A10, st10⟩ := own_daS X4 hx hZ e4 A4_o2 (by decide) (i := 0) (by decide) (by show 0 < 2; decide) (g := (mkF m 86 #[sR o0, sR o1, sR o2, sR o3, sR o4, sR o5, sI (1 : Int32), sI (0 : Int32), sD u0_0, uS, sD u1_0, uS, sD u2_0, uS, sD u3_0, uS, sD d5, uS, sD d6, uS] [(.double d9), (.int (0 : Int32)), (.ref o2)])) rfl rfl (hb hby d3_86)
  have A10n : OwnDA Z h10 o2 [d9, u2_1] := A10
  have A10_o0 := A4_o0.ot W10 ne0_2
  have A10_o1 := A4n.ot W10 ne1_2
  have A10_o3 := A4_o3.ot W10 ne2_3.symm
  have A10_o4 := A4_o4.ot W10 ne2_4.symm
  have A10_o5 := A4_o5.ot W10 ne2_5.symm
  have N10 := Fr.snoc X10 N4 g2
  have Z10 : n0 ≤ h10.size := by rw [W10.size]; exact Z4
  refine OwnGo.pre (fun t k => st10 t k) ?_
  show OwnGo _ _ _ _ (T10.setTop (mkF m 87 #[sR o0, sR o1, sR o2, sR o3, sR o4, sR o5, sI (1 : Int32), sI (0 : Int32), sD u0_0, uS, sD u1_0, uS, sD u2_0, uS, sD u3_0, uS, sD d5, uS, sD d6, uS] []))
  obtain ⟨j11, hj11⟩ : ∃ i : Int, i = j6 * i4_0 := ⟨_, rfl⟩
  have B11 : -549755813888 ≤ j11 ∧ j11 ≤ 549755813888 := by rw [hj11]; exact own_bd_mul B6 B4_0 (by decide)
  have Dq11 : OwnDS 0 j11 (FP.dmul d6 u4_0) := by rw [hj11]; have q := own_ds_mul (n := 53) D6 D4_0 (own_bd_nat (C := 549755813888) (own_bd_mul B6 B4_0 (by decide)) (by decide)); exact q
  obtain ⟨d11, hd11⟩ : ∃ v, FP.dmul d6 u4_0 = v := ⟨_, rfl⟩
  have D11 : OwnDS 0 j11 d11 := by rw [← hd11]; exact Dq11
  refine OwnGo.pre (fun t k => XS.aloadN X10.here hx rfl (hb hby d3_87) rfl rfl (XS.iload X10.here hx rfl (hb hby d3_88) rfl (XS.dload X10.here hx rfl (hb hby d3_90) rfl (XS.aload X10.here hx rfl (hb hby d3_92) rfl rfl (XS.iload X10.here hx rfl (hb hby d3_94) rfl (own_daL X10 hx hZ e10 A10_o4 (j := (0 : Int32)) (by decide) (i := 0) (by decide) (x := u4_0) rfl (g := (mkF m 96 #[sR o0, sR o1, sR o2, sR o3, sR o4, sR o5, sI (1 : Int32), sI (0 : Int32), sD u0_0, uS, sD u1_0, uS, sD u2_0, uS, sD u3_0, uS, sD d5, uS, sD d6, uS] [(.int (0 : Int32)), (.ref o4), (.double d6), (.int (0 : Int32)), (.ref o3)])) rfl (rest := [(.double d6), (.int (0 : Int32)), (.ref o3)]) rfl (hb hby d3_96) (XS.dmulS X10.here hx rfl (hb hby d3_97) rfl (own_nn Dq11) hd11 (XS.dload X10.here hx rfl (hb hby d3_98) rfl k)))))))) ?_
  show OwnGo _ _ _ _ (T10.setTop (mkF m 100 #[sR o0, sR o1, sR o2, sR o3, sR o4, sR o5, sI (1 : Int32), sI (0 : Int32), sD u0_0, uS, sD u1_0, uS, sD u2_0, uS, sD u3_0, uS, sD d5, uS, sD d6, uS] [(.double d5), (.double d11), (.int (0 : Int32)), (.ref o3)]))
  obtain ⟨j12, hj12⟩ : ∃ i : Int, i = j5 * i5_0 := ⟨_, rfl⟩
  have B12 : -549755813888 ≤ j12 ∧ j12 ≤ 549755813888 := by rw [hj12]; exact own_bd_mul B5 B5_0 (by decide)
  have Dq12 : OwnDS 0 j12 (FP.dmul d5 u5_0) := by rw [hj12]; have q := own_ds_mul (n := 53) D5 D5_0 (own_bd_nat (C := 549755813888) (own_bd_mul B5 B5_0 (by decide)) (by decide)); exact q
  obtain ⟨d12, hd12⟩ : ∃ v, FP.dmul d5 u5_0 = v := ⟨_, rfl⟩
  have D12 : OwnDS 0 j12 d12 := by rw [← hd12]; exact Dq12
  have Dq13 : OwnDS 0 (j11 - j12) (FP.dsub d11 d12) := own_ds_sub (n := 53) D11 D12 (own_bd_nat (C := 1099511627776) (own_bd_sub B11 B12 (by decide)) (by decide))
  obtain ⟨d13, hd13⟩ : ∃ v, FP.dsub d11 d12 = v := ⟨_, rfl⟩
  obtain ⟨j13, hj13⟩ : ∃ i : Int, i = j11 - j12 := ⟨_, rfl⟩
  have B13 : -1099511627776 ≤ j13 ∧ j13 ≤ 1099511627776 := by rw [hj13]; exact own_bd_sub B11 B12 (by decide)
  have D13 : OwnDS 0 j13 d13 := by rw [hj13, ← hd13]; exact Dq13
  refine OwnGo.pre (fun t k => XS.aload X10.here hx rfl (hb hby d3_100) rfl rfl (XS.iload X10.here hx rfl (hb hby d3_102) rfl (own_daL X10 hx hZ e10 A10_o5 (j := (0 : Int32)) (by decide) (i := 0) (by decide) (x := u5_0) rfl (g := (mkF m 104 #[sR o0, sR o1, sR o2, sR o3, sR o4, sR o5, sI (1 : Int32), sI (0 : Int32), sD u0_0, uS, sD u1_0, uS, sD u2_0, uS, sD u3_0, uS, sD d5, uS, sD d6, uS] [(.int (0 : Int32)), (.ref o5), (.double d5), (.double d11), (.int (0 : Int32)), (.ref o3)])) rfl (rest := [(.double d5), (.double d11), (.int (0 : Int32)), (.ref o3)]) rfl (hb hby d3_104) (XS.dmulS X10.here hx rfl (hb hby d3_105) rfl (own_nn Dq12) hd12 (XS.dsubS X10.here hx rfl (hb hby d3_106) rfl (own_nn Dq13) hd13 k))))) ?_
  show OwnGo _ _ _ _ (T10.setTop (mkF m 107 #[sR o0, sR o1, sR o2, sR o3, sR o4, sR o5, sI (1 : Int32), sI (0 : Int32), sD u0_0, uS, sD u1_0, uS, sD u2_0, uS, sD u3_0, uS, sD d5, uS, sD d6, uS] [(.double d13), (.int (0 : Int32)), (.ref o3)]))
  obtain ⟨T14, h14, X14, e14, W14, A14, st14⟩ := own_daS X10 hx hZ e10 A10_o3 (by decide) (i := 0) (by decide) (by show 0 < 2; decide) (g := (mkF m 107 #[sR o0, sR o1, sR o2, sR o3, sR o4, sR o5, sI (1 : Int32), sI (0 : Int32), sD u0_0, uS, sD u1_0, uS, sD u2_0, uS, sD u3_0, uS, sD d5, uS, sD d6, uS] [(.double d13), (.int (0 : Int32)), (.ref o3)])) rfl rfl (hb hby d3_107)
  have A14n : OwnDA Z h14 o3 [d13, u3_1] := A14
  have A14_o0 := A10_o0.ot W14 ne0_3
  have A14_o1 := A10_o1.ot W14 ne1_3
  have A14_o2 := A10n.ot W14 ne2_3
  have A14_o4 := A10_o4.ot W14 ne3_4.symm
  have A14_o5 := A10_o5.ot W14 ne3_5.symm
  have N14 := Fr.snoc X14 N10 g3
  have Z14 : n0 ≤ h14.size := by rw [W14.size]; exact Z10
  refine OwnGo.pre (fun t k => st14 t k) ?_
  show OwnGo _ _ _ _ (T14.setTop (mkF m 108 #[sR o0, sR o1, sR o2, sR o3, sR o4, sR o5, sI (1 : Int32), sI (0 : Int32), sD u0_0, uS, sD u1_0, uS, sD u2_0, uS, sD u3_0, uS, sD d5, uS, sD d6, uS] []))
  rw [← e14] at A14_o0 A14_o1 A14_o2 A14n A14_o4 A14_o5 Z14
  refine OwnGo.pre (fun t k => XS.iinc X14.here hx rfl (hb hby d3_108) rfl (l' := #[sR o0, sR o1, sR o2, sR o3, sR o4, sR o5, sI (1 : Int32), sI (1 : Int32), sD u0_0, uS, sD u1_0, uS, sD u2_0, uS, sD u3_0, uS, sD d5, uS, sD d6, uS]) rfl (XS.goto X14.here hx rfl (pc0 := 111) (pc' := 3) rfl (hb hby d3_111) (by decide) (by decide) (XS.iload X14.here hx rfl (hb hby d3_3) rfl (XS.iload X14.here hx rfl (hb hby d3_5) rfl (XS.icmpYes X14.here hx rfl (pc0 := 7) (pc' := 114) rfl (hb hby d3_7) rfl (by decide) (by decide) (by decide) k))))) ?_
  show OwnGo _ _ _ _ (T14.setTop (mkF m 114 #[sR o0, sR o1, sR o2, sR o3, sR o4, sR o5, sI (1 : Int32), sI (1 : Int32), sD u0_0, uS, sD u1_0, uS, sD u2_0, uS, sD u3_0, uS, sD d5, uS, sD d6, uS] []))
  exact own_ret0 X14 hx hk hrt (hb hby d3_114) ⟨_, _, _, _, rfl, ((by simp only [hj1] : j1 = i0_0 + i2_0) ▸ D1), ((by simp only [hj3] : j3 = i1_0 + i3_0) ▸ D3), ((by simp only [hj9, hj7, hj5, hj8, hj6] : j9 = (i0_0 - i2_0) * i4_0 + (i1_0 - i3_0) * i5_0) ▸ D9), ((by simp only [hj13, hj11, hj6, hj12, hj5] : j13 = (i1_0 - i3_0) * i4_0 - (i0_0 - i2_0) * i5_0) ▸ D13), A14_o0, A14_o1, A14_o2, A14n, A14_o4, A14_o5, N14, Z14⟩ (by decide) (by decide)
theorem pn_rmF2 : plainName "com/example/isochron/isochron/dsp/RowButterflies" = true := by first | (simp [plainName, overriddenIn]; done) | decide +kernel
theorem pd_rmF2 : parseMethodDescriptor "([D[D[D[D[D[DI)V" = some ⟨[(.array .double), (.array .double), (.array .double), (.array .double), (.array .double), (.array .double), .int], none⟩ := by decide +kernel
theorem ef_rmF2 (m : MethodId) (o0 o1 o2 o3 o4 o5 : Addr) (u0_0 u0_1 u1_0 u1_1 u2_0 u2_1 u3_0 u3_1 u4_0 u4_1 u5_0 u5_1 : UInt64) (i0_0 i0_1 i1_0 i1_1 i2_0 i2_1 i3_0 i3_1 i4_0 i4_1 i5_0 i5_1 : Int) : entryFrame m #[(.ref o0), (.ref o1), (.ref o2), (.ref o3), (.ref o4), (.ref o5), (.int (2 : Int32))] 20 = (mkF m 0 #[sR o0, sR o1, sR o2, sR o3, sR o4, sR o5, sI (2 : Int32), uU, uU, uU, uU, uU, uU, uU, uU, uU, uU, uU, uU, uU] []) := by first | (simp [entryFrame, mkF, argsToLocals, Value.category, maxLocals]; done) | rfl
def Q_rmF2 (Z : State) (o0 o1 o2 o3 o4 o5 : Addr) (u0_0 u0_1 u1_0 u1_1 u2_0 u2_1 u3_0 u3_1 u4_0 u4_1 u5_0 u5_1 : UInt64) (i0_0 i0_1 i1_0 i1_1 i2_0 i2_1 i3_0 i3_1 i4_0 i4_1 i5_0 i5_1 : Int) (h0 : Heap) (n0 : Nat) (v : Option Value) (h : Heap) (L : List Loc) : Prop := ∃ r0_0 r1_0 r2_0 r3_0 r0_1 r1_1 r2_1 r3_1 : UInt64, v = none ∧ OwnDS 0 (i0_0 + i2_0) r0_0 ∧ OwnDS 0 (i1_0 + i3_0) r1_0 ∧ OwnDS 0 ((i0_0 - i2_0) * i4_0 + (i1_0 - i3_0) * i5_0) r2_0 ∧ OwnDS 0 ((i1_0 - i3_0) * i4_0 - (i0_0 - i2_0) * i5_0) r3_0 ∧ OwnDS 0 (i0_1 + i2_1) r0_1 ∧ OwnDS 0 (i1_1 + i3_1) r1_1 ∧ OwnDS 0 ((i0_1 - i2_1) * i4_1 + (i1_1 - i3_1) * i5_1) r2_1 ∧ OwnDS 0 ((i1_1 - i3_1) * i4_1 - (i0_1 - i2_1) * i5_1) r3_1 ∧ OwnDA Z h o0 [r0_0, r0_1] ∧ OwnDA Z h o1 [r1_0, r1_1] ∧ OwnDA Z h o2 [r2_0, r2_1] ∧ OwnDA Z h o3 [r3_0, r3_1] ∧ OwnDA Z h o4 [u4_0, u4_1] ∧ OwnDA Z h o5 [u5_0, u5_1] ∧ Fr n0 L ∧ n0 ≤ h.size
set_option maxRecDepth 65536 in
set_option maxHeartbeats 40000000 in
theorem rmF2 (l : Launch) (Z : State) (a0 : Array Value) (hw : ∀ d ∈ tables_1, d.before a0 Z = true) (ws : List Jvm.Cond) (o0 o1 o2 o3 o4 o5 : Addr) (u0_0 u0_1 u1_0 u1_1 u2_0 u2_1 u3_0 u3_1 u4_0 u4_1 u5_0 u5_1 : UInt64) (i0_0 i0_1 i1_0 i1_1 i2_0 i2_1 i3_0 i3_1 i4_0 i4_1 i5_0 i5_1 : Int) (h0 : Heap) (n0 : Nat) (Z0 : n0 ≤ h0.size) (Aa0 : OwnDA Z h0 o0 [u0_0, u0_1]) (Aa1 : OwnDA Z h0 o1 [u1_0, u1_1]) (Aa2 : OwnDA Z h0 o2 [u2_0, u2_1]) (Aa3 : OwnDA Z h0 o3 [u3_0, u3_1]) (Aa4 : OwnDA Z h0 o4 [u4_0, u4_1]) (Aa5 : OwnDA Z h0 o5 [u5_0, u5_1]) (ne0_1 : o0 ≠ o1) (ne0_2 : o0 ≠ o2) (ne0_3 : o0 ≠ o3) (ne0_4 : o0 ≠ o4) (ne0_5 : o0 ≠ o5) (ne1_2 : o1 ≠ o2) (ne1_3 : o1 ≠ o3) (ne1_4 : o1 ≠ o4) (ne1_5 : o1 ≠ o5) (ne2_3 : o2 ≠ o3) (ne2_4 : o2 ≠ o4) (ne2_5 : o2 ≠ o5) (ne3_4 : o3 ≠ o4) (ne3_5 : o3 ≠ o5) (ne4_5 : o4 ≠ o5) (g0 : n0 ≤ o0) (g1 : n0 ≤ o1) (g2 : n0 ≤ o2) (g3 : n0 ≤ o3) (D0_0 : OwnDS 0 i0_0 u0_0) (B0_0 : -524288 ≤ i0_0 ∧ i0_0 ≤ 524288) (D0_1 : OwnDS 0 i0_1 u0_1) (B0_1 : -524288 ≤ i0_1 ∧ i0_1 ≤ 524288) (D1_0 : OwnDS 0 i1_0 u1_0) (B1_0 : -524288 ≤ i1_0 ∧ i1_0 ≤ 524288) (D1_1 : OwnDS 0 i1_1 u1_1) (B1_1 : -524288 ≤ i1_1 ∧ i1_1 ≤ 524288) (D2_0 : OwnDS 0 i2_0 u2_0) (B2_0 : -524288 ≤ i2_0 ∧ i2_0 ≤ 524288) (D2_1 : OwnDS 0 i2_1 u2_1) (B2_1 : -524288 ≤ i2_1 ∧ i2_1 ≤ 524288) (D3_0 : OwnDS 0 i3_0 u3_0) (B3_0 : -524288 ≤ i3_0 ∧ i3_0 ≤ 524288) (D3_1 : OwnDS 0 i3_1 u3_1) (B3_1 : -524288 ≤ i3_1 ∧ i3_1 ≤ 524288) (D4_0 : OwnDS 0 i4_0 u4_0) (B4_0 : -524288 ≤ i4_0 ∧ i4_0 ≤ 524288) (D4_1 : OwnDS 0 i4_1 u4_1) (B4_1 : -524288 ≤ i4_1 ∧ i4_1 ≤ 524288) (D5_0 : OwnDS 0 i5_0 u5_0) (B5_0 : -524288 ≤ i5_0 ∧ i5_0 ≤ 524288) (D5_1 : OwnDS 0 i5_1 u5_1) (B5_1 : -524288 ≤ i5_1 ∧ i5_1 ≤ 524288) :
    MetFree l (⟨"com/example/isochron/isochron/dsp/RowButterflies", "forward", "([D[D[D[D[D[DI)V"⟩ : MethodName) (head1 (Jvm.Cond.code (⟨"com/example/isochron/isochron/dsp/RowButterflies", "forward", "([D[D[D[D[D[DI)V"⟩ : MethodName) prog_169_method_2_code 20 none :: ws) ({ frames := 0, cells := 0, slots := 0, locals := 0 } : Room)) (fun a U => a = #[(.ref o0), (.ref o1), (.ref o2), (.ref o3), (.ref o4), (.ref o5), (.int (2 : Int32))] ∧ Z.Warmed39 U.vm ∧ U.heap = h0) (fun _ _ _ _ _ => True) (fun _ U oO U' => ∃ v L, oO = .returned v ∧ Q_rmF2 Z o0 o1 o2 o3 o4 o5 u0_0 u0_1 u1_0 u1_1 u2_0 u2_1 u3_0 u3_1 u4_0 u4_1 u5_0 u5_1 i0_0 i0_1 i1_0 i1_1 i2_0 i2_1 i3_0 i3_1 i4_0 i4_1 i5_0 i5_1 h0 n0 v U'.heap L ∧ FrameEnd U oO U' L ({ frames := 0, cells := 0, slots := 0, locals := 0 } : Room).cells ({ frames := 0, cells := 0, slots := 0, locals := 0 } : Room).slots) := by
  refine MetFree.of_bodySF (plainFor_of_name pn_rmF2) hisR ?_
  intro p e s m args below meth c s₁ Bd hml0 hP hK
  obtain ⟨rfl, hZ, hh⟩ := hP
  have hx := Bd.exec
  have hby := Bd.bytes
  have hml : c.maxLocals = 20 := hml0
  have hown : s.vm.findClass "com/example/isochron/isochron/dsp/RowButterflies" = some m.cls := findClass_of_methodNamed Bd.named
  have hnm := (name_of_methodNamed Bd.named Bd.method).1
  have hk := Bd.notSynchronized
  have hrt := Bd.returns
  have X0 : Stand p l e ({ frames := 0, cells := 0, slots := 0, locals := 0 } : Room) s m #[(.ref o0), (.ref o1), (.ref o2), (.ref o3), (.ref o4), (.ref o5), (.int (2 : Int32))] below meth c s₁ [] 0 0 := Stand.of_body Bd
  have e0 : s₁.heap = h0 := by rw [← hh, Bd.state]; rfl
  have N0 := Fr.nil n0
  show OwnGo p.tables e below (OwnEnd s (Q_rmF2 Z o0 o1 o2 o3 o4 o5 u0_0 u0_1 u1_0 u1_1 u2_0 u2_1 u3_0 u3_1 u4_0 u4_1 u5_0 u5_1 i0_0 i0_1 i1_0 i1_1 i2_0 i2_1 i3_0 i3_1 i4_0 i4_1 i5_0 i5_1 h0 n0) ({ frames := 0, cells := 0, slots := 0, locals := 0 } : Room).cells ({ frames := 0, cells := 0, slots := 0, locals := 0 } : Room).slots) _
  refine OwnGo.pre (fun t k => castTop (ef_rmF2 m o0 o1 o2 o3 o4 o5 u0_0 u0_1 u1_0 u1_1 u2_0 u2_1 u3_0 u3_1 u4_0 u4_1 u5_0 u5_1 i0_0 i0_1 i1_0 i1_1 i2_0 i2_1 i3_0 i3_1 i4_0 i4_1 i5_0 i5_1) k) ?_
  show OwnGo _ _ _ _ (s₁.setTop (mkF m 0 #[sR o0, sR o1, sR o2, sR o3, sR o4, sR o5, sI (2 : Int32), uU, uU, uU, uU, uU, uU, uU, uU, uU, uU, uU, uU, uU] []))
  refine OwnGo.pre (fun t k => XS.iconst X0.here hx rfl (hb hby d3_0) (XS.istore X0.here hx rfl (hb hby d3_1) rfl (l' := #[sR o0, sR o1, sR o2, sR o3, sR o4, sR o5, sI (2 : Int32), sI (0 : Int32), uU, uU, uU, uU, uU, uU, uU, uU, uU, uU, uU, uU]) rfl (XS.iload X0.here hx rfl (hb hby d3_3) rfl (XS.iload X0.here hx rfl (hb hby d3_5) rfl (XS.icmpNo X0.here hx rfl (hb hby d3_7) rfl (by decide) (XS.aloadN X0.here hx rfl (hb hby d3_10) rfl rfl (XS.iload X0.here hx rfl (hb hby d3_11) rfl (own_daL X0 hx hZ e0 Aa0 (j := (0 : Int32)) (by decide) (i := 0) (by decide) (x := u0_0) rfl (g := (mkF m 13 #[sR o0, sR o1, sR o2, sR o3, sR o4, sR o5, sI (2 : Int32), sI (0 : Int32), uU, uU, uU, uU, uU, uU, uU, uU, uU, uU, uU, uU] [(.int (0 : Int32)), (.ref o0)])) rfl (rest := []) rfl (hb hby d3_13) k)))))))) ?_
  show OwnGo _ _ _ _ (s₁.setTop (mkF m 14 #[sR o0, sR o1, sR o2, sR o3, sR o4, sR o5, sI (2 : Int32), sI (0 : Int32), uU, uU, uU, uU, uU, uU, uU, uU, uU, uU, uU, uU] [(.double u0_0)]))
  refine OwnGo.pre (fun t k => XS.dstore X0.here hx rfl (hb hby d3_14) rfl (l' := #[sR o0, sR o1, sR o2, sR o3, sR o4, sR o5, sI (2 : Int32), sI (0 : Int32), sD u0_0, uS, uU, uU, uU, uU, uU, uU, uU, uU, uU, uU]) rfl (XS.aloadN X0.here hx rfl (hb hby d3_16) rfl rfl (XS.iload X0.here hx rfl (hb hby d3_17) rfl (own_daL X0 hx hZ e0 Aa1 (j := (0 : Int32)) (by decide) (i := 0) (by decide) (x := u1_0) rfl (g := (mkF m 19 #[sR o0, sR o1, sR o2, sR o3, sR o4, sR o5, sI (2 : Int32), sI (0 : Int32), sD u0_0, uS, uU, uU, uU, uU, uU, uU, uU, uU, uU, uU] [(.int (0 : Int32)), (.ref o1)])) rfl (rest := []) rfl (hb hby d3_19) (XS.dstore X0.here hx rfl (hb hby d3_20) rfl (l' := #[sR o0, sR o1, sR o2, sR o3, sR o4, sR o5, sI (2 : Int32), sI (0 : Int32), sD u0_0, uS, sD u1_0, uS, uU, uU, uU, uU, uU, uU, uU, uU]) rfl (XS.aloadN X0.here hx rfl (hb hby d3_22) rfl rfl (XS.iload X0.here hx rfl (hb hby d3_23) rfl (own_daL X0 hx hZ e0 Aa2 (j := (0 : Int32)) (by decide) (i := 0) (by decide) (x := u2_0) rfl (g := (mkF m 25 #[sR o0, sR o1, sR o2, sR o3, sR o4, sR o5, sI (2 : Int32), sI (0 : Int32), sD u0_0, uS, sD u1_0, uS, uU, uU, uU, uU, uU, uU, uU, uU] [(.int (0 : Int32)), (.ref o2)])) rfl (rest := []) rfl (hb hby d3_25) k)))))))) ?_
  show OwnGo _ _ _ _ (s₁.setTop (mkF m 26 #[sR o0, sR o1, sR o2, sR o3, sR o4, sR o5, sI (2 : Int32), sI (0 : Int32), sD u0_0, uS, sD u1_0, uS, uU, uU, uU, uU, uU, uU, uU, uU] [(.double u2_0)]))
  refine OwnGo.pre (fun t k => XS.dstore X0.here hx rfl (hb hby d3_26) rfl (l' := #[sR o0, sR o1, sR o2, sR o3, sR o4, sR o5, sI (2 : Int32), sI (0 : Int32), sD u0_0, uS, sD u1_0, uS, sD u2_0, uS, uU, uU, uU, uU, uU, uU]) rfl (XS.aloadN X0.here hx rfl (hb hby d3_28) rfl rfl (XS.iload X0.here hx rfl (hb hby d3_29) rfl (own_daL X0 hx hZ e0 Aa3 (j := (0 : Int32)) (by decide) (i := 0) (by decide) (x := u3_0) rfl (g := (mkF m 31 #[sR o0, sR o1, sR o2, sR o3, sR o4, sR o5, sI (2 : Int32), sI (0 : Int32), sD u0_0, uS, sD u1_0, uS, sD u2_0, uS, uU, uU, uU, uU, uU, uU] [(.int (0 : Int32)), (.ref o3)])) rfl (rest := []) rfl (hb hby d3_31) (XS.dstore X0.here hx rfl (hb hby d3_32) rfl (l' := #[sR o0, sR o1, sR o2, sR o3, sR o4, sR o5, sI (2 : Int32), sI (0 : Int32), sD u0_0, uS, sD u1_0, uS, sD u2_0, uS, sD u3_0, uS, uU, uU, uU, uU]) rfl (XS.aloadN X0.here hx rfl (hb hby d3_34) rfl rfl (XS.iload X0.here hx rfl (hb hby d3_35) rfl (XS.dload X0.here hx rfl (hb hby d3_37) rfl k)))))))) ?_
  show OwnGo _ _ _ _ (s₁.setTop (mkF m 39 #[sR o0, sR o1, sR o2, sR o3, sR o4, sR o5, sI (2 : Int32), sI (0 : Int32), sD u0_0, uS, sD u1_0, uS, sD u2_0, uS, sD u3_0, uS, uU, uU, uU, uU] [(.double u0_0), (.int (0 : Int32)), (.ref o0)]))
  have Dq15 : OwnDS 0 (i0_0 + i2_0) (FP.dadd u0_0 u2_0) := own_ds_add (n := 53) D0_0 D2_0 (own_bd_nat (C := 1048576) (own_bd_add B0_0 B2_0 (by decide)) (by decide))
  obtain ⟨d15, hd15⟩ : ∃ v, FP.dadd u0_0 u2_0 = v := ⟨_, rfl⟩
  obtain ⟨j15, hj15⟩ : ∃ i : Int, i = i0_0 + i2_0 := ⟨_, rfl⟩
  have B15 : -1048576 ≤ j15 ∧ j15 ≤ 1048576 := by rw [hj15]; exact own_bd_add B0_0 B2_0 (by decide)
  have D15 : OwnDS 0 j15 d15 := by rw [hj15, ← hd15]; exact Dq15
  refine OwnGo.pre (fun t k => XS.dload X0.here hx rfl (hb hby d3_39) rfl (XS.daddS X0.here hx rfl (hb hby d3_41) rfl (own_nn Dq15) hd15 k)) ?_
  show OwnGo _ _ _ _ (s₁.setTop (mkF m 42 #[sR o0, sR o1, sR o2, sR o3, sR o4, sR o5, sI (2 : Int32), sI (0 : Int32), sD u0_0, uS, sD u1_0, uS, sD u2_0, uS, sD u3_0, uS, uU, uU, uU, uU] [(.double d15), (.int (0 : Int32)), (.ref o0)]))
  obtain ⟨T16, h16, X16, e16, W16, A16, st16⟩ := own_daS X0 hx hZ e0 Aa0 (by decide) (i := 0) (by decide) (by show 0 < 2; decide) (g := (mkF m 42 #[sR o0, sR o1, sR o2, sR o3, sR o4, sR o5, sI (2 : Int32), sI (0 : Int32), sD u0_0, uS, sD u1_0, uS, sD u2_0, uS, sD u3_0, uS, uU, uU, uU, uU] [(.double d15), (.int (0 : Int32)), (.ref o0)])) rfl rfl (hb hby d3_42)
  have A16n : OwnDA Z h16 o0 [d15, u0_1] := A16
  have A16_o1 := Aa1.ot W16 ne0_1.symm
  have A16_o2 := Aa2.ot W16 ne0_2.symm
  have A16_o3 := Aa3.ot W16 ne0_3.symm
  have A16_o4 := Aa4.ot W16 ne0_4.symm
  have A16_o5 := Aa5.ot W16 ne0_5.symm
  have N16 := Fr.snoc X16 N0 g0
  have Z16 : n0 ≤ h16.size := by rw [W16.size]; exact Z0
  refine OwnGo.pre (fun t k => st16 t k) ?_
  show OwnGo _ _ _ _ (T16.setTop (mkF m 43 #[sR o0, sR o1, sR o2, sR o3, sR o4, sR o5, sI (2 : Int32), sI (0 : Int32), sD u0_0, uS, sD u1_0, uS, sD u2_0, uS, sD u3_0, uS, uU, uU, uU, uU] []))
  have Dq17 : OwnDS 0 (i1_0 + i3_0) (FP.dadd u1_0 u3_0) := own_ds_add (n := 53) D1_0 D3_0 (own_bd_nat (C := 1048576) (own_bd_add B1_0 B3_0 (by decide)) (by decide))
  obtain ⟨d17, hd17⟩ : ∃ v, FP.dadd u1_0 u3_0 = v := ⟨_, rfl⟩
  obtain ⟨j17, hj17⟩ : ∃ i : Int, i = i1_0 + i3_0 := ⟨_, rfl⟩
  have B17 : -1048576 ≤ j17 ∧ j17 ≤ 1048576 := by rw [hj17]; exact own_bd_add B1_0 B3_0 (by decide)
  have D17 : OwnDS 0 j17 d17 := by rw [hj17, ← hd17]; exact Dq17
  refine OwnGo.pre (fun t k => XS.aloadN X16.here hx rfl (hb hby d3_43) rfl rfl (XS.iload X16.here hx rfl (hb hby d3_44) rfl (XS.dload X16.here hx rfl (hb hby d3_46) rfl (XS.dload X16.here hx rfl (hb hby d3_48) rfl (XS.daddS X16.here hx rfl (hb hby d3_50) rfl (own_nn Dq17) hd17 k))))) ?_
  show OwnGo _ _ _ _ (T16.setTop (mkF m 51 #[sR o0, sR o1, sR o2, sR o3, sR o4, sR o5, sI (2 : Int32), sI (0 : Int32), sD u0_0, uS, sD u1_0, uS, sD u2_0, uS, sD u3_0, uS, uU, uU, uU, uU] [(.double d17), (.int (0 : Int32)), (.ref o1)]))
  obtain ⟨T18, h18, X18, e18, W18, A18, st18⟩ := own_daS X16 hx hZ e16 A16_o1 (by decide) (i := 0) (by decide) (by show 0 < 2; decide) (g := (mkF m 51 #[sR o0, sR o1, sR o2, sR o3, sR o4, sR o5, sI (2 : Int32), sI (0 : Int32), sD u0_0, uS, sD u1_0, uS, sD u2_0, uS, sD u3_0, uS, uU, uU, uU, uU] [(.double d17), (.int (0 : Int32)), (.ref o1)])) rfl rfl (hb hby d3_51)
  have A18n : OwnDA Z h18 o1 [d17, u1_1] := A18
  have A18_o0 := A16n.ot W18 ne0_1
  have A18_o2 := A16_o2.ot W18 ne1_2.symm
  have A18_o3 := A16_o3.ot W18 ne1_3.symm
  have A18_o4 := A16_o4.ot W18 ne1_4.symm
  have A18_o5 := A16_o5.ot W18 ne1_5.symm
  have N18 := Fr.snoc X18 N16 g1
  have Z18 : n0 ≤ h18.size := by rw [W18.size]; exact Z16
  refine OwnGo.pre (fun t k => st18 t k) ?_
  show OwnGo _ _ _ _ (T18.setTop (mkF m 52 #[sR o0, sR o1, sR o2, sR o3, sR o4, sR o5, sI (2 : Int32), sI (0 : Int32), sD u0_0, uS, sD u1_0, uS, sD u2_0, uS, sD u3_0, uS, uU, uU, uU, uU] []))
  have Dq19 : OwnDS 0 (i0_0 - i2_0) (FP.dsub u0_0 u2_0) := own_ds_sub (n := 53) D0_0 D2_0 (own_bd_nat (C := 1048576) (own_bd_sub B0_0 B2_0 (by decide)) (by decide))
  obtain ⟨d19, hd19⟩ : ∃ v, FP.dsub u0_0 u2_0 = v := ⟨_, rfl⟩
  obtain ⟨j19, hj19⟩ : ∃ i : Int, i = i0_0 - i2_0 := ⟨_, rfl⟩
  have B19 : -1048576 ≤ j19 ∧ j19 ≤ 1048576 := by rw [hj19]; exact own_bd_sub B0_0 B2_0 (by decide)
  have D19 : OwnDS 0 j19 d19 := by rw [hj19, ← hd19]; exact Dq19
  have Dq20 : OwnDS 0 (i1_0 - i3_0) (FP.dsub u1_0 u3_0) := own_ds_sub (n := 53) D1_0 D3_0 (own_bd_nat (C := 1048576) (own_bd_sub B1_0 B3_0 (by decide)) (by decide))
  obtain ⟨d20, hd20⟩ : ∃ v, FP.dsub u1_0 u3_0 = v := ⟨_, rfl⟩
  obtain ⟨j20, hj20⟩ : ∃ i : Int, i = i1_0 - i3_0 := ⟨_, rfl⟩
  have B20 : -1048576 ≤ j20 ∧ j20 ≤ 1048576 := by rw [hj20]; exact own_bd_sub B1_0 B3_0 (by decide)
  have D20 : OwnDS 0 j20 d20 := by rw [hj20, ← hd20]; exact Dq20
  refine OwnGo.pre (fun t k => XS.dload X18.here hx rfl (hb hby d3_52) rfl (XS.dload X18.here hx rfl (hb hby d3_54) rfl (XS.dsubS X18.here hx rfl (hb hby d3_56) rfl (own_nn Dq19) hd19 (XS.dstore X18.here hx rfl (hb hby d3_57) rfl (l' := #[sR o0, sR o1, sR o2, sR o3, sR o4, sR o5, sI (2 : Int32), sI (0 : Int32), sD u0_0, uS, sD u1_0, uS, sD u2_0, uS, sD u3_0, uS, sD d19, uS, uU, uU]) rfl (XS.dload X18.here hx rfl (hb hby d3_59) rfl (XS.dload X18.here hx rfl (hb hby d3_61) rfl (XS.dsubS X18.here hx rfl (hb hby d3_63) rfl (own_nn Dq20) hd20 (XS.dstore X18.here hx rfl (hb hby d3_64) rfl (l' := #[sR o0, sR o1, sR o2, sR o3, sR o4, sR o5, sI (2 : Int32), sI (0 : Int32), sD u0_0, uS, sD u1_0, uS, sD u2_0, uS, sD u3_0, uS, sD d19, uS, sD d20, uS]) rfl k)))))))) ?_
  show OwnGo _ _ _ _ (T18.setTop (mkF m 66 #[sR o0, sR o1, sR o2, sR o3, sR o4, sR o5, sI (2 : Int32), sI (0 : Int32), sD u0_0, uS, sD u1_0, uS, sD u2_0, uS, sD u3_0, uS, sD d19, uS, sD d20, uS] []))
  obtain ⟨j21, hj21⟩ : ∃ i : Int, i = j19 * i4_0 := ⟨_, rfl⟩
  have B21 : -549755813888 ≤ j21 ∧ j21 ≤ 549755813888 := by rw [hj21]; exact own_bd_mul B19 B4_0 (by decide)
  have Dq21 : OwnDS 0 j21 (FP.dmul d19 u4_0) := by rw [hj21]; have q := own_ds_mul (n := 53) D19 D4_0 (own_bd_nat (C := 549755813888) (own_bd_mul B19 B4_0 (by decide)) (by decide)); exact q
  obtain ⟨d21, hd21⟩ : ∃ v, FP.dmul d19 u4_0 = v := ⟨_, rfl⟩
  have D21 : OwnDS 0 j21 d21 := by rw [← hd21]; exact Dq21
  refine OwnGo.pre (fun t k => XS.aloadN X18.here hx rfl (hb hby d3_66) rfl rfl (XS.iload X18.here hx rfl (hb hby d3_67) rfl (XS.dload X18.here hx rfl (hb hby d3_69) rfl (XS.aload X18.here hx rfl (hb hby d3_71) rfl rfl (XS.iload X18.here hx rfl (hb hby d3_73) rfl (own_daL X18 hx hZ e18 A18_o4 (j := (0 : Int32)) (by decide) (i := 0) (by decide) (x := u4_0) rfl (g := (mkF m 75 #[sR o0, sR o1, sR o2, sR o3, sR o4, sR o5, sI (2 : Int32), sI (0 : Int32), sD u0_0, uS, sD u1_0, uS, sD u2_0, uS, sD u3_0, uS, sD d19, uS, sD d20, uS] [(.int (0 : Int32)), (.ref o4), (.double d19), (.int (0 : Int32)), (.ref o2)])) rfl (rest := [(.double d19), (.int (0 : Int32)), (.ref o2)]) rfl (hb hby d3_75) (XS.dmulS X18.here hx rfl (hb hby d3_76) rfl (own_nn Dq21) hd21 (XS.dload X18.here hx rfl (hb hby d3_77) rfl k)))))))) ?_
  show OwnGo _ _ _ _ (T18.setTop (mkF m 79 #[sR o0, sR o1, sR o2, sR o3, sR o4, sR o5, sI (2 : Int32), sI (0 : Int32), sD u0_0, uS, sD u1_0, uS, sD u2_0, uS, sD u3_0, uS, sD d19, uS, sD d20, uS] [(.double d20), (.double d21), (.int (0 : Int32)), (.ref o2)]))
  obtain ⟨j22, hj22⟩ : ∃ i : Int, i = j20 * i5_0 := ⟨_, rfl⟩
  have B22 : -549755813888 ≤ j22 ∧ j22 ≤ 549755813888 := by rw [hj22]; exact own_bd_mul B20 B5_0 (by decide)
  have Dq22 : OwnDS 0 j22 (FP.dmul d20 u5_0) := by rw [hj22]; have q := own_ds_mul (n := 53) D20 D5_0 (own_bd_nat (C := 549755813888) (own_bd_mul B20 B5_0 (by decide)) (by decide)); exact q
  obtain ⟨d22, hd22⟩ : ∃ v, FP.dmul d20 u5_0 = v := ⟨_, rfl⟩
  have D22 : OwnDS 0 j22 d22 := by rw [← hd22]; exact Dq22
  have Dq23 : OwnDS 0 (j21 + j22) (FP.dadd d21 d22) := own_ds_add (n := 53) D21 D22 (own_bd_nat (C := 1099511627776) (own_bd_add B21 B22 (by decide)) (by decide))
  obtain ⟨d23, hd23⟩ : ∃ v, FP.dadd d21 d22 = v := ⟨_, rfl⟩
  obtain ⟨j23, hj23⟩ : ∃ i : Int, i = j21 + j22 := ⟨_, rfl⟩
  have B23 : -1099511627776 ≤ j23 ∧ j23 ≤ 1099511627776 := by rw [hj23]; exact own_bd_add B21 B22 (by decide)
  have D23 : OwnDS 0 j23 d23 := by rw [hj23, ← hd23]; exact Dq23
  refine OwnGo.pre (fun t k => XS.aload X18.here hx rfl (hb hby d3_79) rfl rfl (XS.iload X18.here hx rfl (hb hby d3_81) rfl (own_daL X18 hx hZ e18 A18_o5 (j := (0 : Int32)) (by decide) (i := 0) (by decide) (x := u5_0) rfl (g := (mkF m 83 #[sR o0, sR o1, sR o2, sR o3, sR o4, sR o5, sI (2 : Int32), sI (0 : Int32), sD u0_0, uS, sD u1_0, uS, sD u2_0, uS, sD u3_0, uS, sD d19, uS, sD d20, uS] [(.int (0 : Int32)), (.ref o5), (.double d20), (.double d21), (.int (0 : Int32)), (.ref o2)])) rfl (rest := [(.double d20), (.double d21), (.int (0 : Int32)), (.ref o2)]) rfl (hb hby d3_83) (XS.dmulS X18.here hx rfl (hb hby d3_84) rfl (own_nn Dq22) hd22 (XS.daddS X18.here hx rfl (hb hby d3_85) rfl (own_nn Dq23) hd23 k))))) ?_
  show OwnGo _ _ _ _ (T18.setTop (mkF m 86 #[sR o0, sR o1, sR o2, sR o3, sR o4, sR o5, sI (2 : Int32), sI (0 : Int32), sD u0_0, uS, sD u1_0, uS, sD u2_0, uS, sD u3_0, uS, sD d19, uS, sD d20, uS] [(.double d23), (.int (0 : Int32)), (.ref o2)]))
  obtain ⟨T24, h24, X24, e24, W24, A24, st24⟩ := own_daS X18 hx hZ e18 A18_o2 (by decide) (i := 0) (by decide) (by show 0 < 2; decide) (g := (mkF m 86 #[sR o0, sR o1, sR o2, sR o3, sR o4, sR o5, sI (2 : Int32), sI (0 : Int32), sD u0_0, uS, sD u1_0, uS, sD u2_0, uS, sD u3_0, uS, sD d19, uS, sD d20, uS] [(.double d23), (.int (0 : Int32)), (.ref o2)])) rfl rfl (hb hby d3_86)
  have A24n : OwnDA Z h24 o2 [d23, u2_1] := A24
  have A24_o0 := A18_o0.ot W24 ne0_2
  have A24_o1 := A18n.ot W24 ne1_2
  have A24_o3 := A18_o3.ot W24 ne2_3.symm
  have A24_o4 := A18_o4.ot W24 ne2_4.symm
  have A24_o5 := A18_o5.ot W24 ne2_5.symm
  have N24 := Fr.snoc X24 N18 g2
  have Z24 : n0 ≤ h24.size := by rw [W24.size]; exact Z18
  refine OwnGo.pre (fun t k => st24 t k) ?_
  show OwnGo _ _ _ _ (T24.setTop (mkF m 87 #[sR o0, sR o1, sR o2, sR o3, sR o4, sR o5, sI (2 : Int32), sI (0 : Int32), sD u0_0, uS, sD u1_0, uS, sD u2_0, uS, sD u3_0, uS, sD d19, uS, sD d20, uS] []))
  obtain ⟨j25, hj25⟩ : ∃ i : Int, i = j20 * i4_0 := ⟨_, rfl⟩
  have B25 : -549755813888 ≤ j25 ∧ j25 ≤ 549755813888 := by rw [hj25]; exact own_bd_mul B20 B4_0 (by decide)
  have Dq25 : OwnDS 0 j25 (FP.dmul d20 u4_0) := by rw [hj25]; have q := own_ds_mul (n := 53) D20 D4_0 (own_bd_nat (C := 549755813888) (own_bd_mul B20 B4_0 (by decide)) (by decide)); exact q
  obtain ⟨d25, hd25⟩ : ∃ v, FP.dmul d20 u4_0 = v := ⟨_, rfl⟩
  have D25 : OwnDS 0 j25 d25 := by rw [← hd25]; exact Dq25
  refine OwnGo.pre (fun t k => XS.aloadN X24.here hx rfl (hb hby d3_87) rfl rfl (XS.iload X24.here hx rfl (hb hby d3_88) rfl (XS.dload X24.here hx rfl (hb hby d3_90) rfl (XS.aload X24.here hx rfl (hb hby d3_92) rfl rfl (XS.iload X24.here hx rfl (hb hby d3_94) rfl (own_daL X24 hx hZ e24 A24_o4 (j := (0 : Int32)) (by decide) (i := 0) (by decide) (x := u4_0) rfl (g := (mkF m 96 #[sR o0, sR o1, sR o2, sR o3, sR o4, sR o5, sI (2 : Int32), sI (0 : Int32), sD u0_0, uS, sD u1_0, uS, sD u2_0, uS, sD u3_0, uS, sD d19, uS, sD d20, uS] [(.int (0 : Int32)), (.ref o4), (.double d20), (.int (0 : Int32)), (.ref o3)])) rfl (rest := [(.double d20), (.int (0 : Int32)), (.ref o3)]) rfl (hb hby d3_96) (XS.dmulS X24.here hx rfl (hb hby d3_97) rfl (own_nn Dq25) hd25 (XS.dload X24.here hx rfl (hb hby d3_98) rfl k)))))))) ?_
  show OwnGo _ _ _ _ (T24.setTop (mkF m 100 #[sR o0, sR o1, sR o2, sR o3, sR o4, sR o5, sI (2 : Int32), sI (0 : Int32), sD u0_0, uS, sD u1_0, uS, sD u2_0, uS, sD u3_0, uS, sD d19, uS, sD d20, uS] [(.double d19), (.double d25), (.int (0 : Int32)), (.ref o3)]))
  obtain ⟨j26, hj26⟩ : ∃ i : Int, i = j19 * i5_0 := ⟨_, rfl⟩
  have B26 : -549755813888 ≤ j26 ∧ j26 ≤ 549755813888 := by rw [hj26]; exact own_bd_mul B19 B5_0 (by decide)
  have Dq26 : OwnDS 0 j26 (FP.dmul d19 u5_0) := by rw [hj26]; have q := own_ds_mul (n := 53) D19 D5_0 (own_bd_nat (C := 549755813888) (own_bd_mul B19 B5_0 (by decide)) (by decide)); exact q
  obtain ⟨d26, hd26⟩ : ∃ v, FP.dmul d19 u5_0 = v := ⟨_, rfl⟩
  have D26 : OwnDS 0 j26 d26 := by rw [← hd26]; exact Dq26
  have Dq27 : OwnDS 0 (j25 - j26) (FP.dsub d25 d26) := own_ds_sub (n := 53) D25 D26 (own_bd_nat (C := 1099511627776) (own_bd_sub B25 B26 (by decide)) (by decide))
  obtain ⟨d27, hd27⟩ : ∃ v, FP.dsub d25 d26 = v := ⟨_, rfl⟩
  obtain ⟨j27, hj27⟩ : ∃ i : Int, i = j25 - j26 := ⟨_, rfl⟩
  have B27 : -1099511627776 ≤ j27 ∧ j27 ≤ 1099511627776 := by rw [hj27]; exact own_bd_sub B25 B26 (by decide)
  have D27 : OwnDS 0 j27 d27 := by rw [hj27, ← hd27]; exact Dq27
  refine OwnGo.pre (fun t k => XS.aload X24.here hx rfl (hb hby d3_100) rfl rfl (XS.iload X24.here hx rfl (hb hby d3_102) rfl (own_daL X24 hx hZ e24 A24_o5 (j := (0 : Int32)) (by decide) (i := 0) (by decide) (x := u5_0) rfl (g := (mkF m 104 #[sR o0, sR o1, sR o2, sR o3, sR o4, sR o5, sI (2 : Int32), sI (0 : Int32), sD u0_0, uS, sD u1_0, uS, sD u2_0, uS, sD u3_0, uS, sD d19, uS, sD d20, uS] [(.int (0 : Int32)), (.ref o5), (.double d19), (.double d25), (.int (0 : Int32)), (.ref o3)])) rfl (rest := [(.double d19), (.double d25), (.int (0 : Int32)), (.ref o3)]) rfl (hb hby d3_104) (XS.dmulS X24.here hx rfl (hb hby d3_105) rfl (own_nn Dq26) hd26 (XS.dsubS X24.here hx rfl (hb hby d3_106) rfl (own_nn Dq27) hd27 k))))) ?_
  show OwnGo _ _ _ _ (T24.setTop (mkF m 107 #[sR o0, sR o1, sR o2, sR o3, sR o4, sR o5, sI (2 : Int32), sI (0 : Int32), sD u0_0, uS, sD u1_0, uS, sD u2_0, uS, sD u3_0, uS, sD d19, uS, sD d20, uS] [(.double d27), (.int (0 : Int32)), (.ref o3)]))
  obtain ⟨T28, h28, X28, e28, W28, A28, st28⟩ := own_daS X24 hx hZ e24 A24_o3 (by decide) (i := 0) (by decide) (by show 0 < 2; decide) (g := (mkF m 107 #[sR o0, sR o1, sR o2, sR o3, sR o4, sR o5, sI (2 : Int32), sI (0 : Int32), sD u0_0, uS, sD u1_0, uS, sD u2_0, uS, sD u3_0, uS, sD d19, uS, sD d20, uS] [(.double d27), (.int (0 : Int32)), (.ref o3)])) rfl rfl (hb hby d3_107)
  have A28n : OwnDA Z h28 o3 [d27, u3_1] := A28
  have A28_o0 := A24_o0.ot W28 ne0_3
  have A28_o1 := A24_o1.ot W28 ne1_3
  have A28_o2 := A24n.ot W28 ne2_3
  have A28_o4 := A24_o4.ot W28 ne3_4.symm
  have A28_o5 := A24_o5.ot W28 ne3_5.symm
  have N28 := Fr.snoc X28 N24 g3
  have Z28 : n0 ≤ h28.size := by rw [W28.size]; exact Z24
  refine OwnGo.pre (fun t k => st28 t k) ?_
  show OwnGo _ _ _ _ (T28.setTop (mkF m 108 #[sR o0, sR o1, sR o2, sR o3, sR o4, sR o5, sI (2 : Int32), sI (0 : Int32), sD u0_0, uS, sD u1_0, uS, sD u2_0, uS, sD u3_0, uS, sD d19, uS, sD d20, uS] []))
  refine OwnGo.pre (fun t k => XS.iinc X28.here hx rfl (hb hby d3_108) rfl (l' := #[sR o0, sR o1, sR o2, sR o3, sR o4, sR o5, sI (2 : Int32), sI (1 : Int32), sD u0_0, uS, sD u1_0, uS, sD u2_0, uS, sD u3_0, uS, sD d19, uS, sD d20, uS]) rfl (XS.goto X28.here hx rfl (pc0 := 111) (pc' := 3) rfl (hb hby d3_111) (by decide) (by decide) (XS.iload X28.here hx rfl (hb hby d3_3) rfl (XS.iload X28.here hx rfl (hb hby d3_5) rfl (XS.icmpNo X28.here hx rfl (hb hby d3_7) rfl (by decide) (XS.aloadN X28.here hx rfl (hb hby d3_10) rfl rfl (XS.iload X28.here hx rfl (hb hby d3_11) rfl (own_daL X28 hx hZ e28 A28_o0 (j := (1 : Int32)) (by decide) (i := 1) (by decide) (x := u0_1) rfl (g := (mkF m 13 #[sR o0, sR o1, sR o2, sR o3, sR o4, sR o5, sI (2 : Int32), sI (1 : Int32), sD u0_0, uS, sD u1_0, uS, sD u2_0, uS, sD u3_0, uS, sD d19, uS, sD d20, uS] [(.int (1 : Int32)), (.ref o0)])) rfl (rest := []) rfl (hb hby d3_13) k)))))))) ?_
  show OwnGo _ _ _ _ (T28.setTop (mkF m 14 #[sR o0, sR o1, sR o2, sR o3, sR o4, sR o5, sI (2 : Int32), sI (1 : Int32), sD u0_0, uS, sD u1_0, uS, sD u2_0, uS, sD u3_0, uS, sD d19, uS, sD d20, uS] [(.double u0_1)]))
  refine OwnGo.pre (fun t k => XS.dstore X28.here hx rfl (hb hby d3_14) rfl (l' := #[sR o0, sR o1, sR o2, sR o3, sR o4, sR o5, sI (2 : Int32), sI (1 : Int32), sD u0_1, uS, sD u1_0, uS, sD u2_0, uS, sD u3_0, uS, sD d19, uS, sD d20, uS]) rfl (XS.aloadN X28.here hx rfl (hb hby d3_16) rfl rfl (XS.iload X28.here hx rfl (hb hby d3_17) rfl (own_daL X28 hx hZ e28 A28_o1 (j := (1 : Int32)) (by decide) (i := 1) (by decide) (x := u1_1) rfl (g := (mkF m 19 #[sR o0, sR o1, sR o2, sR o3, sR o4, sR o5, sI (2 : Int32), sI (1 : Int32), sD u0_1, uS, sD u1_0, uS, sD u2_0, uS, sD u3_0, uS, sD d19, uS, sD d20, uS] [(.int (1 : Int32)), (.ref o1)])) rfl (rest := []) rfl (hb hby d3_19) (XS.dstore X28.here hx rfl (hb hby d3_20) rfl (l' := #[sR o0, sR o1, sR o2, sR o3, sR o4, sR o5, sI (2 : Int32), sI (1 : Int32), sD u0_1, uS, sD u1_1, uS, sD u2_0, uS, sD u3_0, uS, sD d19, uS, sD d20, uS]) rfl (XS.aloadN X28.here hx rfl (hb hby d3_22) rfl rfl (XS.iload X28.here hx rfl (hb hby d3_23) rfl (own_daL X28 hx hZ e28 A28_o2 (j := (1 : Int32)) (by decide) (i := 1) (by decide) (x := u2_1) rfl (g := (mkF m 25 #[sR o0, sR o1, sR o2, sR o3, sR o4, sR o5, sI (2 : Int32), sI (1 : Int32), sD u0_1, uS, sD u1_1, uS, sD u2_0, uS, sD u3_0, uS, sD d19, uS, sD d20, uS] [(.int (1 : Int32)), (.ref o2)])) rfl (rest := []) rfl (hb hby d3_25) k)))))))) ?_
  show OwnGo _ _ _ _ (T28.setTop (mkF m 26 #[sR o0, sR o1, sR o2, sR o3, sR o4, sR o5, sI (2 : Int32), sI (1 : Int32), sD u0_1, uS, sD u1_1, uS, sD u2_0, uS, sD u3_0, uS, sD d19, uS, sD d20, uS] [(.double u2_1)]))
  refine OwnGo.pre (fun t k => XS.dstore X28.here hx rfl (hb hby d3_26) rfl (l' := #[sR o0, sR o1, sR o2, sR o3, sR o4, sR o5, sI (2 : Int32), sI (1 : Int32), sD u0_1, uS, sD u1_1, uS, sD u2_1, uS, sD u3_0, uS, sD d19, uS, sD d20, uS]) rfl (XS.aloadN X28.here hx rfl (hb hby d3_28) rfl rfl (XS.iload X28.here hx rfl (hb hby d3_29) rfl (own_daL X28 hx hZ e28 A28n (j := (1 : Int32)) (by decide) (i := 1) (by decide) (x := u3_1) rfl (g := (mkF m 31 #[sR o0, sR o1, sR o2, sR o3, sR o4, sR o5, sI (2 : Int32), sI (1 : Int32), sD u0_1, uS, sD u1_1, uS, sD u2_1, uS, sD u3_0, uS, sD d19, uS, sD d20, uS] [(.int (1 : Int32)), (.ref o3)])) rfl (rest := []) rfl (hb hby d3_31) (XS.dstore X28.here hx rfl (hb hby d3_32) rfl (l' := #[sR o0, sR o1, sR o2, sR o3, sR o4, sR o5, sI (2 : Int32), sI (1 : Int32), sD u0_1, uS, sD u1_1, uS, sD u2_1, uS, sD u3_1, uS, sD d19, uS, sD d20, uS]) rfl (XS.aloadN X28.here hx rfl (hb hby d3_34) rfl rfl (XS.iload X28.here hx rfl (hb hby d3_35) rfl (XS.dload X28.here hx rfl (hb hby d3_37) rfl k)))))))) ?_
  show OwnGo _ _ _ _ (T28.setTop (mkF m 39 #[sR o0, sR o1, sR o2, sR o3, sR o4, sR o5, sI (2 : Int32), sI (1 : Int32), sD u0_1, uS, sD u1_1, uS, sD u2_1, uS, sD u3_1, uS, sD d19, uS, sD d20, uS] [(.double u0_1), (.int (1 : Int32)), (.ref o0)]))
  have Dq29 : OwnDS 0 (i0_1 + i2_1) (FP.dadd u0_1 u2_1) := own_ds_add (n := 53) D0_1 D2_1 (own_bd_nat (C := 1048576) (own_bd_add B0_1 B2_1 (by decide)) (by decide))
  obtain ⟨d29, hd29⟩ : ∃ v, FP.dadd u0_1 u2_1 = v := ⟨_, rfl⟩
  obtain ⟨j29, hj29⟩ : ∃ i : Int, i = i0_1 + i2_1 := ⟨_, rfl⟩
  have B29 : -1048576 ≤ j29 ∧ j29 ≤ 1048576 := by rw [hj29]; exact own_bd_add B0_1 B2_1 (by decide)
  have D29 : OwnDS 0 j29 d29 := by rw [hj29, ← hd29]; exact Dq29
  refine OwnGo.pre (fun t k => XS.dload X28.here hx rfl (hb hby d3_39) rfl (XS.daddS X28.here hx rfl (hb hby d3_41) rfl (own_nn Dq29) hd29 k)) ?_
  show OwnGo _ _ _ _ (T28.setTop (mkF m 42 #[sR o0, sR o1, sR o2, sR o3, sR o4, sR o5, sI (2 : Int32), sI (1 : Int32), sD u0_1, uS, sD u1_1, uS, sD u2_1, uS, sD u3_1, uS, sD d19, uS, sD d20, uS] [(.double d29), (.int (1 : Int32)), (.ref o0)]))
  obtain ⟨T30, h30, X30, e30, W30, A30, st30⟩ := own_daS X28 hx hZ e28 A28_o0 (by decide) (i := 1) (by decide) (by show 1 < 2; decide) (g := (mkF m 42 #[sR o0, sR o1, sR o2, sR o3, sR o4, sR o5, sI (2 : Int32), sI (1 : Int32), sD u0_1, uS, sD u1_1, uS, sD u2_1, uS, sD u3_1, uS, sD d19, uS, sD d20, uS] [(.double d29), (.int (1 : Int32)), (.ref o0)])) rfl rfl (hb hby d3_42)
  have A30n : OwnDA Z h30 o0 [d15, d29] := A30
  have A30_o1 := A28_o1.ot W30 ne0_1.symm
  have A30_o2 := A28_o2.ot W30 ne0_2.symm
  have A30_o3 := A28n.ot W30 ne0_3.symm
  have A30_o4 := A28_o4.ot W30 ne0_4.symm
  have A30_o5 := A28_o5.ot W30 ne0_5.symm
  have N30 := Fr.snoc X30 N28 g0
  have Z30 : n0 ≤ h30.size := by rw [W30.size]; exact Z28
  refine OwnGo.pre (fun t k => st30 t k) ?_
  show OwnGo _ _ _ _ (T30.setTop (mkF m 43 #[sR o0, sR o1, sR o2, sR o3, sR o4, sR o5, sI (2 : Int32), sI (1 : Int32), sD u0_1, uS, sD u1_1, uS, sD u2_1, uS, sD u3_1, uS, sD d19, uS, sD d20, uS] []))
  have Dq31 : OwnDS 0 (i1_1 + i3_1) (FP.dadd u1_1 u3_1) := own_ds_add (n := 53) D1_1 D3_1 (own_bd_nat (C := 1048576) (own_bd_add B1_1 B3_1 (by decide)) (by decide))
  obtain ⟨d31, hd31⟩ : ∃ v, FP.dadd u1_1 u3_1 = v := ⟨_, rfl⟩
  obtain ⟨j31, hj31⟩ : ∃ i : Int, i = i1_1 + i3_1 := ⟨_, rfl⟩
  have B31 : -1048576 ≤ j31 ∧ j31 ≤ 1048576 := by rw [hj31]; exact own_bd_add B1_1 B3_1 (by decide)
  have D31 : OwnDS 0 j31 d31 := by rw [hj31, ← hd31]; exact Dq31
  refine OwnGo.pre (fun t k => XS.aloadN X30.here hx rfl (hb hby d3_43) rfl rfl (XS.iload X30.here hx rfl (hb hby d3_44) rfl (XS.dload X30.here hx rfl (hb hby d3_46) rfl (XS.dload X30.here hx rfl (hb hby d3_48) rfl (XS.daddS X30.here hx rfl (hb hby d3_50) rfl (own_nn Dq31) hd31 k))))) ?_
  show OwnGo _ _ _ _ (T30.setTop (mkF m 51 #[sR o0, sR o1, sR o2, sR o3, sR o4, sR o5, sI (2 : Int32), sI (1 : Int32), sD u0_1, uS, sD u1_1, uS, sD u2_1, uS, sD u3_1, uS, sD d19, uS, sD d20, uS] [(.double d31), (.int (1 : Int32)), (.ref o1)]))
  obtain ⟨T32, h32, X32, e32, W32, A32, st32⟩ := own_daS X30 hx hZ e30 A30_o1 (by decide) (i := 1) (by decide) (by show 1 < 2; decide) (g := (mkF m 51 #[sR o0, sR o1, sR o2, sR o3, sR o4, sR o5, sI (2 : Int32), sI (1 : Int32), sD u0_1, uS, sD u1_1, uS, sD u2_1, uS, sD u3_1, uS, sD d19, uS, sD d20, uS] [(.double d31), (.int (1 : Int32)), (.ref o1)])) rfl rfl (hb hby d3_51)
  have A32n : OwnDA Z h32 o1 [d17, d31] := A32
  have A32_o0 := A30n.ot W32 ne0_1
  have A32_o2 := A30_o2.ot W32 ne1_2.symm
  have A32_o3 := A30_o3.ot W32 ne1_3.symm
  have A32_o4 := A30_o4.ot W32 ne1_4.symm
  have A32_o5 := A30_o5.ot W32 ne1_5.symm
  have N32 := Fr.snoc X32 N30 g1
  have Z32 : n0 ≤ h32.size := by rw [W32.size]; exact Z30
  refine OwnGo.pre (fun t k => st32 t k) ?_
  show OwnGo _ _ _ _ (T32.setTop (mkF m 52 #[sR o0, sR o1, sR o2, sR o3, sR o4, sR o5, sI (2 : Int32), sI (1 : Int32), sD u0_1, uS, sD u1_1, uS, sD u2_1, uS, sD u3_1, uS, sD d19, uS, sD d20, uS] []))
  have Dq33 : OwnDS 0 (i0_1 - i2_1) (FP.dsub u0_1 u2_1) := own_ds_sub (n := 53) D0_1 D2_1 (own_bd_nat (C := 1048576) (own_bd_sub B0_1 B2_1 (by decide)) (by decide))
  obtain ⟨d33, hd33⟩ : ∃ v, FP.dsub u0_1 u2_1 = v := ⟨_, rfl⟩
  obtain ⟨j33, hj33⟩ : ∃ i : Int, i = i0_1 - i2_1 := ⟨_, rfl⟩
  have B33 : -1048576 ≤ j33 ∧ j33 ≤ 1048576 := by rw [hj33]; exact own_bd_sub B0_1 B2_1 (by decide)
  have D33 : OwnDS 0 j33 d33 := by rw [hj33, ← hd33]; exact Dq33
  have Dq34 : OwnDS 0 (i1_1 - i3_1) (FP.dsub u1_1 u3_1) := own_ds_sub (n := 53) D1_1 D3_1 (own_bd_nat (C := 1048576) (own_bd_sub B1_1 B3_1 (by decide)) (by decide))
  obtain ⟨d34, hd34⟩ : ∃ v, FP.dsub u1_1 u3_1 = v := ⟨_, rfl⟩
  obtain ⟨j34, hj34⟩ : ∃ i : Int, i = i1_1 - i3_1 := ⟨_, rfl⟩
  have B34 : -1048576 ≤ j34 ∧ j34 ≤ 1048576 := by rw [hj34]; exact own_bd_sub B1_1 B3_1 (by decide)
  have D34 : OwnDS 0 j34 d34 := by rw [hj34, ← hd34]; exact Dq34
  refine OwnGo.pre (fun t k => XS.dload X32.here hx rfl (hb hby d3_52) rfl (XS.dload X32.here hx rfl (hb hby d3_54) rfl (XS.dsubS X32.here hx rfl (hb hby d3_56) rfl (own_nn Dq33) hd33 (XS.dstore X32.here hx rfl (hb hby d3_57) rfl (l' := #[sR o0, sR o1, sR o2, sR o3, sR o4, sR o5, sI (2 : Int32), sI (1 : Int32), sD u0_1, uS, sD u1_1, uS, sD u2_1, uS, sD u3_1, uS, sD d33, uS, sD d20, uS]) rfl (XS.dload X32.here hx rfl (hb hby d3_59) rfl (XS.dload X32.here hx rfl (hb hby d3_61) rfl (XS.dsubS X32.here hx rfl (hb hby d3_63) rfl (own_nn Dq34) hd34 (XS.dstore X32.here hx rfl (hb hby d3_64) rfl (l' := #[sR o0, sR o1, sR o2, sR o3, sR o4, sR o5, sI (2 : Int32), sI (1 : Int32), sD u0_1, uS, sD u1_1, uS, sD u2_1, uS, sD u3_1, uS, sD d33, uS, sD d34, uS]) rfl k)))))))) ?_
  show OwnGo _ _ _ _ (T32.setTop (mkF m 66 #[sR o0, sR o1, sR o2, sR o3, sR o4, sR o5, sI (2 : Int32), sI (1 : Int32), sD u0_1, uS, sD u1_1, uS, sD u2_1, uS, sD u3_1, uS, sD d33, uS, sD d34, uS] []))
  obtain ⟨j35, hj35⟩ : ∃ i : Int, i = j33 * i4_1 := ⟨_, rfl⟩
  have B35 : -549755813888 ≤ j35 ∧ j35 ≤ 549755813888 := by rw [hj35]; exact own_bd_mul B33 B4_1 (by decide)
  have Dq35 : OwnDS 0 j35 (FP.dmul d33 u4_1) := by rw [hj35]; have q := own_ds_mul (n := 53) D33 D4_1 (own_bd_nat (C := 549755813888) (own_bd_mul B33 B4_1 (by decide)) (by decide)); exact q
  obtain ⟨d35, hd35⟩ : ∃ v, FP.dmul d33 u4_1 = v := ⟨_, rfl⟩
  have D35 : OwnDS 0 j35 d35 := by rw [← hd35]; exact Dq35
  refine OwnGo.pre (fun t k => XS.aloadN X32.here hx rfl (hb hby d3_66) rfl rfl (XS.iload X32.here hx rfl (hb hby d3_67) rfl (XS.dload X32.here hx rfl (hb hby d3_69) rfl (XS.aload X32.here hx rfl (hb hby d3_71) rfl rfl (XS.iload X32.here hx rfl (hb hby d3_73) rfl (own_daL X32 hx hZ e32 A32_o4 (j := (1 : Int32)) (by decide) (i := 1) (by decide) (x := u4_1) rfl (g := (mkF m 75 #[sR o0, sR o1, sR o2, sR o3, sR o4, sR o5, sI (2 : Int32), sI (1 : Int32), sD u0_1, uS, sD u1_1, uS, sD u2_1, uS, sD u3_1, uS, sD d33, uS, sD d34, uS] [(.int (1 : Int32)), (.ref o4), (.double d33), (.int (1 : Int32)), (.ref o2)])) rfl (rest := [(.double d33), (.int (1 : Int32)), (.ref o2)]) rfl (hb hby d3_75) (XS.dmulS X32.here hx rfl (hb hby d3_76) rfl (own_nn Dq35) hd35 (XS.dload X32.here hx rfl (hb hby d3_77) rfl k)))))))) ?_
  show OwnGo _ _ _ _ (T32.setTop (mkF m 79 #[sR o0, sR o1, sR o2, sR o3, sR o4, sR o5, sI (2 : Int32), sI (1 : Int32), sD u0_1, uS, sD u1_1, uS, sD u2_1, uS, sD u3_1, uS, sD d33, uS, sD d34, uS] [(.double d34), (.double d35), (.int (1 : Int32)), (.ref o2)]))
  obtain ⟨j36, hj36⟩ : ∃ i : Int, i = j34 * i5_1 := ⟨_, rfl⟩
  have B36 : -549755813888 ≤ j36 ∧ j36 ≤ 549755813888 := by rw [hj36]; exact own_bd_mul B34 B5_1 (by decide)
  have Dq36 : OwnDS 0 j36 (FP.dmul d34 u5_1) := by rw [hj36]; have q := own_ds_mul (n := 53) D34 D5_1 (own_bd_nat (C := 549755813888) (own_bd_mul B34 B5_1 (by decide)) (by decide)); exact q
  obtain ⟨d36, hd36⟩ : ∃ v, FP.dmul d34 u5_1 = v := ⟨_, rfl⟩
  have D36 : OwnDS 0 j36 d36 := by rw [← hd36]; exact Dq36
  have Dq37 : OwnDS 0 (j35 + j36) (FP.dadd d35 d36) := own_ds_add (n := 53) D35 D36 (own_bd_nat (C := 1099511627776) (own_bd_add B35 B36 (by decide)) (by decide))
  obtain ⟨d37, hd37⟩ : ∃ v, FP.dadd d35 d36 = v := ⟨_, rfl⟩
  obtain ⟨j37, hj37⟩ : ∃ i : Int, i = j35 + j36 := ⟨_, rfl⟩
  have B37 : -1099511627776 ≤ j37 ∧ j37 ≤ 1099511627776 := by rw [hj37]; exact own_bd_add B35 B36 (by decide)
  have D37 : OwnDS 0 j37 d37 := by rw [hj37, ← hd37]; exact Dq37
  refine OwnGo.pre (fun t k => XS.aload X32.here hx rfl (hb hby d3_79) rfl rfl (XS.iload X32.here hx rfl (hb hby d3_81) rfl (own_daL X32 hx hZ e32 A32_o5 (j := (1 : Int32)) (by decide) (i := 1) (by decide) (x := u5_1) rfl (g := (mkF m 83 #[sR o0, sR o1, sR o2, sR o3, sR o4, sR o5, sI (2 : Int32), sI (1 : Int32), sD u0_1, uS, sD u1_1, uS, sD u2_1, uS, sD u3_1, uS, sD d33, uS, sD d34, uS] [(.int (1 : Int32)), (.ref o5), (.double d34), (.double d35), (.int (1 : Int32)), (.ref o2)])) rfl (rest := [(.double d34), (.double d35), (.int (1 : Int32)), (.ref o2)]) rfl (hb hby d3_83) (XS.dmulS X32.here hx rfl (hb hby d3_84) rfl (own_nn Dq36) hd36 (XS.daddS X32.here hx rfl (hb hby d3_85) rfl (own_nn Dq37) hd37 k))))) ?_
  show OwnGo _ _ _ _ (T32.setTop (mkF m 86 #[sR o0, sR o1, sR o2, sR o3, sR o4, sR o5, sI (2 : Int32), sI (1 : Int32), sD u0_1, uS, sD u1_1, uS, sD u2_1, uS, sD u3_1, uS, sD d33, uS, sD d34, uS] [(.double d37), (.int (1 : Int32)), (.ref o2)]))
  obtain ⟨T38, h38, X38, e38, W38, A38, st38⟩ := own_daS X32 hx hZ e32 A32_o2 (by decide) (i := 1) (by decide) (by show 1 < 2; decide) (g := (mkF m 86 #[sR o0, sR o1, sR o2, sR o3, sR o4, sR o5, sI (2 : Int32), sI (1 : Int32), sD u0_1, uS, sD u1_1, uS, sD u2_1, uS, sD u3_1, uS, sD d33, uS, sD d34, uS] [(.double d37), (.int (1 : Int32)), (.ref o2)])) rfl rfl (hb hby d3_86)
  have A38n : OwnDA Z h38 o2 [d23, d37] := A38
  have A38_o0 := A32_o0.ot W38 ne0_2
  have A38_o1 := A32n.ot W38 ne1_2
  have A38_o3 := A32_o3.ot W38 ne2_3.symm
  have A38_o4 := A32_o4.ot W38 ne2_4.symm
  have A38_o5 := A32_o5.ot W38 ne2_5.symm
  have N38 := Fr.snoc X38 N32 g2
  have Z38 : n0 ≤ h38.size := by rw [W38.size]; exact Z32
  refine OwnGo.pre (fun t k => st38 t k) ?_
  show OwnGo _ _ _ _ (T38.setTop (mkF m 87 #[sR o0, sR o1, sR o2, sR o3, sR o4, sR o5, sI (2 : Int32), sI (1 : Int32), sD u0_1, uS, sD u1_1, uS, sD u2_1, uS, sD u3_1, uS, sD d33, uS, sD d34, uS] []))
  obtain ⟨j39, hj39⟩ : ∃ i : Int, i = j34 * i4_1 := ⟨_, rfl⟩
  have B39 : -549755813888 ≤ j39 ∧ j39 ≤ 549755813888 := by rw [hj39]; exact own_bd_mul B34 B4_1 (by decide)
  have Dq39 : OwnDS 0 j39 (FP.dmul d34 u4_1) := by rw [hj39]; have q := own_ds_mul (n := 53) D34 D4_1 (own_bd_nat (C := 549755813888) (own_bd_mul B34 B4_1 (by decide)) (by decide)); exact q
  obtain ⟨d39, hd39⟩ : ∃ v, FP.dmul d34 u4_1 = v := ⟨_, rfl⟩
  have D39 : OwnDS 0 j39 d39 := by rw [← hd39]; exact Dq39
  refine OwnGo.pre (fun t k => XS.aloadN X38.here hx rfl (hb hby d3_87) rfl rfl (XS.iload X38.here hx rfl (hb hby d3_88) rfl (XS.dload X38.here hx rfl (hb hby d3_90) rfl (XS.aload X38.here hx rfl (hb hby d3_92) rfl rfl (XS.iload X38.here hx rfl (hb hby d3_94) rfl (own_daL X38 hx hZ e38 A38_o4 (j := (1 : Int32)) (by decide) (i := 1) (by decide) (x := u4_1) rfl (g := (mkF m 96 #[sR o0, sR o1, sR o2, sR o3, sR o4, sR o5, sI (2 : Int32), sI (1 : Int32), sD u0_1, uS, sD u1_1, uS, sD u2_1, uS, sD u3_1, uS, sD d33, uS, sD d34, uS] [(.int (1 : Int32)), (.ref o4), (.double d34), (.int (1 : Int32)), (.ref o3)])) rfl (rest := [(.double d34), (.int (1 : Int32)), (.ref o3)]) rfl (hb hby d3_96) (XS.dmulS X38.here hx rfl (hb hby d3_97) rfl (own_nn Dq39) hd39 (XS.dload X38.here hx rfl (hb hby d3_98) rfl k)))))))) ?_
  show OwnGo _ _ _ _ (T38.setTop (mkF m 100 #[sR o0, sR o1, sR o2, sR o3, sR o4, sR o5, sI (2 : Int32), sI (1 : Int32), sD u0_1, uS, sD u1_1, uS, sD u2_1, uS, sD u3_1, uS, sD d33, uS, sD d34, uS] [(.double d33), (.double d39), (.int (1 : Int32)), (.ref o3)]))
  obtain ⟨j40, hj40⟩ : ∃ i : Int, i = j33 * i5_1 := ⟨_, rfl⟩
  have B40 : -549755813888 ≤ j40 ∧ j40 ≤ 549755813888 := by rw [hj40]; exact own_bd_mul B33 B5_1 (by decide)
  have Dq40 : OwnDS 0 j40 (FP.dmul d33 u5_1) := by rw [hj40]; have q := own_ds_mul (n := 53) D33 D5_1 (own_bd_nat (C := 549755813888) (own_bd_mul B33 B5_1 (by decide)) (by decide)); exact q
  obtain ⟨d40, hd40⟩ : ∃ v, FP.dmul d33 u5_1 = v := ⟨_, rfl⟩
  have D40 : OwnDS 0 j40 d40 := by rw [← hd40]; exact Dq40
  have Dq41 : OwnDS 0 (j39 - j40) (FP.dsub d39 d40) := own_ds_sub (n := 53) D39 D40 (own_bd_nat (C := 1099511627776) (own_bd_sub B39 B40 (by decide)) (by decide))
  obtain ⟨d41, hd41⟩ : ∃ v, FP.dsub d39 d40 = v := ⟨_, rfl⟩
  obtain ⟨j41, hj41⟩ : ∃ i : Int, i = j39 - j40 := ⟨_, rfl⟩
  have B41 : -1099511627776 ≤ j41 ∧ j41 ≤ 1099511627776 := by rw [hj41]; exact own_bd_sub B39 B40 (by decide)
  have D41 : OwnDS 0 j41 d41 := by rw [hj41, ← hd41]; exact Dq41
  refine OwnGo.pre (fun t k => XS.aload X38.here hx rfl (hb hby d3_100) rfl rfl (XS.iload X38.here hx rfl (hb hby d3_102) rfl (own_daL X38 hx hZ e38 A38_o5 (j := (1 : Int32)) (by decide) (i := 1) (by decide) (x := u5_1) rfl (g := (mkF m 104 #[sR o0, sR o1, sR o2, sR o3, sR o4, sR o5, sI (2 : Int32), sI (1 : Int32), sD u0_1, uS, sD u1_1, uS, sD u2_1, uS, sD u3_1, uS, sD d33, uS, sD d34, uS] [(.int (1 : Int32)), (.ref o5), (.double d33), (.double d39), (.int (1 : Int32)), (.ref o3)])) rfl (rest := [(.double d33), (.double d39), (.int (1 : Int32)), (.ref o3)]) rfl (hb hby d3_104) (XS.dmulS X38.here hx rfl (hb hby d3_105) rfl (own_nn Dq40) hd40 (XS.dsubS X38.here hx rfl (hb hby d3_106) rfl (own_nn Dq41) hd41 k))))) ?_
  show OwnGo _ _ _ _ (T38.setTop (mkF m 107 #[sR o0, sR o1, sR o2, sR o3, sR o4, sR o5, sI (2 : Int32), sI (1 : Int32), sD u0_1, uS, sD u1_1, uS, sD u2_1, uS, sD u3_1, uS, sD d33, uS, sD d34, uS] [(.double d41), (.int (1 : Int32)), (.ref o3)]))
  obtain ⟨T42, h42, X42, e42, W42, A42, st42⟩ := own_daS X38 hx hZ e38 A38_o3 (by decide) (i := 1) (by decide) (by show 1 < 2; decide) (g := (mkF m 107 #[sR o0, sR o1, sR o2, sR o3, sR o4, sR o5, sI (2 : Int32), sI (1 : Int32), sD u0_1, uS, sD u1_1, uS, sD u2_1, uS, sD u3_1, uS, sD d33, uS, sD d34, uS] [(.double d41), (.int (1 : Int32)), (.ref o3)])) rfl rfl (hb hby d3_107)
  have A42n : OwnDA Z h42 o3 [d27, d41] := A42
  have A42_o0 := A38_o0.ot W42 ne0_3
  have A42_o1 := A38_o1.ot W42 ne1_3
  have A42_o2 := A38n.ot W42 ne2_3
  have A42_o4 := A38_o4.ot W42 ne3_4.symm
  have A42_o5 := A38_o5.ot W42 ne3_5.symm
  have N42 := Fr.snoc X42 N38 g3
  have Z42 : n0 ≤ h42.size := by rw [W42.size]; exact Z38
  refine OwnGo.pre (fun t k => st42 t k) ?_
  show OwnGo _ _ _ _ (T42.setTop (mkF m 108 #[sR o0, sR o1, sR o2, sR o3, sR o4, sR o5, sI (2 : Int32), sI (1 : Int32), sD u0_1, uS, sD u1_1, uS, sD u2_1, uS, sD u3_1, uS, sD d33, uS, sD d34, uS] []))
  rw [← e42] at A42_o0 A42_o1 A42_o2 A42n A42_o4 A42_o5 Z42
  refine OwnGo.pre (fun t k => XS.iinc X42.here hx rfl (hb hby d3_108) rfl (l' := #[sR o0, sR o1, sR o2, sR o3, sR o4, sR o5, sI (2 : Int32), sI (2 : Int32), sD u0_1, uS, sD u1_1, uS, sD u2_1, uS, sD u3_1, uS, sD d33, uS, sD d34, uS]) rfl (XS.goto X42.here hx rfl (pc0 := 111) (pc' := 3) rfl (hb hby d3_111) (by decide) (by decide) (XS.iload X42.here hx rfl (hb hby d3_3) rfl (XS.iload X42.here hx rfl (hb hby d3_5) rfl (XS.icmpYes X42.here hx rfl (pc0 := 7) (pc' := 114) rfl (hb hby d3_7) rfl (by decide) (by decide) (by decide) k))))) ?_
  show OwnGo _ _ _ _ (T42.setTop (mkF m 114 #[sR o0, sR o1, sR o2, sR o3, sR o4, sR o5, sI (2 : Int32), sI (2 : Int32), sD u0_1, uS, sD u1_1, uS, sD u2_1, uS, sD u3_1, uS, sD d33, uS, sD d34, uS] []))
  exact own_ret0 X42 hx hk hrt (hb hby d3_114) ⟨_, _, _, _, _, _, _, _, rfl, ((by simp only [hj15] : j15 = i0_0 + i2_0) ▸ D15), ((by simp only [hj17] : j17 = i1_0 + i3_0) ▸ D17), ((by simp only [hj23, hj21, hj19, hj22, hj20] : j23 = (i0_0 - i2_0) * i4_0 + (i1_0 - i3_0) * i5_0) ▸ D23), ((by simp only [hj27, hj25, hj20, hj26, hj19] : j27 = (i1_0 - i3_0) * i4_0 - (i0_0 - i2_0) * i5_0) ▸ D27), ((by simp only [hj29] : j29 = i0_1 + i2_1) ▸ D29), ((by simp only [hj31] : j31 = i1_1 + i3_1) ▸ D31), ((by simp only [hj37, hj35, hj33, hj36, hj34] : j37 = (i0_1 - i2_1) * i4_1 + (i1_1 - i3_1) * i5_1) ▸ D37), ((by simp only [hj41, hj39, hj34, hj40, hj33] : j41 = (i1_1 - i3_1) * i4_1 - (i0_1 - i2_1) * i5_1) ▸ D41), A42_o0, A42_o1, A42_o2, A42n, A42_o4, A42_o5, N42, Z42⟩ (by decide) (by decide)
theorem d4_0 : decode method_4_code 0 = .ok (.aload 6, 2) := by decide +kernel
theorem d4_2 : decode method_4_code 2 = .ok (.iload_n 0, 1) := by decide +kernel
theorem d4_3 : decode method_4_code 3 = .ok (.daload, 1) := by decide +kernel
theorem d4_4 : decode method_4_code 4 = .ok (.lload 16, 2) := by decide +kernel
theorem d4_6 : decode method_4_code 6 = .ok (.l2d, 1) := by decide +kernel
theorem d4_7 : decode method_4_code 7 = .ok (.dcmp .l, 1) := by decide +kernel
theorem d4_8 : decode method_4_code 8 = .ok (.ifCond .ne 14, 3) := by decide +kernel
theorem d4_11 : decode method_4_code 11 = .ok (.aload 7, 2) := by decide +kernel
theorem d4_13 : decode method_4_code 13 = .ok (.iload_n 0, 1) := by decide +kernel
theorem d4_14 : decode method_4_code 14 = .ok (.daload, 1) := by decide +kernel
theorem d4_15 : decode method_4_code 15 = .ok (.lload 18, 2) := by decide +kernel
theorem d4_17 : decode method_4_code 17 = .ok (.l2d, 1) := by decide +kernel
theorem d4_18 : decode method_4_code 18 = .ok (.dcmp .l, 1) := by decide +kernel
theorem d4_19 : decode method_4_code 19 = .ok (.ifCond .eq 5, 3) := by decide +kernel
theorem d4_22 : decode method_4_code 22 = .ok (.iconst 0, 1) := by decide +kernel
theorem d4_23 : decode method_4_code 23 = .ok (.ireturn, 1) := by decide +kernel
theorem d4_24 : decode method_4_code 24 = .ok (.iload_n 0, 1) := by decide +kernel
theorem d4_25 : decode method_4_code 25 = .ok (.iload_n 1, 1) := by decide +kernel
theorem d4_26 : decode method_4_code 26 = .ok (.if_icmp .ge 89, 3) := by decide +kernel
theorem d4_29 : decode method_4_code 29 = .ok (.lload 8, 2) := by decide +kernel
theorem d4_31 : decode method_4_code 31 = .ok (.lload 12, 2) := by decide +kernel
theorem d4_33 : decode method_4_code 33 = .ok (.lsub, 1) := by decide +kernel
theorem d4_34 : decode method_4_code 34 = .ok (.lstore 20, 2) := by decide +kernel
theorem d4_36 : decode method_4_code 36 = .ok (.lload 10, 2) := by decide +kernel
theorem d4_38 : decode method_4_code 38 = .ok (.lload 14, 2) := by decide +kernel
theorem d4_40 : decode method_4_code 40 = .ok (.lsub, 1) := by decide +kernel
theorem d4_41 : decode method_4_code 41 = .ok (.lstore 22, 2) := by decide +kernel
theorem d4_43 : decode method_4_code 43 = .ok (.aload_n 2, 1) := by decide +kernel
theorem d4_44 : decode method_4_code 44 = .ok (.iload_n 0, 1) := by decide +kernel
theorem d4_45 : decode method_4_code 45 = .ok (.daload, 1) := by decide +kernel
theorem d4_46 : decode method_4_code 46 = .ok (.lload 8, 2) := by decide +kernel
theorem d4_48 : decode method_4_code 48 = .ok (.lload 12, 2) := by decide +kernel
theorem d4_50 : decode method_4_code 50 = .ok (.ladd, 1) := by decide +kernel
theorem d4_51 : decode method_4_code 51 = .ok (.l2d, 1) := by decide +kernel
theorem d4_52 : decode method_4_code 52 = .ok (.dcmp .l, 1) := by decide +kernel
theorem d4_53 : decode method_4_code 53 = .ok (.ifCond .ne 60, 3) := by decide +kernel
theorem d4_56 : decode method_4_code 56 = .ok (.aload_n 3, 1) := by decide +kernel
theorem d4_57 : decode method_4_code 57 = .ok (.iload_n 0, 1) := by decide +kernel
theorem d4_58 : decode method_4_code 58 = .ok (.daload, 1) := by decide +kernel
theorem d4_59 : decode method_4_code 59 = .ok (.lload 10, 2) := by decide +kernel
theorem d4_61 : decode method_4_code 61 = .ok (.lload 14, 2) := by decide +kernel
theorem d4_63 : decode method_4_code 63 = .ok (.ladd, 1) := by decide +kernel
theorem d4_64 : decode method_4_code 64 = .ok (.l2d, 1) := by decide +kernel
theorem d4_65 : decode method_4_code 65 = .ok (.dcmp .l, 1) := by decide +kernel
theorem d4_66 : decode method_4_code 66 = .ok (.ifCond .ne 47, 3) := by decide +kernel
theorem d4_69 : decode method_4_code 69 = .ok (.aload 4, 2) := by decide +kernel
theorem d4_71 : decode method_4_code 71 = .ok (.iload_n 0, 1) := by decide +kernel
theorem d4_72 : decode method_4_code 72 = .ok (.daload, 1) := by decide +kernel
theorem d4_73 : decode method_4_code 73 = .ok (.lload 20, 2) := by decide +kernel
theorem d4_75 : decode method_4_code 75 = .ok (.lload 16, 2) := by decide +kernel
theorem d4_77 : decode method_4_code 77 = .ok (.lmul, 1) := by decide +kernel
theorem d4_78 : decode method_4_code 78 = .ok (.lload 22, 2) := by decide +kernel
theorem d4_80 : decode method_4_code 80 = .ok (.lload 18, 2) := by decide +kernel
theorem d4_82 : decode method_4_code 82 = .ok (.lmul, 1) := by decide +kernel
theorem d4_83 : decode method_4_code 83 = .ok (.ladd, 1) := by decide +kernel
theorem d4_84 : decode method_4_code 84 = .ok (.l2d, 1) := by decide +kernel
theorem d4_85 : decode method_4_code 85 = .ok (.dcmp .l, 1) := by decide +kernel
theorem d4_86 : decode method_4_code 86 = .ok (.ifCond .ne 27, 3) := by decide +kernel
theorem d4_89 : decode method_4_code 89 = .ok (.aload 5, 2) := by decide +kernel
theorem d4_91 : decode method_4_code 91 = .ok (.iload_n 0, 1) := by decide +kernel
theorem d4_92 : decode method_4_code 92 = .ok (.daload, 1) := by decide +kernel
theorem d4_93 : decode method_4_code 93 = .ok (.lload 22, 2) := by decide +kernel
theorem d4_95 : decode method_4_code 95 = .ok (.lload 16, 2) := by decide +kernel
theorem d4_97 : decode method_4_code 97 = .ok (.lmul, 1) := by decide +kernel
theorem d4_98 : decode method_4_code 98 = .ok (.lload 20, 2) := by decide +kernel
theorem d4_100 : decode method_4_code 100 = .ok (.lload 18, 2) := by decide +kernel
theorem d4_102 : decode method_4_code 102 = .ok (.lmul, 1) := by decide +kernel
theorem d4_103 : decode method_4_code 103 = .ok (.lsub, 1) := by decide +kernel
theorem d4_104 : decode method_4_code 104 = .ok (.l2d, 1) := by decide +kernel
theorem d4_105 : decode method_4_code 105 = .ok (.dcmp .l, 1) := by decide +kernel
theorem d4_106 : decode method_4_code 106 = .ok (.ifCond .ne 7, 3) := by decide +kernel
theorem d4_109 : decode method_4_code 109 = .ok (.iconst 1, 1) := by decide +kernel
theorem d4_110 : decode method_4_code 110 = .ok (.goto 4, 3) := by decide +kernel
theorem d4_113 : decode method_4_code 113 = .ok (.iconst 0, 1) := by decide +kernel
theorem d4_114 : decode method_4_code 114 = .ok (.ireturn, 1) := by decide +kernel
theorem d4_115 : decode method_4_code 115 = .ok (.aload_n 2, 1) := by decide +kernel
theorem d4_116 : decode method_4_code 116 = .ok (.iload_n 0, 1) := by decide +kernel
theorem d4_117 : decode method_4_code 117 = .ok (.daload, 1) := by decide +kernel
theorem d4_118 : decode method_4_code 118 = .ok (.lload 8, 2) := by decide +kernel
theorem d4_120 : decode method_4_code 120 = .ok (.l2d, 1) := by decide +kernel
theorem d4_121 : decode method_4_code 121 = .ok (.dcmp .l, 1) := by decide +kernel
theorem d4_122 : decode method_4_code 122 = .ok (.ifCond .ne 39, 3) := by decide +kernel
theorem d4_125 : decode method_4_code 125 = .ok (.aload_n 3, 1) := by decide +kernel
theorem d4_126 : decode method_4_code 126 = .ok (.iload_n 0, 1) := by decide +kernel
theorem d4_127 : decode method_4_code 127 = .ok (.daload, 1) := by decide +kernel
theorem d4_128 : decode method_4_code 128 = .ok (.lload 10, 2) := by decide +kernel
theorem d4_130 : decode method_4_code 130 = .ok (.l2d, 1) := by decide +kernel
theorem d4_131 : decode method_4_code 131 = .ok (.dcmp .l, 1) := by decide +kernel
theorem d4_132 : decode method_4_code 132 = .ok (.ifCond .ne 29, 3) := by decide +kernel
theorem d4_135 : decode method_4_code 135 = .ok (.aload 4, 2) := by decide +kernel
theorem d4_137 : decode method_4_code 137 = .ok (.iload_n 0, 1) := by decide +kernel
theorem d4_138 : decode method_4_code 138 = .ok (.daload, 1) := by decide +kernel
theorem d4_139 : decode method_4_code 139 = .ok (.lload 12, 2) := by decide +kernel
theorem d4_141 : decode method_4_code 141 = .ok (.l2d, 1) := by decide +kernel
theorem d4_142 : decode method_4_code 142 = .ok (.dcmp .l, 1) := by decide +kernel
theorem d4_143 : decode method_4_code 143 = .ok (.ifCond .ne 18, 3) := by decide +kernel
theorem d4_146 : decode method_4_code 146 = .ok (.aload 5, 2) := by decide +kernel
theorem d4_148 : decode method_4_code 148 = .ok (.iload_n 0, 1) := by decide +kernel
theorem d4_149 : decode method_4_code 149 = .ok (.daload, 1) := by decide +kernel
theorem d4_150 : decode method_4_code 150 = .ok (.lload 14, 2) := by decide +kernel
theorem d4_152 : decode method_4_code 152 = .ok (.l2d, 1) := by decide +kernel
theorem d4_153 : decode method_4_code 153 = .ok (.dcmp .l, 1) := by decide +kernel
theorem d4_154 : decode method_4_code 154 = .ok (.ifCond .ne 7, 3) := by decide +kernel
theorem d4_157 : decode method_4_code 157 = .ok (.iconst 1, 1) := by decide +kernel
theorem d4_158 : decode method_4_code 158 = .ok (.goto 4, 3) := by decide +kernel
theorem d4_161 : decode method_4_code 161 = .ok (.iconst 0, 1) := by decide +kernel
theorem d4_162 : decode method_4_code 162 = .ok (.ireturn, 1) := by decide +kernel
theorem pn_rmC0l : plainName "com/example/isochron/isochron/dsp/RowButterfliesForwardPinLaw" = true := by first | (simp [plainName, overriddenIn]; done) | decide +kernel
theorem pd_rmC0l : parseMethodDescriptor "(II[D[D[D[D[D[DJJJJJJ)Z" = some ⟨[.int, .int, (.array .double), (.array .double), (.array .double), (.array .double), (.array .double), (.array .double), .long, .long, .long, .long, .long, .long], (some .boolean)⟩ := by decide +kernel
theorem ef_rmC0l (m : MethodId) (cnt : Int32) (o0 o1 o2 o3 o4 o5 : Addr) (u0_0 u0_1 u1_0 u1_1 u2_0 u2_1 u3_0 u3_1 u4_0 u4_1 u5_0 u5_1 : UInt64) (q0 q1 q2 q3 q4 q5 : Int64) (i0 i1 i2 i3 i4 i5 : Int) : entryFrame m #[(.int (0 : Int32)), (.int cnt), (.ref o0), (.ref o1), (.ref o2), (.ref o3), (.ref o4), (.ref o5), (.long q0), (.long q1), (.long q2), (.long q3), (.long q4), (.long q5)] 24 = (mkF m 0 #[sI (0 : Int32), sI cnt, sR o0, sR o1, sR o2, sR o3, sR o4, sR o5, sJ q0, uS, sJ q1, uS, sJ q2, uS, sJ q3, uS, sJ q4, uS, sJ q5, uS, uU, uU, uU, uU] []) := by first | (simp [entryFrame, mkF, argsToLocals, Value.category, maxLocals]; done) | rfl
def Q_rmC0l (Z : State) (cnt : Int32) (o0 o1 o2 o3 o4 o5 : Addr) (u0_0 u0_1 u1_0 u1_1 u2_0 u2_1 u3_0 u3_1 u4_0 u4_1 u5_0 u5_1 : UInt64) (q0 q1 q2 q3 q4 q5 : Int64) (i0 i1 i2 i3 i4 i5 : Int) (h0 : Heap) (n0 : Nat) (v : Option Value) (h : Heap) (L : List Loc) : Prop := v = some (.int 1) ∧ Fr n0 L ∧ h = h0
set_option maxRecDepth 65536 in
set_option maxHeartbeats 40000000 in
theorem rmC0l (l : Launch) (Z : State) (a0 : Array Value) (hw : ∀ d ∈ tables_1, d.before a0 Z = true) (ws : List Jvm.Cond) (cnt : Int32) (o0 o1 o2 o3 o4 o5 : Addr) (u0_0 u0_1 u1_0 u1_1 u2_0 u2_1 u3_0 u3_1 u4_0 u4_1 u5_0 u5_1 : UInt64) (q0 q1 q2 q3 q4 q5 : Int64) (i0 i1 i2 i3 i4 i5 : Int) (h0 : Heap) (n0 : Nat) (Z0 : n0 ≤ h0.size) (Aa0 : OwnDA Z h0 o0 [u0_0, u0_1]) (Aa1 : OwnDA Z h0 o1 [u1_0, u1_1]) (Aa2 : OwnDA Z h0 o2 [u2_0, u2_1]) (Aa3 : OwnDA Z h0 o3 [u3_0, u3_1]) (Aa4 : OwnDA Z h0 o4 [u4_0, u4_1]) (Aa5 : OwnDA Z h0 o5 [u5_0, u5_1]) (Dd0 : OwnDS 0 (i0 + i2) u0_0) (Dd1 : OwnDS 0 (i1 + i3) u1_0) (Dd2 : OwnDS 0 ((i0 - i2) * i4 + (i1 - i3) * i5) u2_0) (Dd3 : OwnDS 0 ((i1 - i3) * i4 - (i0 - i2) * i5) u3_0) (Dd4 : OwnDS 0 (i4) u4_0) (Dd5 : OwnDS 0 (i5) u5_0) (Ff0 : q0.toInt = i0) (Bb0 : -524288 ≤ i0 ∧ i0 ≤ 524288) (Ff1 : q1.toInt = i1) (Bb1 : -524288 ≤ i1 ∧ i1 ≤ 524288) (Ff2 : q2.toInt = i2) (Bb2 : -524288 ≤ i2 ∧ i2 ≤ 524288) (Ff3 : q3.toInt = i3) (Bb3 : -524288 ≤ i3 ∧ i3 ≤ 524288) (Ff4 : q4.toInt = i4) (Bb4 : -524288 ≤ i4 ∧ i4 ≤ 524288) (Ff5 : q5.toInt = i5) (Bb5 : -524288 ≤ i5 ∧ i5 ≤ 524288) (hcnt : 0 < cnt.toInt) :
    MetFree l (⟨"com/example/isochron/isochron/dsp/RowButterfliesForwardPinLaw", "check", "(II[D[D[D[D[D[DJJJJJJ)Z"⟩ : MethodName) (head1 (Jvm.Cond.code (⟨"com/example/isochron/isochron/dsp/RowButterfliesForwardPinLaw", "check", "(II[D[D[D[D[D[DJJJJJJ)Z"⟩ : MethodName) method_4_code 24 (some .boolean) :: ws) ({ frames := 0, cells := 0, slots := 0, locals := 0 } : Room)) (fun a U => a = #[(.int (0 : Int32)), (.int cnt), (.ref o0), (.ref o1), (.ref o2), (.ref o3), (.ref o4), (.ref o5), (.long q0), (.long q1), (.long q2), (.long q3), (.long q4), (.long q5)] ∧ Z.Warmed39 U.vm ∧ U.heap = h0) (fun _ _ _ _ _ => True) (fun _ U oO U' => ∃ v L, oO = .returned v ∧ Q_rmC0l Z cnt o0 o1 o2 o3 o4 o5 u0_0 u0_1 u1_0 u1_1 u2_0 u2_1 u3_0 u3_1 u4_0 u4_1 u5_0 u5_1 q0 q1 q2 q3 q4 q5 i0 i1 i2 i3 i4 i5 h0 n0 v U'.heap L ∧ FrameEnd U oO U' L ({ frames := 0, cells := 0, slots := 0, locals := 0 } : Room).cells ({ frames := 0, cells := 0, slots := 0, locals := 0 } : Room).slots) := by
  refine MetFree.of_bodySF (plainFor_of_name pn_rmC0l) hisR ?_
  intro p e s m args below meth c s₁ Bd hml0 hP hK
  obtain ⟨rfl, hZ, hh⟩ := hP
  have hx := Bd.exec
  have hby := Bd.bytes
  have hml : c.maxLocals = 24 := hml0
  have hown : s.vm.findClass "com/example/isochron/isochron/dsp/RowButterfliesForwardPinLaw" = some m.cls := findClass_of_methodNamed Bd.named
  have hnm := (name_of_methodNamed Bd.named Bd.method).1
  have hk := Bd.notSynchronized
  have hrt := Bd.returns
  have X0 : Stand p l e ({ frames := 0, cells := 0, slots := 0, locals := 0 } : Room) s m #[(.int (0 : Int32)), (.int cnt), (.ref o0), (.ref o1), (.ref o2), (.ref o3), (.ref o4), (.ref o5), (.long q0), (.long q1), (.long q2), (.long q3), (.long q4), (.long q5)] below meth c s₁ [] 0 0 := Stand.of_body Bd
  have e0 : s₁.heap = h0 := by rw [← hh, Bd.state]; rfl
  have N0 := Fr.nil n0
  show OwnGo p.tables e below (OwnEnd s (Q_rmC0l Z cnt o0 o1 o2 o3 o4 o5 u0_0 u0_1 u1_0 u1_1 u2_0 u2_1 u3_0 u3_1 u4_0 u4_1 u5_0 u5_1 q0 q1 q2 q3 q4 q5 i0 i1 i2 i3 i4 i5 h0 n0) ({ frames := 0, cells := 0, slots := 0, locals := 0 } : Room).cells ({ frames := 0, cells := 0, slots := 0, locals := 0 } : Room).slots) _
  refine OwnGo.pre (fun t k => castTop (ef_rmC0l m cnt o0 o1 o2 o3 o4 o5 u0_0 u0_1 u1_0 u1_1 u2_0 u2_1 u3_0 u3_1 u4_0 u4_1 u5_0 u5_1 q0 q1 q2 q3 q4 q5 i0 i1 i2 i3 i4 i5) k) ?_
  show OwnGo _ _ _ _ (s₁.setTop (mkF m 0 #[sI (0 : Int32), sI cnt, sR o0, sR o1, sR o2, sR o3, sR o4, sR o5, sJ q0, uS, sJ q1, uS, sJ q2, uS, sJ q3, uS, sJ q4, uS, sJ q5, uS, uU, uU, uU, uU] []))
  obtain ⟨d43, hd43⟩ : ∃ v, FP.l2d q4 = v := ⟨_, rfl⟩
  have D43 : OwnDS 0 i4 d43 := by rw [← hd43]; exact own_l2db Ff4 Bb4 (by decide)
  refine OwnGo.pre (fun t k => XS.aload X0.here hx rfl (hb hby d4_0) rfl rfl (XS.iloadN X0.here hx rfl (hb hby d4_2) rfl (own_daL X0 hx hZ e0 Aa4 (j := (0 : Int32)) (by decide) (i := 0) (by decide) (x := u4_0) rfl (g := (mkF m 3 #[sI (0 : Int32), sI cnt, sR o0, sR o1, sR o2, sR o3, sR o4, sR o5, sJ q0, uS, sJ q1, uS, sJ q2, uS, sJ q3, uS, sJ q4, uS, sJ q5, uS, uU, uU, uU, uU] [(.int (0 : Int32)), (.ref o4)])) rfl (rest := []) rfl (hb hby d4_3) (XT.lload X0.here hx rfl (hb hby d4_4) rfl (XS.l2dS X0.here hx rfl (hb hby d4_6) rfl hd43 (XS.dcmpS X0.here hx rfl (hb hby d4_7) rfl rfl (XS.ifNo X0.here hx rfl (hb hby d4_8) rfl ((own_brD .ne Dd4 D43 _).trans (decide_eq_false (fun q => q rfl))) (XS.aload X0.here hx rfl (hb hby d4_11) rfl rfl k)))))))) ?_
  show OwnGo _ _ _ _ (s₁.setTop (mkF m 13 #[sI (0 : Int32), sI cnt, sR o0, sR o1, sR o2, sR o3, sR o4, sR o5, sJ q0, uS, sJ q1, uS, sJ q2, uS, sJ q3, uS, sJ q4, uS, sJ q5, uS, uU, uU, uU, uU] [(.ref o5)]))
  obtain ⟨d44, hd44⟩ : ∃ v, FP.l2d q5 = v := ⟨_, rfl⟩
  have D44 : OwnDS 0 i5 d44 := by rw [← hd44]; exact own_l2db Ff5 Bb5 (by decide)
  refine OwnGo.pre (fun t k => XS.iloadN X0.here hx rfl (hb hby d4_13) rfl (own_daL X0 hx hZ e0 Aa5 (j := (0 : Int32)) (by decide) (i := 0) (by decide) (x := u5_0) rfl (g := (mkF m 14 #[sI (0 : Int32), sI cnt, sR o0, sR o1, sR o2, sR o3, sR o4, sR o5, sJ q0, uS, sJ q1, uS, sJ q2, uS, sJ q3, uS, sJ q4, uS, sJ q5, uS, uU, uU, uU, uU] [(.int (0 : Int32)), (.ref o5)])) rfl (rest := []) rfl (hb hby d4_14) (XT.lload X0.here hx rfl (hb hby d4_15) rfl (XS.l2dS X0.here hx rfl (hb hby d4_17) rfl hd44 (XS.dcmpS X0.here hx rfl (hb hby d4_18) rfl rfl (XS.ifYes X0.here hx rfl (pc0 := 19) (pc' := 24) rfl (hb hby d4_19) rfl ((own_brD .eq Dd5 D44 _).trans (decide_eq_true rfl)) (by decide) (by decide) (XS.iloadN X0.here hx rfl (hb hby d4_24) rfl (XS.iloadN X0.here hx rfl (hb hby d4_25) rfl k)))))))) ?_
  show OwnGo _ _ _ _ (s₁.setTop (mkF m 26 #[sI (0 : Int32), sI cnt, sR o0, sR o1, sR o2, sR o3, sR o4, sR o5, sJ q0, uS, sJ q1, uS, sJ q2, uS, sJ q3, uS, sJ q4, uS, sJ q5, uS, uU, uU, uU, uU] [(.int cnt), (.int (0 : Int32))]))
  have c0i : (0 : Int32).toInt = 0 := rfl
  obtain ⟨v45, hv45⟩ : ∃ v, q0 - q2 = v := ⟨_, rfl⟩
  obtain ⟨j45, hj45⟩ : ∃ i : Int, i = i0 - i2 := ⟨_, rfl⟩
  have B45 : -1048576 ≤ j45 ∧ j45 ≤ 1048576 := by rw [hj45]; exact own_bd_sub Bb0 Bb2 (by decide)
  have F45 : v45.toInt = j45 := own_lf_sub hv45 Ff0 Ff2 Bb0 Bb2 (by decide) hj45
  obtain ⟨v46, hv46⟩ : ∃ v, q1 - q3 = v := ⟨_, rfl⟩
  refine OwnGo.pre (fun t k => XS.icmpNo X0.here hx rfl (hb hby d4_26) rfl ((own_br2 .ge _ _).trans (decide_eq_false (by omega))) (XT.lload X0.here hx rfl (hb hby d4_29) rfl (XT.lload X0.here hx rfl (hb hby d4_31) rfl (own_lsub X0.here hx rfl (hb hby d4_33) rfl hv45 (XT.lstore X0.here hx rfl (hb hby d4_34) rfl (l' := #[sI (0 : Int32), sI cnt, sR o0, sR o1, sR o2, sR o3, sR o4, sR o5, sJ q0, uS, sJ q1, uS, sJ q2, uS, sJ q3, uS, sJ q4, uS, sJ q5, uS, sJ v45, uS, uU, uU]) rfl (XT.lload X0.here hx rfl (hb hby d4_36) rfl (XT.lload X0.here hx rfl (hb hby d4_38) rfl (own_lsub X0.here hx rfl (hb hby d4_40) rfl hv46 k)))))))) ?_
  show OwnGo _ _ _ _ (s₁.setTop (mkF m 41 #[sI (0 : Int32), sI cnt, sR o0, sR o1, sR o2, sR o3, sR o4, sR o5, sJ q0, uS, sJ q1, uS, sJ q2, uS, sJ q3, uS, sJ q4, uS, sJ q5, uS, sJ v45, uS, uU, uU] [(.long v46)]))
  obtain ⟨j46, hj46⟩ : ∃ i : Int, i = i1 - i3 := ⟨_, rfl⟩
  have B46 : -1048576 ≤ j46 ∧ j46 ≤ 1048576 := by rw [hj46]; exact own_bd_sub Bb1 Bb3 (by decide)
  have F46 : v46.toInt = j46 := own_lf_sub hv46 Ff1 Ff3 Bb1 Bb3 (by decide) hj46
  obtain ⟨v47, hv47⟩ : ∃ v, q0 + q2 = v := ⟨_, rfl⟩
  obtain ⟨j47, hj47⟩ : ∃ i : Int, i = i0 + i2 := ⟨_, rfl⟩
  have B47 : -1048576 ≤ j47 ∧ j47 ≤ 1048576 := by rw [hj47]; exact own_bd_add Bb0 Bb2 (by decide)
  have F47 : v47.toInt = j47 := own_lf_add hv47 Ff0 Ff2 Bb0 Bb2 (by decide) hj47
  obtain ⟨d48, hd48⟩ : ∃ v, FP.l2d v47 = v := ⟨_, rfl⟩
  refine OwnGo.pre (fun t k => XT.lstore X0.here hx rfl (hb hby d4_41) rfl (l' := #[sI (0 : Int32), sI cnt, sR o0, sR o1, sR o2, sR o3, sR o4, sR o5, sJ q0, uS, sJ q1, uS, sJ q2, uS, sJ q3, uS, sJ q4, uS, sJ q5, uS, sJ v45, uS, sJ v46, uS]) rfl (XS.aloadN X0.here hx rfl (hb hby d4_43) rfl rfl (XS.iloadN X0.here hx rfl (hb hby d4_44) rfl (own_daL X0 hx hZ e0 Aa0 (j := (0 : Int32)) (by decide) (i := 0) (by decide) (x := u0_0) rfl (g := (mkF m 45 #[sI (0 : Int32), sI cnt, sR o0, sR o1, sR o2, sR o3, sR o4, sR o5, sJ q0, uS, sJ q1, uS, sJ q2, uS, sJ q3, uS, sJ q4, uS, sJ q5, uS, sJ v45, uS, sJ v46, uS] [(.int (0 : Int32)), (.ref o0)])) rfl (rest := []) rfl (hb hby d4_45) (XT.lload X0.here hx rfl (hb hby d4_46) rfl (XT.lload X0.here hx rfl (hb hby d4_48) rfl (own_ladd X0.here hx rfl (hb hby d4_50) rfl hv47 (XS.l2dS X0.here hx rfl (hb hby d4_51) rfl hd48 k)))))))) ?_
  show OwnGo _ _ _ _ (s₁.setTop (mkF m 52 #[sI (0 : Int32), sI cnt, sR o0, sR o1, sR o2, sR o3, sR o4, sR o5, sJ q0, uS, sJ q1, uS, sJ q2, uS, sJ q3, uS, sJ q4, uS, sJ q5, uS, sJ v45, uS, sJ v46, uS] [(.double d48), (.double u0_0)]))
  have D48 : OwnDS 0 j47 d48 := by rw [← hd48]; exact own_l2db F47 B47 (by decide)
  obtain ⟨v49, hv49⟩ : ∃ v, q1 + q3 = v := ⟨_, rfl⟩
  refine OwnGo.pre (fun t k => XS.dcmpS X0.here hx rfl (hb hby d4_52) rfl rfl (XS.ifNo X0.here hx rfl (hb hby d4_53) rfl ((own_brD .ne Dd0 D48 _).trans (decide_eq_false (fun q => q (by simp only [hj47])))) (XS.aloadN X0.here hx rfl (hb hby d4_56) rfl rfl (XS.iloadN X0.here hx rfl (hb hby d4_57) rfl (own_daL X0 hx hZ e0 Aa1 (j := (0 : Int32)) (by decide) (i := 0) (by decide) (x := u1_0) rfl (g := (mkF m 58 #[sI (0 : Int32), sI cnt, sR o0, sR o1, sR o2, sR o3, sR o4, sR o5, sJ q0, uS, sJ q1, uS, sJ q2, uS, sJ q3, uS, sJ q4, uS, sJ q5, uS, sJ v45, uS, sJ v46, uS] [(.int (0 : Int32)), (.ref o1)])) rfl (rest := []) rfl (hb hby d4_58) (XT.lload X0.here hx rfl (hb hby d4_59) rfl (XT.lload X0.here hx rfl (hb hby d4_61) rfl (own_ladd X0.here hx rfl (hb hby d4_63) rfl hv49 k)))))))) ?_
  show OwnGo _ _ _ _ (s₁.setTop (mkF m 64 #[sI (0 : Int32), sI cnt, sR o0, sR o1, sR o2, sR o3, sR o4, sR o5, sJ q0, uS, sJ q1, uS, sJ q2, uS, sJ q3, uS, sJ q4, uS, sJ q5, uS, sJ v45, uS, sJ v46, uS] [(.long v49), (.double u1_0)]))
  obtain ⟨j49, hj49⟩ : ∃ i : Int, i = i1 + i3 := ⟨_, rfl⟩
  have B49 : -1048576 ≤ j49 ∧ j49 ≤ 1048576 := by rw [hj49]; exact own_bd_add Bb1 Bb3 (by decide)
  have F49 : v49.toInt = j49 := own_lf_add hv49 Ff1 Ff3 Bb1 Bb3 (by decide) hj49
  obtain ⟨d50, hd50⟩ : ∃ v, FP.l2d v49 = v := ⟨_, rfl⟩
  have D50 : OwnDS 0 j49 d50 := by rw [← hd50]; exact own_l2db F49 B49 (by decide)
  refine OwnGo.pre (fun t k => XS.l2dS X0.here hx rfl (hb hby d4_64) rfl hd50 (XS.dcmpS X0.here hx rfl (hb hby d4_65) rfl rfl (XS.ifNo X0.here hx rfl (hb hby d4_66) rfl ((own_brD .ne Dd1 D50 _).trans (decide_eq_false (fun q => q (by simp only [hj49])))) (XS.aload X0.here hx rfl (hb hby d4_69) rfl rfl (XS.iloadN X0.here hx rfl (hb hby d4_71) rfl (own_daL X0 hx hZ e0 Aa2 (j := (0 : Int32)) (by decide) (i := 0) (by decide) (x := u2_0) rfl (g := (mkF m 72 #[sI (0 : Int32), sI cnt, sR o0, sR o1, sR o2, sR o3, sR o4, sR o5, sJ q0, uS, sJ q1, uS, sJ q2, uS, sJ q3, uS, sJ q4, uS, sJ q5, uS, sJ v45, uS, sJ v46, uS] [(.int (0 : Int32)), (.ref o2)])) rfl (rest := []) rfl (hb hby d4_72) (XT.lload X0.here hx rfl (hb hby d4_73) rfl (XT.lload X0.here hx rfl (hb hby d4_75) rfl k)))))))) ?_
  show OwnGo _ _ _ _ (s₁.setTop (mkF m 77 #[sI (0 : Int32), sI cnt, sR o0, sR o1, sR o2, sR o3, sR o4, sR o5, sJ q0, uS, sJ q1, uS, sJ q2, uS, sJ q3, uS, sJ q4, uS, sJ q5, uS, sJ v45, uS, sJ v46, uS] [(.long q4), (.long v45), (.double u2_0)]))
  obtain ⟨v51, hv51⟩ : ∃ v, v45 * q4 = v := ⟨_, rfl⟩
  obtain ⟨j51, hj51⟩ : ∃ i : Int, i = j45 * i4 := ⟨_, rfl⟩
  have B51 : -549755813888 ≤ j51 ∧ j51 ≤ 549755813888 := by rw [hj51]; exact own_bd_mul B45 Bb4 (by decide)
  have F51 : v51.toInt = j51 := own_lf_mul hv51 F45 Ff4 B45 Bb4 (by decide) hj51
  obtain ⟨v52, hv52⟩ : ∃ v, v46 * q5 = v := ⟨_, rfl⟩
  obtain ⟨j52, hj52⟩ : ∃ i : Int, i = j46 * i5 := ⟨_, rfl⟩
  have B52 : -549755813888 ≤ j52 ∧ j52 ≤ 549755813888 := by rw [hj52]; exact own_bd_mul B46 Bb5 (by decide)
  have F52 : v52.toInt = j52 := own_lf_mul hv52 F46 Ff5 B46 Bb5 (by decide) hj52
  obtain ⟨v53, hv53⟩ : ∃ v, v51 + v52 = v := ⟨_, rfl⟩
  obtain ⟨j53, hj53⟩ : ∃ i : Int, i = j51 + j52 := ⟨_, rfl⟩
  have B53 : -1099511627776 ≤ j53 ∧ j53 ≤ 1099511627776 := by rw [hj53]; exact own_bd_add B51 B52 (by decide)
  have F53 : v53.toInt = j53 := own_lf_add hv53 F51 F52 B51 B52 (by decide) hj53
  obtain ⟨d54, hd54⟩ : ∃ v, FP.l2d v53 = v := ⟨_, rfl⟩
  have D54 : OwnDS 0 j53 d54 := by rw [← hd54]; exact own_l2db F53 B53 (by decide)
  refine OwnGo.pre (fun t k => own_lmul X0.here hx rfl (hb hby d4_77) rfl hv51 (XT.lload X0.here hx rfl (hb hby d4_78) rfl (XT.lload X0.here hx rfl (hb hby d4_80) rfl (own_lmul X0.here hx rfl (hb hby d4_82) rfl hv52 (own_ladd X0.here hx rfl (hb hby d4_83) rfl hv53 (XS.l2dS X0.here hx rfl (hb hby d4_84) rfl hd54 (XS.dcmpS X0.here hx rfl (hb hby d4_85) rfl rfl (XS.ifNo X0.here hx rfl (hb hby d4_86) rfl ((own_brD .ne Dd2 D54 _).trans (decide_eq_false (fun q => q (by simp only [hj53, hj51, hj45, hj52, hj46])))) k)))))))) ?_
  show OwnGo _ _ _ _ (s₁.setTop (mkF m 89 #[sI (0 : Int32), sI cnt, sR o0, sR o1, sR o2, sR o3, sR o4, sR o5, sJ q0, uS, sJ q1, uS, sJ q2, uS, sJ q3, uS, sJ q4, uS, sJ q5, uS, sJ v45, uS, sJ v46, uS] []))
  obtain ⟨v55, hv55⟩ : ∃ v, v46 * q4 = v := ⟨_, rfl⟩
  obtain ⟨j55, hj55⟩ : ∃ i : Int, i = j46 * i4 := ⟨_, rfl⟩
  have B55 : -549755813888 ≤ j55 ∧ j55 ≤ 549755813888 := by rw [hj55]; exact own_bd_mul B46 Bb4 (by decide)
  have F55 : v55.toInt = j55 := own_lf_mul hv55 F46 Ff4 B46 Bb4 (by decide) hj55
  refine OwnGo.pre (fun t k => XS.aload X0.here hx rfl (hb hby d4_89) rfl rfl (XS.iloadN X0.here hx rfl (hb hby d4_91) rfl (own_daL X0 hx hZ e0 Aa3 (j := (0 : Int32)) (by decide) (i := 0) (by decide) (x := u3_0) rfl (g := (mkF m 92 #[sI (0 : Int32), sI cnt, sR o0, sR o1, sR o2, sR o3, sR o4, sR o5, sJ q0, uS, sJ q1, uS, sJ q2, uS, sJ q3, uS, sJ q4, uS, sJ q5, uS, sJ v45, uS, sJ v46, uS] [(.int (0 : Int32)), (.ref o3)])) rfl (rest := []) rfl (hb hby d4_92) (XT.lload X0.here hx rfl (hb hby d4_93) rfl (XT.lload X0.here hx rfl (hb hby d4_95) rfl (own_lmul X0.here hx rfl (hb hby d4_97) rfl hv55 (XT.lload X0.here hx rfl (hb hby d4_98) rfl (XT.lload X0.here hx rfl (hb hby d4_100) rfl k)))))))) ?_
  show OwnGo _ _ _ _ (s₁.setTop (mkF m 102 #[sI (0 : Int32), sI cnt, sR o0, sR o1, sR o2, sR o3, sR o4, sR o5, sJ q0, uS, sJ q1, uS, sJ q2, uS, sJ q3, uS, sJ q4, uS, sJ q5, uS, sJ v45, uS, sJ v46, uS] [(.long q5), (.long v45), (.long v55), (.double u3_0)]))
  obtain ⟨v56, hv56⟩ : ∃ v, v45 * q5 = v := ⟨_, rfl⟩
  obtain ⟨j56, hj56⟩ : ∃ i : Int, i = j45 * i5 := ⟨_, rfl⟩
  have B56 : -549755813888 ≤ j56 ∧ j56 ≤ 549755813888 := by rw [hj56]; exact own_bd_mul B45 Bb5 (by decide)
  have F56 : v56.toInt = j56 := own_lf_mul hv56 F45 Ff5 B45 Bb5 (by decide) hj56
  obtain ⟨v57, hv57⟩ : ∃ v, v55 - v56 = v := ⟨_, rfl⟩
  obtain ⟨j57, hj57⟩ : ∃ i : Int, i = j55 - j56 := ⟨_, rfl⟩
  have B57 : -1099511627776 ≤ j57 ∧ j57 ≤ 1099511627776 := by rw [hj57]; exact own_bd_sub B55 B56 (by decide)
  have F57 : v57.toInt = j57 := own_lf_sub hv57 F55 F56 B55 B56 (by decide) hj57
  obtain ⟨d58, hd58⟩ : ∃ v, FP.l2d v57 = v := ⟨_, rfl⟩
  have D58 : OwnDS 0 j57 d58 := by rw [← hd58]; exact own_l2db F57 B57 (by decide)
  refine OwnGo.pre (fun t k => own_lmul X0.here hx rfl (hb hby d4_102) rfl hv56 (own_lsub X0.here hx rfl (hb hby d4_103) rfl hv57 (XS.l2dS X0.here hx rfl (hb hby d4_104) rfl hd58 (XS.dcmpS X0.here hx rfl (hb hby d4_105) rfl rfl (XS.ifNo X0.here hx rfl (hb hby d4_106) rfl ((own_brD .ne Dd3 D58 _).trans (decide_eq_false (fun q => q (by simp only [hj57, hj55, hj46, hj56, hj45])))) (XS.iconst X0.here hx rfl (hb hby d4_109) (XS.goto X0.here hx rfl (pc0 := 110) (pc' := 114) rfl (hb hby d4_110) (by decide) (by decide) k))))))) ?_
  show OwnGo _ _ _ _ (s₁.setTop (mkF m 114 #[sI (0 : Int32), sI cnt, sR o0, sR o1, sR o2, sR o3, sR o4, sR o5, sJ q0, uS, sJ q1, uS, sJ q2, uS, sJ q3, uS, sJ q4, uS, sJ q5, uS, sJ v45, uS, sJ v46, uS] [(.int (1 : Int32))]))
  exact own_retZ X0 hx hk hrt (hb hby d4_114) ⟨rfl, N0, e0⟩ (by decide) (by decide)
theorem pn_rmC0g : plainName "com/example/isochron/isochron/dsp/RowButterfliesForwardPinLaw" = true := by first | (simp [plainName, overriddenIn]; done) | decide +kernel
theorem pd_rmC0g : parseMethodDescriptor "(II[D[D[D[D[D[DJJJJJJ)Z" = some ⟨[.int, .int, (.array .double), (.array .double), (.array .double), (.array .double), (.array .double), (.array .double), .long, .long, .long, .long, .long, .long], (some .boolean)⟩ := by decide +kernel
theorem ef_rmC0g (m : MethodId) (cnt : Int32) (o0 o1 o2 o3 o4 o5 : Addr) (u0_0 u0_1 u1_0 u1_1 u2_0 u2_1 u3_0 u3_1 u4_0 u4_1 u5_0 u5_1 : UInt64) (q0 q1 q2 q3 q4 q5 : Int64) (i0 i1 i2 i3 i4 i5 : Int) : entryFrame m #[(.int (0 : Int32)), (.int cnt), (.ref o0), (.ref o1), (.ref o2), (.ref o3), (.ref o4), (.ref o5), (.long q0), (.long q1), (.long q2), (.long q3), (.long q4), (.long q5)] 24 = (mkF m 0 #[sI (0 : Int32), sI cnt, sR o0, sR o1, sR o2, sR o3, sR o4, sR o5, sJ q0, uS, sJ q1, uS, sJ q2, uS, sJ q3, uS, sJ q4, uS, sJ q5, uS, uU, uU, uU, uU] []) := by first | (simp [entryFrame, mkF, argsToLocals, Value.category, maxLocals]; done) | rfl
def Q_rmC0g (Z : State) (cnt : Int32) (o0 o1 o2 o3 o4 o5 : Addr) (u0_0 u0_1 u1_0 u1_1 u2_0 u2_1 u3_0 u3_1 u4_0 u4_1 u5_0 u5_1 : UInt64) (q0 q1 q2 q3 q4 q5 : Int64) (i0 i1 i2 i3 i4 i5 : Int) (h0 : Heap) (n0 : Nat) (v : Option Value) (h : Heap) (L : List Loc) : Prop := v = some (.int 1) ∧ Fr n0 L ∧ h = h0
set_option maxRecDepth 65536 in
set_option maxHeartbeats 40000000 in
theorem rmC0g (l : Launch) (Z : State) (a0 : Array Value) (hw : ∀ d ∈ tables_1, d.before a0 Z = true) (ws : List Jvm.Cond) (cnt : Int32) (o0 o1 o2 o3 o4 o5 : Addr) (u0_0 u0_1 u1_0 u1_1 u2_0 u2_1 u3_0 u3_1 u4_0 u4_1 u5_0 u5_1 : UInt64) (q0 q1 q2 q3 q4 q5 : Int64) (i0 i1 i2 i3 i4 i5 : Int) (h0 : Heap) (n0 : Nat) (Z0 : n0 ≤ h0.size) (Aa0 : OwnDA Z h0 o0 [u0_0, u0_1]) (Aa1 : OwnDA Z h0 o1 [u1_0, u1_1]) (Aa2 : OwnDA Z h0 o2 [u2_0, u2_1]) (Aa3 : OwnDA Z h0 o3 [u3_0, u3_1]) (Aa4 : OwnDA Z h0 o4 [u4_0, u4_1]) (Aa5 : OwnDA Z h0 o5 [u5_0, u5_1]) (Dd0 : OwnDS 0 (i0) u0_0) (Dd1 : OwnDS 0 (i1) u1_0) (Dd2 : OwnDS 0 (i2) u2_0) (Dd3 : OwnDS 0 (i3) u3_0) (Dd4 : OwnDS 0 (i4) u4_0) (Dd5 : OwnDS 0 (i5) u5_0) (Ff0 : q0.toInt = i0) (Bb0 : -524288 ≤ i0 ∧ i0 ≤ 524288) (Ff1 : q1.toInt = i1) (Bb1 : -524288 ≤ i1 ∧ i1 ≤ 524288) (Ff2 : q2.toInt = i2) (Bb2 : -524288 ≤ i2 ∧ i2 ≤ 524288) (Ff3 : q3.toInt = i3) (Bb3 : -524288 ≤ i3 ∧ i3 ≤ 524288) (Ff4 : q4.toInt = i4) (Bb4 : -524288 ≤ i4 ∧ i4 ≤ 524288) (Ff5 : q5.toInt = i5) (Bb5 : -524288 ≤ i5 ∧ i5 ≤ 524288) (hcnt : cnt.toInt ≤ 0) :
    MetFree l (⟨"com/example/isochron/isochron/dsp/RowButterfliesForwardPinLaw", "check", "(II[D[D[D[D[D[DJJJJJJ)Z"⟩ : MethodName) (head1 (Jvm.Cond.code (⟨"com/example/isochron/isochron/dsp/RowButterfliesForwardPinLaw", "check", "(II[D[D[D[D[D[DJJJJJJ)Z"⟩ : MethodName) method_4_code 24 (some .boolean) :: ws) ({ frames := 0, cells := 0, slots := 0, locals := 0 } : Room)) (fun a U => a = #[(.int (0 : Int32)), (.int cnt), (.ref o0), (.ref o1), (.ref o2), (.ref o3), (.ref o4), (.ref o5), (.long q0), (.long q1), (.long q2), (.long q3), (.long q4), (.long q5)] ∧ Z.Warmed39 U.vm ∧ U.heap = h0) (fun _ _ _ _ _ => True) (fun _ U oO U' => ∃ v L, oO = .returned v ∧ Q_rmC0g Z cnt o0 o1 o2 o3 o4 o5 u0_0 u0_1 u1_0 u1_1 u2_0 u2_1 u3_0 u3_1 u4_0 u4_1 u5_0 u5_1 q0 q1 q2 q3 q4 q5 i0 i1 i2 i3 i4 i5 h0 n0 v U'.heap L ∧ FrameEnd U oO U' L ({ frames := 0, cells := 0, slots := 0, locals := 0 } : Room).cells ({ frames := 0, cells := 0, slots := 0, locals := 0 } : Room).slots) := by
  refine MetFree.of_bodySF (plainFor_of_name pn_rmC0g) hisR ?_
  intro p e s m args below meth c s₁ Bd hml0 hP hK
  obtain ⟨rfl, hZ, hh⟩ := hP
  have hx := Bd.exec
  have hby := Bd.bytes
  have hml : c.maxLocals = 24 := hml0
  have hown : s.vm.findClass "com/example/isochron/isochron/dsp/RowButterfliesForwardPinLaw" = some m.cls := findClass_of_methodNamed Bd.named
  have hnm := (name_of_methodNamed Bd.named Bd.method).1
  have hk := Bd.notSynchronized
  have hrt := Bd.returns
  have X0 : Stand p l e ({ frames := 0, cells := 0, slots := 0, locals := 0 } : Room) s m #[(.int (0 : Int32)), (.int cnt), (.ref o0), (.ref o1), (.ref o2), (.ref o3), (.ref o4), (.ref o5), (.long q0), (.long q1), (.long q2), (.long q3), (.long q4), (.long q5)] below meth c s₁ [] 0 0 := Stand.of_body Bd
  have e0 : s₁.heap = h0 := by rw [← hh, Bd.state]; rfl
  have N0 := Fr.nil n0
  show OwnGo p.tables e below (OwnEnd s (Q_rmC0g Z cnt o0 o1 o2 o3 o4 o5 u0_0 u0_1 u1_0 u1_1 u2_0 u2_1 u3_0 u3_1 u4_0 u4_1 u5_0 u5_1 q0 q1 q2 q3 q4 q5 i0 i1 i2 i3 i4 i5 h0 n0) ({ frames := 0, cells := 0, slots := 0, locals := 0 } : Room).cells ({ frames := 0, cells := 0, slots := 0, locals := 0 } : Room).slots) _
  refine OwnGo.pre (fun t k => castTop (ef_rmC0g m cnt o0 o1 o2 o3 o4 o5 u0_0 u0_1 u1_0 u1_1 u2_0 u2_1 u3_0 u3_1 u4_0 u4_1 u5_0 u5_1 q0 q1 q2 q3 q4 q5 i0 i1 i2 i3 i4 i5) k) ?_
  show OwnGo _ _ _ _ (s₁.setTop (mkF m 0 #[sI (0 : Int32), sI cnt, sR o0, sR o1, sR o2, sR o3, sR o4, sR o5, sJ q0, uS, sJ q1, uS, sJ q2, uS, sJ q3, uS, sJ q4, uS, sJ q5, uS, uU, uU, uU, uU] []))
  obtain ⟨d59, hd59⟩ : ∃ v, FP.l2d q4 = v := ⟨_, rfl⟩
  have D59 : OwnDS 0 i4 d59 := by rw [← hd59]; exact own_l2db Ff4 Bb4 (by decide)
  refine OwnGo.pre (fun t k => XS.aload X0.here hx rfl (hb hby d4_0) rfl rfl (XS.iloadN X0.here hx rfl (hb hby d4_2) rfl (own_daL X0 hx hZ e0 Aa4 (j := (0 : Int32)) (by decide) (i := 0) (by decide) (x := u4_0) rfl (g := (mkF m 3 #[sI (0 : Int32), sI cnt, sR o0, sR o1, sR o2, sR o3, sR o4, sR o5, sJ q0, uS, sJ q1, uS, sJ q2, uS, sJ q3, uS, sJ q4, uS, sJ q5, uS, uU, uU, uU, uU] [(.int (0 : Int32)), (.ref o4)])) rfl (rest := []) rfl (hb hby d4_3) (XT.lload X0.here hx rfl (hb hby d4_4) rfl (XS.l2dS X0.here hx rfl (hb hby d4_6) rfl hd59 (XS.dcmpS X0.here hx rfl (hb hby d4_7) rfl rfl (XS.ifNo X0.here hx rfl (hb hby d4_8) rfl ((own_brD .ne Dd4 D59 _).trans (decide_eq_false (fun q => q rfl))) (XS.aload X0.here hx rfl (hb hby d4_11) rfl rfl k)))))))) ?_
  show OwnGo _ _ _ _ (s₁.setTop (mkF m 13 #[sI (0 : Int32), sI cnt, sR o0, sR o1, sR o2, sR o3, sR o4, sR o5, sJ q0, uS, sJ q1, uS, sJ q2, uS, sJ q3, uS, sJ q4, uS, sJ q5, uS, uU, uU, uU, uU] [(.ref o5)]))
  obtain ⟨d60, hd60⟩ : ∃ v, FP.l2d q5 = v := ⟨_, rfl⟩
  have D60 : OwnDS 0 i5 d60 := by rw [← hd60]; exact own_l2db Ff5 Bb5 (by decide)
  refine OwnGo.pre (fun t k => XS.iloadN X0.here hx rfl (hb hby d4_13) rfl (own_daL X0 hx hZ e0 Aa5 (j := (0 : Int32)) (by decide) (i := 0) (by decide) (x := u5_0) rfl (g := (mkF m 14 #[sI (0 : Int32), sI cnt, sR o0, sR o1, sR o2, sR o3, sR o4, sR o5, sJ q0, uS, sJ q1, uS, sJ q2, uS, sJ q3, uS, sJ q4, uS, sJ q5, uS, uU, uU, uU, uU] [(.int (0 : Int32)), (.ref o5)])) rfl (rest := []) rfl (hb hby d4_14) (XT.lload X0.here hx rfl (hb hby d4_15) rfl (XS.l2dS X0.here hx rfl (hb hby d4_17) rfl hd60 (XS.dcmpS X0.here hx rfl (hb hby d4_18) rfl rfl (XS.ifYes X0.here hx rfl (pc0 := 19) (pc' := 24) rfl (hb hby d4_19) rfl ((own_brD .eq Dd5 D60 _).trans (decide_eq_true rfl)) (by decide) (by decide) (XS.iloadN X0.here hx rfl (hb hby d4_24) rfl (XS.iloadN X0.here hx rfl (hb hby d4_25) rfl k)))))))) ?_
  show OwnGo _ _ _ _ (s₁.setTop (mkF m 26 #[sI (0 : Int32), sI cnt, sR o0, sR o1, sR o2, sR o3, sR o4, sR o5, sJ q0, uS, sJ q1, uS, sJ q2, uS, sJ q3, uS, sJ q4, uS, sJ q5, uS, uU, uU, uU, uU] [(.int cnt), (.int (0 : Int32))]))
  have c0i : (0 : Int32).toInt = 0 := rfl
  obtain ⟨d61, hd61⟩ : ∃ v, FP.l2d q0 = v := ⟨_, rfl⟩
  have D61 : OwnDS 0 i0 d61 := by rw [← hd61]; exact own_l2db Ff0 Bb0 (by decide)
  refine OwnGo.pre (fun t k => XS.icmpYes X0.here hx rfl (pc0 := 26) (pc' := 115) rfl (hb hby d4_26) rfl ((own_br2 .ge _ _).trans (decide_eq_true (by omega))) (by decide) (by decide) (XS.aloadN X0.here hx rfl (hb hby d4_115) rfl rfl (XS.iloadN X0.here hx rfl (hb hby d4_116) rfl (own_daL X0 hx hZ e0 Aa0 (j := (0 : Int32)) (by decide) (i := 0) (by decide) (x := u0_0) rfl (g := (mkF m 117 #[sI (0 : Int32), sI cnt, sR o0, sR o1, sR o2, sR o3, sR o4, sR o5, sJ q0, uS, sJ q1, uS, sJ q2, uS, sJ q3, uS, sJ q4, uS, sJ q5, uS, uU, uU, uU, uU] [(.int (0 : Int32)), (.ref o0)])) rfl (rest := []) rfl (hb hby d4_117) (XT.lload X0.here hx rfl (hb hby d4_118) rfl (XS.l2dS X0.here hx rfl (hb hby d4_120) rfl hd61 (XS.dcmpS X0.here hx rfl (hb hby d4_121) rfl rfl (XS.ifNo X0.here hx rfl (hb hby d4_122) rfl ((own_brD .ne Dd0 D61 _).trans (decide_eq_false (fun q => q rfl))) k)))))))) ?_
  show OwnGo _ _ _ _ (s₁.setTop (mkF m 125 #[sI (0 : Int32), sI cnt, sR o0, sR o1, sR o2, sR o3, sR o4, sR o5, sJ q0, uS, sJ q1, uS, sJ q2, uS, sJ q3, uS, sJ q4, uS, sJ q5, uS, uU, uU, uU, uU] []))
  obtain ⟨d62, hd62⟩ : ∃ v, FP.l2d q1 = v := ⟨_, rfl⟩
  have D62 : OwnDS 0 i1 d62 := by rw [← hd62]; exact own_l2db Ff1 Bb1 (by decide)
  refine OwnGo.pre (fun t k => XS.aloadN X0.here hx rfl (hb hby d4_125) rfl rfl (XS.iloadN X0.here hx rfl (hb hby d4_126) rfl (own_daL X0 hx hZ e0 Aa1 (j := (0 : Int32)) (by decide) (i := 0) (by decide) (x := u1_0) rfl (g := (mkF m 127 #[sI (0 : Int32), sI cnt, sR o0, sR o1, sR o2, sR o3, sR o4, sR o5, sJ q0, uS, sJ q1, uS, sJ q2, uS, sJ q3, uS, sJ q4, uS, sJ q5, uS, uU, uU, uU, uU] [(.int (0 : Int32)), (.ref o1)])) rfl (rest := []) rfl (hb hby d4_127) (XT.lload X0.here hx rfl (hb hby d4_128) rfl (XS.l2dS X0.here hx rfl (hb hby d4_130) rfl hd62 (XS.dcmpS X0.here hx rfl (hb hby d4_131) rfl rfl (XS.ifNo X0.here hx rfl (hb hby d4_132) rfl ((own_brD .ne Dd1 D62 _).trans (decide_eq_false (fun q => q rfl))) (XS.aload X0.here hx rfl (hb hby d4_135) rfl rfl k)))))))) ?_
  show OwnGo _ _ _ _ (s₁.setTop (mkF m 137 #[sI (0 : Int32), sI cnt, sR o0, sR o1, sR o2, sR o3, sR o4, sR o5, sJ q0, uS, sJ q1, uS, sJ q2, uS, sJ q3, uS, sJ q4, uS, sJ q5, uS, uU, uU, uU, uU] [(.ref o2)]))
  obtain ⟨d63, hd63⟩ : ∃ v, FP.l2d q2 = v := ⟨_, rfl⟩
  have D63 : OwnDS 0 i2 d63 := by rw [← hd63]; exact own_l2db Ff2 Bb2 (by decide)
  refine OwnGo.pre (fun t k => XS.iloadN X0.here hx rfl (hb hby d4_137) rfl (own_daL X0 hx hZ e0 Aa2 (j := (0 : Int32)) (by decide) (i := 0) (by decide) (x := u2_0) rfl (g := (mkF m 138 #[sI (0 : Int32), sI cnt, sR o0, sR o1, sR o2, sR o3, sR o4, sR o5, sJ q0, uS, sJ q1, uS, sJ q2, uS, sJ q3, uS, sJ q4, uS, sJ q5, uS, uU, uU, uU, uU] [(.int (0 : Int32)), (.ref o2)])) rfl (rest := []) rfl (hb hby d4_138) (XT.lload X0.here hx rfl (hb hby d4_139) rfl (XS.l2dS X0.here hx rfl (hb hby d4_141) rfl hd63 (XS.dcmpS X0.here hx rfl (hb hby d4_142) rfl rfl (XS.ifNo X0.here hx rfl (hb hby d4_143) rfl ((own_brD .ne Dd2 D63 _).trans (decide_eq_false (fun q => q rfl))) (XS.aload X0.here hx rfl (hb hby d4_146) rfl rfl (XS.iloadN X0.here hx rfl (hb hby d4_148) rfl k)))))))) ?_
  show OwnGo _ _ _ _ (s₁.setTop (mkF m 149 #[sI (0 : Int32), sI cnt, sR o0, sR o1, sR o2, sR o3, sR o4, sR o5, sJ q0, uS, sJ q1, uS, sJ q2, uS, sJ q3, uS, sJ q4, uS, sJ q5, uS, uU, uU, uU, uU] [(.int (0 : Int32)), (.ref o3)]))
  obtain ⟨d64, hd64⟩ : ∃ v, FP.l2d q3 = v := ⟨_, rfl⟩
  have D64 : OwnDS 0 i3 d64 := by rw [← hd64]; exact own_l2db Ff3 Bb3 (by decide)
  refine OwnGo.pre (fun t k => own_daL X0 hx hZ e0 Aa3 (j := (0 : Int32)) (by decide) (i := 0) (by decide) (x := u3_0) rfl (g := (mkF m 149 #[sI (0 : Int32), sI cnt, sR o0, sR o1, sR o2, sR o3, sR o4, sR o5, sJ q0, uS, sJ q1, uS, sJ q2, uS, sJ q3, uS, sJ q4, uS, sJ q5, uS, uU, uU, uU, uU] [(.int (0 : Int32)), (.ref o3)])) rfl (rest := []) rfl (hb hby d4_149) (XT.lload X0.here hx rfl (hb hby d4_150) rfl (XS.l2dS X0.here hx rfl (hb hby d4_152) rfl hd64 (XS.dcmpS X0.here hx rfl (hb hby d4_153) rfl rfl (XS.ifNo X0.here hx rfl (hb hby d4_154) rfl ((own_brD .ne Dd3 D64 _).trans (decide_eq_false (fun q => q rfl))) (XS.iconst X0.here hx rfl (hb hby d4_157) (XS.goto X0.here hx rfl (pc0 := 158) (pc' := 162) rfl (hb hby d4_158) (by decide) (by decide) k))))))) ?_
  show OwnGo _ _ _ _ (s₁.setTop (mkF m 162 #[sI (0 : Int32), sI cnt, sR o0, sR o1, sR o2, sR o3, sR o4, sR o5, sJ q0, uS, sJ q1, uS, sJ q2, uS, sJ q3, uS, sJ q4, uS, sJ q5, uS, uU, uU, uU, uU] [(.int (1 : Int32))]))
  exact own_retZ X0 hx hk hrt (hb hby d4_162) ⟨rfl, N0, e0⟩ (by decide) (by decide)
theorem pn_rmC1l : plainName "com/example/isochron/isochron/dsp/RowButterfliesForwardPinLaw" = true := by first | (simp [plainName, overriddenIn]; done) | decide +kernel
theorem pd_rmC1l : parseMethodDescriptor "(II[D[D[D[D[D[DJJJJJJ)Z" = some ⟨[.int, .int, (.array .double), (.array .double), (.array .double), (.array .double), (.array .double), (.array .double), .long, .long, .long, .long, .long, .long], (some .boolean)⟩ := by decide +kernel
theorem ef_rmC1l (m : MethodId) (cnt : Int32) (o0 o1 o2 o3 o4 o5 : Addr) (u0_0 u0_1 u1_0 u1_1 u2_0 u2_1 u3_0 u3_1 u4_0 u4_1 u5_0 u5_1 : UInt64) (q0 q1 q2 q3 q4 q5 : Int64) (i0 i1 i2 i3 i4 i5 : Int) : entryFrame m #[(.int (1 : Int32)), (.int cnt), (.ref o0), (.ref o1), (.ref o2), (.ref o3), (.ref o4), (.ref o5), (.long q0), (.long q1), (.long q2), (.long q3), (.long q4), (.long q5)] 24 = (mkF m 0 #[sI (1 : Int32), sI cnt, sR o0, sR o1, sR o2, sR o3, sR o4, sR o5, sJ q0, uS, sJ q1, uS, sJ q2, uS, sJ q3, uS, sJ q4, uS, sJ q5, uS, uU, uU, uU, uU] []) := by first | (simp [entryFrame, mkF, argsToLocals, Value.category, maxLocals]; done) | rfl
def Q_rmC1l (Z : State) (cnt : Int32) (o0 o1 o2 o3 o4 o5 : Addr) (u0_0 u0_1 u1_0 u1_1 u2_0 u2_1 u3_0 u3_1 u4_0 u4_1 u5_0 u5_1 : UInt64) (q0 q1 q2 q3 q4 q5 : Int64) (i0 i1 i2 i3 i4 i5 : Int) (h0 : Heap) (n0 : Nat) (v : Option Value) (h : Heap) (L : List Loc) : Prop := v = some (.int 1) ∧ Fr n0 L ∧ h = h0
set_option maxRecDepth 65536 in
set_option maxHeartbeats 40000000 in
theorem rmC1l (l : Launch) (Z : State) (a0 : Array Value) (hw : ∀ d ∈ tables_1, d.before a0 Z = true) (ws : List Jvm.Cond) (cnt : Int32) (o0 o1 o2 o3 o4 o5 : Addr) (u0_0 u0_1 u1_0 u1_1 u2_0 u2_1 u3_0 u3_1 u4_0 u4_1 u5_0 u5_1 : UInt64) (q0 q1 q2 q3 q4 q5 : Int64) (i0 i1 i2 i3 i4 i5 : Int) (h0 : Heap) (n0 : Nat) (Z0 : n0 ≤ h0.size) (Aa0 : OwnDA Z h0 o0 [u0_0, u0_1]) (Aa1 : OwnDA Z h0 o1 [u1_0, u1_1]) (Aa2 : OwnDA Z h0 o2 [u2_0, u2_1]) (Aa3 : OwnDA Z h0 o3 [u3_0, u3_1]) (Aa4 : OwnDA Z h0 o4 [u4_0, u4_1]) (Aa5 : OwnDA Z h0 o5 [u5_0, u5_1]) (Dd0 : OwnDS 0 (i0 + i2) u0_1) (Dd1 : OwnDS 0 (i1 + i3) u1_1) (Dd2 : OwnDS 0 ((i0 - i2) * i4 + (i1 - i3) * i5) u2_1) (Dd3 : OwnDS 0 ((i1 - i3) * i4 - (i0 - i2) * i5) u3_1) (Dd4 : OwnDS 0 (i4) u4_1) (Dd5 : OwnDS 0 (i5) u5_1) (Ff0 : q0.toInt = i0) (Bb0 : -524288 ≤ i0 ∧ i0 ≤ 524288) (Ff1 : q1.toInt = i1) (Bb1 : -524288 ≤ i1 ∧ i1 ≤ 524288) (Ff2 : q2.toInt = i2) (Bb2 : -524288 ≤ i2 ∧ i2 ≤ 524288) (Ff3 : q3.toInt = i3) (Bb3 : -524288 ≤ i3 ∧ i3 ≤ 524288) (Ff4 : q4.toInt = i4) (Bb4 : -524288 ≤ i4 ∧ i4 ≤ 524288) (Ff5 : q5.toInt = i5) (Bb5 : -524288 ≤ i5 ∧ i5 ≤ 524288) (hcnt : 1 < cnt.toInt) :
    MetFree l (⟨"com/example/isochron/isochron/dsp/RowButterfliesForwardPinLaw", "check", "(II[D[D[D[D[D[DJJJJJJ)Z"⟩ : MethodName) (head1 (Jvm.Cond.code (⟨"com/example/isochron/isochron/dsp/RowButterfliesForwardPinLaw", "check", "(II[D[D[D[D[D[DJJJJJJ)Z"⟩ : MethodName) method_4_code 24 (some .boolean) :: ws) ({ frames := 0, cells := 0, slots := 0, locals := 0 } : Room)) (fun a U => a = #[(.int (1 : Int32)), (.int cnt), (.ref o0), (.ref o1), (.ref o2), (.ref o3), (.ref o4), (.ref o5), (.long q0), (.long q1), (.long q2), (.long q3), (.long q4), (.long q5)] ∧ Z.Warmed39 U.vm ∧ U.heap = h0) (fun _ _ _ _ _ => True) (fun _ U oO U' => ∃ v L, oO = .returned v ∧ Q_rmC1l Z cnt o0 o1 o2 o3 o4 o5 u0_0 u0_1 u1_0 u1_1 u2_0 u2_1 u3_0 u3_1 u4_0 u4_1 u5_0 u5_1 q0 q1 q2 q3 q4 q5 i0 i1 i2 i3 i4 i5 h0 n0 v U'.heap L ∧ FrameEnd U oO U' L ({ frames := 0, cells := 0, slots := 0, locals := 0 } : Room).cells ({ frames := 0, cells := 0, slots := 0, locals := 0 } : Room).slots) := by
  refine MetFree.of_bodySF (plainFor_of_name pn_rmC1l) hisR ?_
  intro p e s m args below meth c s₁ Bd hml0 hP hK
  obtain ⟨rfl, hZ, hh⟩ := hP
  have hx := Bd.exec
  have hby := Bd.bytes
  have hml : c.maxLocals = 24 := hml0
  have hown : s.vm.findClass "com/example/isochron/isochron/dsp/RowButterfliesForwardPinLaw" = some m.cls := findClass_of_methodNamed Bd.named
  have hnm := (name_of_methodNamed Bd.named Bd.method).1
  have hk := Bd.notSynchronized
  have hrt := Bd.returns
  have X0 : Stand p l e ({ frames := 0, cells := 0, slots := 0, locals := 0 } : Room) s m #[(.int (1 : Int32)), (.int cnt), (.ref o0), (.ref o1), (.ref o2), (.ref o3), (.ref o4), (.ref o5), (.long q0), (.long q1), (.long q2), (.long q3), (.long q4), (.long q5)] below meth c s₁ [] 0 0 := Stand.of_body Bd
  have e0 : s₁.heap = h0 := by rw [← hh, Bd.state]; rfl
  have N0 := Fr.nil n0
  show OwnGo p.tables e below (OwnEnd s (Q_rmC1l Z cnt o0 o1 o2 o3 o4 o5 u0_0 u0_1 u1_0 u1_1 u2_0 u2_1 u3_0 u3_1 u4_0 u4_1 u5_0 u5_1 q0 q1 q2 q3 q4 q5 i0 i1 i2 i3 i4 i5 h0 n0) ({ frames := 0, cells := 0, slots := 0, locals := 0 } : Room).cells ({ frames := 0, cells := 0, slots := 0, locals := 0 } : Room).slots) _
  refine OwnGo.pre (fun t k => castTop (ef_rmC1l m cnt o0 o1 o2 o3 o4 o5 u0_0 u0_1 u1_0 u1_1 u2_0 u2_1 u3_0 u3_1 u4_0 u4_1 u5_0 u5_1 q0 q1 q2 q3 q4 q5 i0 i1 i2 i3 i4 i5) k) ?_
  show OwnGo _ _ _ _ (s₁.setTop (mkF m 0 #[sI (1 : Int32), sI cnt, sR o0, sR o1, sR o2, sR o3, sR o4, sR o5, sJ q0, uS, sJ q1, uS, sJ q2, uS, sJ q3, uS, sJ q4, uS, sJ q5, uS, uU, uU, uU, uU] []))
  obtain ⟨d65, hd65⟩ : ∃ v, FP.l2d q4 = v := ⟨_, rfl⟩
  have D65 : OwnDS 0 i4 d65 := by rw [← hd65]; exact own_l2db Ff4 Bb4 (by decide)
  refine OwnGo.pre (fun t k => XS.aload X0.here hx rfl (hb hby d4_0) rfl rfl (XS.iloadN X0.here hx rfl (hb hby d4_2) rfl (own_daL X0 hx hZ e0 Aa4 (j := (1 : Int32)) (by decide) (i := 1) (by decide) (x := u4_1) rfl (g := (mkF m 3 #[sI (1 : Int32), sI cnt, sR o0, sR o1, sR o2, sR o3, sR o4, sR o5, sJ q0, uS, sJ q1, uS, sJ q2, uS, sJ q3, uS, sJ q4, uS, sJ q5, uS, uU, uU, uU, uU] [(.int (1 : Int32)), (.ref o4)])) rfl (rest := []) rfl (hb hby d4_3) (XT.lload X0.here hx rfl (hb hby d4_4) rfl (XS.l2dS X0.here hx rfl (hb hby d4_6) rfl hd65 (XS.dcmpS X0.here hx rfl (hb hby d4_7) rfl rfl (XS.ifNo X0.here hx rfl (hb hby d4_8) rfl ((own_brD .ne Dd4 D65 _).trans (decide_eq_false (fun q => q rfl))) (XS.aload X0.here hx rfl (hb hby d4_11) rfl rfl k)))))))) ?_
  show OwnGo _ _ _ _ (s₁.setTop (mkF m 13 #[sI (1 : Int32), sI cnt, sR o0, sR o1, sR o2, sR o3, sR o4, sR o5, sJ q0, uS, sJ q1, uS, sJ q2, uS, sJ q3, uS, sJ q4, uS, sJ q5, uS, uU, uU, uU, uU] [(.ref o5)]))
  obtain ⟨d66, hd66⟩ : ∃ v, FP.l2d q5 = v := ⟨_, rfl⟩
  have D66 : OwnDS 0 i5 d66 := by rw [← hd66]; exact own_l2db Ff5 Bb5 (by decide)
  refine OwnGo.pre (fun t k => XS.iloadN X0.here hx rfl (hb hby d4_13) rfl (own_daL X0 hx hZ e0 Aa5 (j := (1 : Int32)) (by decide) (i := 1) (by decide) (x := u5_1) rfl (g := (mkF m 14 #[sI (1 : Int32), sI cnt, sR o0, sR o1, sR o2, sR o3, sR o4, sR o5, sJ q0, uS, sJ q1, uS, sJ q2, uS, sJ q3, uS, sJ q4, uS, sJ q5, uS, uU, uU, uU, uU] [(.int (1 : Int32)), (.ref o5)])) rfl (rest := []) rfl (hb hby d4_14) (XT.lload X0.here hx rfl (hb hby d4_15) rfl (XS.l2dS X0.here hx rfl (hb hby d4_17) rfl hd66 (XS.dcmpS X0.here hx rfl (hb hby d4_18) rfl rfl (XS.ifYes X0.here hx rfl (pc0 := 19) (pc' := 24) rfl (hb hby d4_19) rfl ((own_brD .eq Dd5 D66 _).trans (decide_eq_true rfl)) (by decide) (by decide) (XS.iloadN X0.here hx rfl (hb hby d4_24) rfl (XS.iloadN X0.here hx rfl (hb hby d4_25) rfl k)))))))) ?_
  show OwnGo _ _ _ _ (s₁.setTop (mkF m 26 #[sI (1 : Int32), sI cnt, sR o0, sR o1, sR o2, sR o3, sR o4, sR o5, sJ q0, uS, sJ q1, uS, sJ q2, uS, sJ q3, uS, sJ q4, uS, sJ q5, uS, uU, uU, uU, uU] [(.int cnt), (.int (1 : Int32))]))
  have c0i : (1 : Int32).toInt = 1 := rfl
  obtain ⟨v67, hv67⟩ : ∃ v, q0 - q2 = v := ⟨_, rfl⟩
  obtain ⟨j67, hj67⟩ : ∃ i : Int, i = i0 - i2 := ⟨_, rfl⟩
  have B67 : -1048576 ≤ j67 ∧ j67 ≤ 1048576 := by rw [hj67]; exact own_bd_sub Bb0 Bb2 (by decide)
  have F67 : v67.toInt = j67 := own_lf_sub hv67 Ff0 Ff2 Bb0 Bb2 (by decide) hj67
  obtain ⟨v68, hv68⟩ : ∃ v, q1 - q3 = v := ⟨_, rfl⟩
  refine OwnGo.pre (fun t k => XS.icmpNo X0.here hx rfl (hb hby d4_26) rfl ((own_br2 .ge _ _).trans (decide_eq_false (by omega))) (XT.lload X0.here hx rfl (hb hby d4_29) rfl (XT.lload X0.here hx rfl (hb hby d4_31) rfl (own_lsub X0.here hx rfl (hb hby d4_33) rfl hv67 (XT.lstore X0.here hx rfl (hb hby d4_34) rfl (l' := #[sI (1 : Int32), sI cnt, sR o0, sR o1, sR o2, sR o3, sR o4, sR o5, sJ q0, uS, sJ q1, uS, sJ q2, uS, sJ q3, uS, sJ q4, uS, sJ q5, uS, sJ v67, uS, uU, uU]) rfl (XT.lload X0.here hx rfl (hb hby d4_36) rfl (XT.lload X0.here hx rfl (hb hby d4_38) rfl (own_lsub X0.here hx rfl (hb hby d4_40) rfl hv68 k)))))))) ?_
  show OwnGo _ _ _ _ (s₁.setTop (mkF m 41 #[sI (1 : Int32), sI cnt, sR o0, sR o1, sR o2, sR o3, sR o4, sR o5, sJ q0, uS, sJ q1, uS, sJ q2, uS, sJ q3, uS, sJ q4, uS, sJ q5, uS, sJ v67, uS, uU, uU] [(.long v68)]))
  obtain ⟨j68, hj68⟩ : ∃ i : Int, i = i1 - i3 := ⟨_, rfl⟩
  have B68 : -1048576 ≤ j68 ∧ j68 ≤ 1048576 := by rw [hj68]; exact own_bd_sub Bb1 Bb3 (by decide)
  have F68 : v68.toInt = j68 := own_lf_sub hv68 Ff1 Ff3 Bb1 Bb3 (by decide) hj68
  obtain ⟨v69, hv69⟩ : ∃ v, q0 + q2 = v := ⟨_, rfl⟩
  obtain ⟨j69, hj69⟩ : ∃ i : Int, i = i0 + i2 := ⟨_, rfl⟩
  have B69 : -1048576 ≤ j69 ∧ j69 ≤ 1048576 := by rw [hj69]; exact own_bd_add Bb0 Bb2 (by decide)
  have F69 : v69.toInt = j69 := own_lf_add hv69 Ff0 Ff2 Bb0 Bb2 (by decide) hj69
  obtain ⟨d70, hd70⟩ : ∃ v, FP.l2d v69 = v := ⟨_, rfl⟩
  refine OwnGo.pre (fun t k => XT.lstore X0.here hx rfl (hb hby d4_41) rfl (l' := #[sI (1 : Int32), sI cnt, sR o0, sR o1, sR o2, sR o3, sR o4, sR o5, sJ q0, uS, sJ q1, uS, sJ q2, uS, sJ q3, uS, sJ q4, uS, sJ q5, uS, sJ v67, uS, sJ v68, uS]) rfl (XS.aloadN X0.here hx rfl (hb hby d4_43) rfl rfl (XS.iloadN X0.here hx rfl (hb hby d4_44) rfl (own_daL X0 hx hZ e0 Aa0 (j := (1 : Int32)) (by decide) (i := 1) (by decide) (x := u0_1) rfl (g := (mkF m 45 #[sI (1 : Int32), sI cnt, sR o0, sR o1, sR o2, sR o3, sR o4, sR o5, sJ q0, uS, sJ q1, uS, sJ q2, uS, sJ q3, uS, sJ q4, uS, sJ q5, uS, sJ v67, uS, sJ v68, uS] [(.int (1 : Int32)), (.ref o0)])) rfl (rest := []) rfl (hb hby d4_45) (XT.lload X0.here hx rfl (hb hby d4_46) rfl (XT.lload X0.here hx rfl (hb hby d4_48) rfl (own_ladd X0.here hx rfl (hb hby d4_50) rfl hv69 (XS.l2dS X0.here hx rfl (hb hby d4_51) rfl hd70 k)))))))) ?_
  show OwnGo _ _ _ _ (s₁.setTop (mkF m 52 #[sI (1 : Int32), sI cnt, sR o0, sR o1, sR o2, sR o3, sR o4, sR o5, sJ q0, uS, sJ q1, uS, sJ q2, uS, sJ q3, uS, sJ q4, uS, sJ q5, uS, sJ v67, uS, sJ v68, uS] [(.double d70), (.double u0_1)]))
  have D70 : OwnDS 0 j69 d70 := by rw [← hd70]; exact own_l2db F69 B69 (by decide)
  obtain ⟨v71, hv71⟩ : ∃ v, q1 + q3 = v := ⟨_, rfl⟩
  refine OwnGo.pre (fun t k => XS.dcmpS X0.here hx rfl (hb hby d4_52) rfl rfl (XS.ifNo X0.here hx rfl (hb hby d4_53) rfl ((own_brD .ne Dd0 D70 _).trans (decide_eq_false (fun q => q (by simp only [hj69])))) (XS.aloadN X0.here hx rfl (hb hby d4_56) rfl rfl (XS.iloadN X0.here hx rfl (hb hby d4_57) rfl (own_daL X0 hx hZ e0 Aa1 (j := (1 : Int32)) (by decide) (i := 1) (by decide) (x := u1_1) rfl (g := (mkF m 58 #[sI (1 : Int32), sI cnt, sR o0, sR o1, sR o2, sR o3, sR o4, sR o5, sJ q0, uS, sJ q1, uS, sJ q2, uS, sJ q3, uS, sJ q4, uS, sJ q5, uS, sJ v67, uS, sJ v68, uS] [(.int (1 : Int32)), (.ref o1)])) rfl (rest := []) rfl (hb hby d4_58) (XT.lload X0.here hx rfl (hb hby d4_59) rfl (XT.lload X0.here hx rfl (hb hby d4_61) rfl (own_ladd X0.here hx rfl (hb hby d4_63) rfl hv71 k)))))))) ?_
  show OwnGo _ _ _ _ (s₁.setTop (mkF m 64 #[sI (1 : Int32), sI cnt, sR o0, sR o1, sR o2, sR o3, sR o4, sR o5, sJ q0, uS, sJ q1, uS, sJ q2, uS, sJ q3, uS, sJ q4, uS, sJ q5, uS, sJ v67, uS, sJ v68, uS] [(.long v71), (.double u1_1)]))
  obtain ⟨j71, hj71⟩ : ∃ i : Int, i = i1 + i3 := ⟨_, rfl⟩
  have B71 : -1048576 ≤ j71 ∧ j71 ≤ 1048576 := by rw [hj71]; exact own_bd_add Bb1 Bb3 (by decide)
  have F71 : v71.toInt = j71 := own_lf_add hv71 Ff1 Ff3 Bb1 Bb3 (by decide) hj71
  obtain ⟨d72, hd72⟩ : ∃ v, FP.l2d v71 = v := ⟨_, rfl⟩
  have D72 : OwnDS 0 j71 d72 := by rw [← hd72]; exact own_l2db F71 B71 (by decide)
  refine OwnGo.pre (fun t k => XS.l2dS X0.here hx rfl (hb hby d4_64) rfl hd72 (XS.dcmpS X0.here hx rfl (hb hby d4_65) rfl rfl (XS.ifNo X0.here hx rfl (hb hby d4_66) rfl ((own_brD .ne Dd1 D72 _).trans (decide_eq_false (fun q => q (by simp only [hj71])))) (XS.aload X0.here hx rfl (hb hby d4_69) rfl rfl (XS.iloadN X0.here hx rfl (hb hby d4_71) rfl (own_daL X0 hx hZ e0 Aa2 (j := (1 : Int32)) (by decide) (i := 1) (by decide) (x := u2_1) rfl (g := (mkF m 72 #[sI (1 : Int32), sI cnt, sR o0, sR o1, sR o2, sR o3, sR o4, sR o5, sJ q0, uS, sJ q1, uS, sJ q2, uS, sJ q3, uS, sJ q4, uS, sJ q5, uS, sJ v67, uS, sJ v68, uS] [(.int (1 : Int32)), (.ref o2)])) rfl (rest := []) rfl (hb hby d4_72) (XT.lload X0.here hx rfl (hb hby d4_73) rfl (XT.lload X0.here hx rfl (hb hby d4_75) rfl k)))))))) ?_
  show OwnGo _ _ _ _ (s₁.setTop (mkF m 77 #[sI (1 : Int32), sI cnt, sR o0, sR o1, sR o2, sR o3, sR o4, sR o5, sJ q0, uS, sJ q1, uS, sJ q2, uS, sJ q3, uS, sJ q4, uS, sJ q5, uS, sJ v67, uS, sJ v68, uS] [(.long q4), (.long v67), (.double u2_1)]))
  obtain ⟨v73, hv73⟩ : ∃ v, v67 * q4 = v := ⟨_, rfl⟩
  obtain ⟨j73, hj73⟩ : ∃ i : Int, i = j67 * i4 := ⟨_, rfl⟩
  have B73 : -549755813888 ≤ j73 ∧ j73 ≤ 549755813888 := by rw [hj73]; exact own_bd_mul B67 Bb4 (by decide)
  have F73 : v73.toInt = j73 := own_lf_mul hv73 F67 Ff4 B67 Bb4 (by decide) hj73
  obtain ⟨v74, hv74⟩ : ∃ v, v68 * q5 = v := ⟨_, rfl⟩
  obtain ⟨j74, hj74⟩ : ∃ i : Int, i = j68 * i5 := ⟨_, rfl⟩
  have B74 : -549755813888 ≤ j74 ∧ j74 ≤ 549755813888 := by rw [hj74]; exact own_bd_mul B68 Bb5 (by decide)
  have F74 : v74.toInt = j74 := own_lf_mul hv74 F68 Ff5 B68 Bb5 (by decide) hj74
  obtain ⟨v75, hv75⟩ : ∃ v, v73 + v74 = v := ⟨_, rfl⟩
  obtain ⟨j75, hj75⟩ : ∃ i : Int, i = j73 + j74 := ⟨_, rfl⟩
  have B75 : -1099511627776 ≤ j75 ∧ j75 ≤ 1099511627776 := by rw [hj75]; exact own_bd_add B73 B74 (by decide)
  have F75 : v75.toInt = j75 := own_lf_add hv75 F73 F74 B73 B74 (by decide) hj75
  obtain ⟨d76, hd76⟩ : ∃ v, FP.l2d v75 = v := ⟨_, rfl⟩
  have D76 : OwnDS 0 j75 d76 := by rw [← hd76]; exact own_l2db F75 B75 (by decide)
  refine OwnGo.pre (fun t k => own_lmul X0.here hx rfl (hb hby d4_77) rfl hv73 (XT.lload X0.here hx rfl (hb hby d4_78) rfl (XT.lload X0.here hx rfl (hb hby d4_80) rfl (own_lmul X0.here hx rfl (hb hby d4_82) rfl hv74 (own_ladd X0.here hx rfl (hb hby d4_83) rfl hv75 (XS.l2dS X0.here hx rfl (hb hby d4_84) rfl hd76 (XS.dcmpS X0.here hx rfl (hb hby d4_85) rfl rfl (XS.ifNo X0.here hx rfl (hb hby d4_86) rfl ((own_brD .ne Dd2 D76 _).trans (decide_eq_false (fun q => q (by simp only [hj75, hj73, hj67, hj74, hj68])))) k)))))))) ?_
  show OwnGo _ _ _ _ (s₁.setTop (mkF m 89 #[sI (1 : Int32), sI cnt, sR o0, sR o1, sR o2, sR o3, sR o4, sR o5, sJ q0, uS, sJ q1, uS, sJ q2, uS, sJ q3, uS, sJ q4, uS, sJ q5, uS, sJ v67, uS, sJ v68, uS] []))
  obtain ⟨v77, hv77⟩ : ∃ v, v68 * q4 = v := ⟨_, rfl⟩
  obtain ⟨j77, hj77⟩ : ∃ i : Int, i = j68 * i4 := ⟨_, rfl⟩
  have B77 : -549755813888 ≤ j77 ∧ j77 ≤ 549755813888 := by rw [hj77]; exact own_bd_mul B68 Bb4 (by decide)
  have F77 : v77.toInt = j77 := own_lf_mul hv77 F68 Ff4 B68 Bb4 (by decide) hj77
  refine OwnGo.pre (fun t k => XS.aload X0.here hx rfl (hb hby d4_89) rfl rfl (XS.iloadN X0.here hx rfl (hb hby d4_91) rfl (own_daL X0 hx hZ e0 Aa3 (j := (1 : Int32)) (by decide) (i := 1) (by decide) (x := u3_1) rfl (g := (mkF m 92 #[sI (1 : Int32), sI cnt, sR o0, sR o1, sR o2, sR o3, sR o4, sR o5, sJ q0, uS, sJ q1, uS, sJ q2, uS, sJ q3, uS, sJ q4, uS, sJ q5, uS, sJ v67, uS, sJ v68, uS] [(.int (1 : Int32)), (.ref o3)])) rfl (rest := []) rfl (hb hby d4_92) (XT.lload X0.here hx rfl (hb hby d4_93) rfl (XT.lload X0.here hx rfl (hb hby d4_95) rfl (own_lmul X0.here hx rfl (hb hby d4_97) rfl hv77 (XT.lload X0.here hx rfl (hb hby d4_98) rfl (XT.lload X0.here hx rfl (hb hby d4_100) rfl k)))))))) ?_
  show OwnGo _ _ _ _ (s₁.setTop (mkF m 102 #[sI (1 : Int32), sI cnt, sR o0, sR o1, sR o2, sR o3, sR o4, sR o5, sJ q0, uS, sJ q1, uS, sJ q2, uS, sJ q3, uS, sJ q4, uS, sJ q5, uS, sJ v67, uS, sJ v68, uS] [(.long q5), (.long v67), (.long v77), (.double u3_1)]))
  obtain ⟨v78, hv78⟩ : ∃ v, v67 * q5 = v := ⟨_, rfl⟩
  obtain ⟨j78, hj78⟩ : ∃ i : Int, i = j67 * i5 := ⟨_, rfl⟩
  have B78 : -549755813888 ≤ j78 ∧ j78 ≤ 549755813888 := by rw [hj78]; exact own_bd_mul B67 Bb5 (by decide)
  have F78 : v78.toInt = j78 := own_lf_mul hv78 F67 Ff5 B67 Bb5 (by decide) hj78
  obtain ⟨v79, hv79⟩ : ∃ v, v77 - v78 = v := ⟨_, rfl⟩
  obtain ⟨j79, hj79⟩ : ∃ i : Int, i = j77 - j78 := ⟨_, rfl⟩
  have B79 : -1099511627776 ≤ j79 ∧ j79 ≤ 1099511627776 := by rw [hj79]; exact own_bd_sub B77 B78 (by decide)
  have F79 : v79.toInt = j79 := own_lf_sub hv79 F77 F78 B77 B78 (by decide) hj79
  obtain ⟨d80, hd80⟩ : ∃ v, FP.l2d v79 = v := ⟨_, rfl⟩
  have D80 : OwnDS 0 j79 d80 := by rw [← hd80]; exact own_l2db F79 B79 (by decide)
  refine OwnGo.pre (fun t k => own_lmul X0.here hx rfl (hb hby d4_102) rfl hv78 (own_lsub X0.here hx rfl (hb hby d4_103) rfl hv79 (XS.l2dS X0.here hx rfl (hb hby d4_104) rfl hd80 (XS.dcmpS X0.here hx rfl (hb hby d4_105) rfl rfl (XS.ifNo X0.here hx rfl (hb hby d4_106) rfl ((own_brD .ne Dd3 D80 _).trans (decide_eq_false (fun q => q (by simp only [hj79, hj77, hj68, hj78, hj67])))) (XS.iconst X0.here hx rfl (hb hby d4_109) (XS.goto X0.here hx rfl (pc0 := 110) (pc' := 114) rfl (hb hby d4_110) (by decide) (by decide) k))))))) ?_
  show OwnGo _ _ _ _ (s₁.setTop (mkF m 114 #[sI (1 : Int32), sI cnt, sR o0, sR o1, sR o2, sR o3, sR o4, sR o5, sJ q0, uS, sJ q1, uS, sJ q2, uS, sJ q3, uS, sJ q4, uS, sJ q5, uS, sJ v67, uS, sJ v68, uS] [(.int (1 : Int32))]))
  exact own_retZ X0 hx hk hrt (hb hby d4_114) ⟨rfl, N0, e0⟩ (by decide) (by decide)
theorem pn_rmC1g : plainName "com/example/isochron/isochron/dsp/RowButterfliesForwardPinLaw" = true := by first | (simp [plainName, overriddenIn]; done) | decide +kernel
theorem pd_rmC1g : parseMethodDescriptor "(II[D[D[D[D[D[DJJJJJJ)Z" = some ⟨[.int, .int, (.array .double), (.array .double), (.array .double), (.array .double), (.array .double), (.array .double), .long, .long, .long, .long, .long, .long], (some .boolean)⟩ := by decide +kernel
theorem ef_rmC1g (m : MethodId) (cnt : Int32) (o0 o1 o2 o3 o4 o5 : Addr) (u0_0 u0_1 u1_0 u1_1 u2_0 u2_1 u3_0 u3_1 u4_0 u4_1 u5_0 u5_1 : UInt64) (q0 q1 q2 q3 q4 q5 : Int64) (i0 i1 i2 i3 i4 i5 : Int) : entryFrame m #[(.int (1 : Int32)), (.int cnt), (.ref o0), (.ref o1), (.ref o2), (.ref o3), (.ref o4), (.ref o5), (.long q0), (.long q1), (.long q2), (.long q3), (.long q4), (.long q5)] 24 = (mkF m 0 #[sI (1 : Int32), sI cnt, sR o0, sR o1, sR o2, sR o3, sR o4, sR o5, sJ q0, uS, sJ q1, uS, sJ q2, uS, sJ q3, uS, sJ q4, uS, sJ q5, uS, uU, uU, uU, uU] []) := by first | (simp [entryFrame, mkF, argsToLocals, Value.category, maxLocals]; done) | rfl
def Q_rmC1g (Z : State) (cnt : Int32) (o0 o1 o2 o3 o4 o5 : Addr) (u0_0 u0_1 u1_0 u1_1 u2_0 u2_1 u3_0 u3_1 u4_0 u4_1 u5_0 u5_1 : UInt64) (q0 q1 q2 q3 q4 q5 : Int64) (i0 i1 i2 i3 i4 i5 : Int) (h0 : Heap) (n0 : Nat) (v : Option Value) (h : Heap) (L : List Loc) : Prop := v = some (.int 1) ∧ Fr n0 L ∧ h = h0
set_option maxRecDepth 65536 in
set_option maxHeartbeats 40000000 in
theorem rmC1g (l : Launch) (Z : State) (a0 : Array Value) (hw : ∀ d ∈ tables_1, d.before a0 Z = true) (ws : List Jvm.Cond) (cnt : Int32) (o0 o1 o2 o3 o4 o5 : Addr) (u0_0 u0_1 u1_0 u1_1 u2_0 u2_1 u3_0 u3_1 u4_0 u4_1 u5_0 u5_1 : UInt64) (q0 q1 q2 q3 q4 q5 : Int64) (i0 i1 i2 i3 i4 i5 : Int) (h0 : Heap) (n0 : Nat) (Z0 : n0 ≤ h0.size) (Aa0 : OwnDA Z h0 o0 [u0_0, u0_1]) (Aa1 : OwnDA Z h0 o1 [u1_0, u1_1]) (Aa2 : OwnDA Z h0 o2 [u2_0, u2_1]) (Aa3 : OwnDA Z h0 o3 [u3_0, u3_1]) (Aa4 : OwnDA Z h0 o4 [u4_0, u4_1]) (Aa5 : OwnDA Z h0 o5 [u5_0, u5_1]) (Dd0 : OwnDS 0 (i0) u0_1) (Dd1 : OwnDS 0 (i1) u1_1) (Dd2 : OwnDS 0 (i2) u2_1) (Dd3 : OwnDS 0 (i3) u3_1) (Dd4 : OwnDS 0 (i4) u4_1) (Dd5 : OwnDS 0 (i5) u5_1) (Ff0 : q0.toInt = i0) (Bb0 : -524288 ≤ i0 ∧ i0 ≤ 524288) (Ff1 : q1.toInt = i1) (Bb1 : -524288 ≤ i1 ∧ i1 ≤ 524288) (Ff2 : q2.toInt = i2) (Bb2 : -524288 ≤ i2 ∧ i2 ≤ 524288) (Ff3 : q3.toInt = i3) (Bb3 : -524288 ≤ i3 ∧ i3 ≤ 524288) (Ff4 : q4.toInt = i4) (Bb4 : -524288 ≤ i4 ∧ i4 ≤ 524288) (Ff5 : q5.toInt = i5) (Bb5 : -524288 ≤ i5 ∧ i5 ≤ 524288) (hcnt : cnt.toInt ≤ 1) :
    MetFree l (⟨"com/example/isochron/isochron/dsp/RowButterfliesForwardPinLaw", "check", "(II[D[D[D[D[D[DJJJJJJ)Z"⟩ : MethodName) (head1 (Jvm.Cond.code (⟨"com/example/isochron/isochron/dsp/RowButterfliesForwardPinLaw", "check", "(II[D[D[D[D[D[DJJJJJJ)Z"⟩ : MethodName) method_4_code 24 (some .boolean) :: ws) ({ frames := 0, cells := 0, slots := 0, locals := 0 } : Room)) (fun a U => a = #[(.int (1 : Int32)), (.int cnt), (.ref o0), (.ref o1), (.ref o2), (.ref o3), (.ref o4), (.ref o5), (.long q0), (.long q1), (.long q2), (.long q3), (.long q4), (.long q5)] ∧ Z.Warmed39 U.vm ∧ U.heap = h0) (fun _ _ _ _ _ => True) (fun _ U oO U' => ∃ v L, oO = .returned v ∧ Q_rmC1g Z cnt o0 o1 o2 o3 o4 o5 u0_0 u0_1 u1_0 u1_1 u2_0 u2_1 u3_0 u3_1 u4_0 u4_1 u5_0 u5_1 q0 q1 q2 q3 q4 q5 i0 i1 i2 i3 i4 i5 h0 n0 v U'.heap L ∧ FrameEnd U oO U' L ({ frames := 0, cells := 0, slots := 0, locals := 0 } : Room).cells ({ frames := 0, cells := 0, slots := 0, locals := 0 } : Room).slots) := by
  refine MetFree.of_bodySF (plainFor_of_name pn_rmC1g) hisR ?_
  intro p e s m args below meth c s₁ Bd hml0 hP hK
  obtain ⟨rfl, hZ, hh⟩ := hP
  have hx := Bd.exec
  have hby := Bd.bytes
  have hml : c.maxLocals = 24 := hml0
  have hown : s.vm.findClass "com/example/isochron/isochron/dsp/RowButterfliesForwardPinLaw" = some m.cls := findClass_of_methodNamed Bd.named
  have hnm := (name_of_methodNamed Bd.named Bd.method).1
  have hk := Bd.notSynchronized
  have hrt := Bd.returns
  have X0 : Stand p l e ({ frames := 0, cells := 0, slots := 0, locals := 0 } : Room) s m #[(.int (1 : Int32)), (.int cnt), (.ref o0), (.ref o1), (.ref o2), (.ref o3), (.ref o4), (.ref o5), (.long q0), (.long q1), (.long q2), (.long q3), (.long q4), (.long q5)] below meth c s₁ [] 0 0 := Stand.of_body Bd
  have e0 : s₁.heap = h0 := by rw [← hh, Bd.state]; rfl
  have N0 := Fr.nil n0
  show OwnGo p.tables e below (OwnEnd s (Q_rmC1g Z cnt o0 o1 o2 o3 o4 o5 u0_0 u0_1 u1_0 u1_1 u2_0 u2_1 u3_0 u3_1 u4_0 u4_1 u5_0 u5_1 q0 q1 q2 q3 q4 q5 i0 i1 i2 i3 i4 i5 h0 n0) ({ frames := 0, cells := 0, slots := 0, locals := 0 } : Room).cells ({ frames := 0, cells := 0, slots := 0, locals := 0 } : Room).slots) _
  refine OwnGo.pre (fun t k => castTop (ef_rmC1g m cnt o0 o1 o2 o3 o4 o5 u0_0 u0_1 u1_0 u1_1 u2_0 u2_1 u3_0 u3_1 u4_0 u4_1 u5_0 u5_1 q0 q1 q2 q3 q4 q5 i0 i1 i2 i3 i4 i5) k) ?_
  show OwnGo _ _ _ _ (s₁.setTop (mkF m 0 #[sI (1 : Int32), sI cnt, sR o0, sR o1, sR o2, sR o3, sR o4, sR o5, sJ q0, uS, sJ q1, uS, sJ q2, uS, sJ q3, uS, sJ q4, uS, sJ q5, uS, uU, uU, uU, uU] []))
  obtain ⟨d81, hd81⟩ : ∃ v, FP.l2d q4 = v := ⟨_, rfl⟩
  have D81 : OwnDS 0 i4 d81 := by rw [← hd81]; exact own_l2db Ff4 Bb4 (by decide)
  refine OwnGo.pre (fun t k => XS.aload X0.here hx rfl (hb hby d4_0) rfl rfl (XS.iloadN X0.here hx rfl (hb hby d4_2) rfl (own_daL X0 hx hZ e0 Aa4 (j := (1 : Int32)) (by decide) (i := 1) (by decide) (x := u4_1) rfl (g := (mkF m 3 #[sI (1 : Int32), sI cnt, sR o0, sR o1, sR o2, sR o3, sR o4, sR o5, sJ q0, uS, sJ q1, uS, sJ q2, uS, sJ q3, uS, sJ q4, uS, sJ q5, uS, uU, uU, uU, uU] [(.int (1 : Int32)), (.ref o4)])) rfl (rest := []) rfl (hb hby d4_3) (XT.lload X0.here hx rfl (hb hby d4_4) rfl (XS.l2dS X0.here hx rfl (hb hby d4_6) rfl hd81 (XS.dcmpS X0.here hx rfl (hb hby d4_7) rfl rfl (XS.ifNo X0.here hx rfl (hb hby d4_8) rfl ((own_brD .ne Dd4 D81 _).trans (decide_eq_false (fun q => q rfl))) (XS.aload X0.here hx rfl (hb hby d4_11) rfl rfl k)))))))) ?_
  show OwnGo _ _ _ _ (s₁.setTop (mkF m 13 #[sI (1 : Int32), sI cnt, sR o0, sR o1, sR o2, sR o3, sR o4, sR o5, sJ q0, uS, sJ q1, uS, sJ q2, uS, sJ q3, uS, sJ q4, uS, sJ q5, uS, uU, uU, uU, uU] [(.ref o5)]))
  obtain ⟨d82, hd82⟩ : ∃ v, FP.l2d q5 = v := ⟨_, rfl⟩
  have D82 : OwnDS 0 i5 d82 := by rw [← hd82]; exact own_l2db Ff5 Bb5 (by decide)
  refine OwnGo.pre (fun t k => XS.iloadN X0.here hx rfl (hb hby d4_13) rfl (own_daL X0 hx hZ e0 Aa5 (j := (1 : Int32)) (by decide) (i := 1) (by decide) (x := u5_1) rfl (g := (mkF m 14 #[sI (1 : Int32), sI cnt, sR o0, sR o1, sR o2, sR o3, sR o4, sR o5, sJ q0, uS, sJ q1, uS, sJ q2, uS, sJ q3, uS, sJ q4, uS, sJ q5, uS, uU, uU, uU, uU] [(.int (1 : Int32)), (.ref o5)])) rfl (rest := []) rfl (hb hby d4_14) (XT.lload X0.here hx rfl (hb hby d4_15) rfl (XS.l2dS X0.here hx rfl (hb hby d4_17) rfl hd82 (XS.dcmpS X0.here hx rfl (hb hby d4_18) rfl rfl (XS.ifYes X0.here hx rfl (pc0 := 19) (pc' := 24) rfl (hb hby d4_19) rfl ((own_brD .eq Dd5 D82 _).trans (decide_eq_true rfl)) (by decide) (by decide) (XS.iloadN X0.here hx rfl (hb hby d4_24) rfl (XS.iloadN X0.here hx rfl (hb hby d4_25) rfl k)))))))) ?_
  show OwnGo _ _ _ _ (s₁.setTop (mkF m 26 #[sI (1 : Int32), sI cnt, sR o0, sR o1, sR o2, sR o3, sR o4, sR o5, sJ q0, uS, sJ q1, uS, sJ q2, uS, sJ q3, uS, sJ q4, uS, sJ q5, uS, uU, uU, uU, uU] [(.int cnt), (.int (1 : Int32))]))
  have c0i : (1 : Int32).toInt = 1 := rfl
  obtain ⟨d83, hd83⟩ : ∃ v, FP.l2d q0 = v := ⟨_, rfl⟩
  have D83 : OwnDS 0 i0 d83 := by rw [← hd83]; exact own_l2db Ff0 Bb0 (by decide)
  refine OwnGo.pre (fun t k => XS.icmpYes X0.here hx rfl (pc0 := 26) (pc' := 115) rfl (hb hby d4_26) rfl ((own_br2 .ge _ _).trans (decide_eq_true (by omega))) (by decide) (by decide) (XS.aloadN X0.here hx rfl (hb hby d4_115) rfl rfl (XS.iloadN X0.here hx rfl (hb hby d4_116) rfl (own_daL X0 hx hZ e0 Aa0 (j := (1 : Int32)) (by decide) (i := 1) (by decide) (x := u0_1) rfl (g := (mkF m 117 #[sI (1 : Int32), sI cnt, sR o0, sR o1, sR o2, sR o3, sR o4, sR o5, sJ q0, uS, sJ q1, uS, sJ q2, uS, sJ q3, uS, sJ q4, uS, sJ q5, uS, uU, uU, uU, uU] [(.int (1 : Int32)), (.ref o0)])) rfl (rest := []) rfl (hb hby d4_117) (XT.lload X0.here hx rfl (hb hby d4_118) rfl (XS.l2dS X0.here hx rfl (hb hby d4_120) rfl hd83 (XS.dcmpS X0.here hx rfl (hb hby d4_121) rfl rfl (XS.ifNo X0.here hx rfl (hb hby d4_122) rfl ((own_brD .ne Dd0 D83 _).trans (decide_eq_false (fun q => q rfl))) k)))))))) ?_
  show OwnGo _ _ _ _ (s₁.setTop (mkF m 125 #[sI (1 : Int32), sI cnt, sR o0, sR o1, sR o2, sR o3, sR o4, sR o5, sJ q0, uS, sJ q1, uS, sJ q2, uS, sJ q3, uS, sJ q4, uS, sJ q5, uS, uU, uU, uU, uU] []))
  obtain ⟨d84, hd84⟩ : ∃ v, FP.l2d q1 = v := ⟨_, rfl⟩
  have D84 : OwnDS 0 i1 d84 := by rw [← hd84]; exact own_l2db Ff1 Bb1 (by decide)
  refine OwnGo.pre (fun t k => XS.aloadN X0.here hx rfl (hb hby d4_125) rfl rfl (XS.iloadN X0.here hx rfl (hb hby d4_126) rfl (own_daL X0 hx hZ e0 Aa1 (j := (1 : Int32)) (by decide) (i := 1) (by decide) (x := u1_1) rfl (g := (mkF m 127 #[sI (1 : Int32), sI cnt, sR o0, sR o1, sR o2, sR o3, sR o4, sR o5, sJ q0, uS, sJ q1, uS, sJ q2, uS, sJ q3, uS, sJ q4, uS, sJ q5, uS, uU, uU, uU, uU] [(.int (1 : Int32)), (.ref o1)])) rfl (rest := []) rfl (hb hby d4_127) (XT.lload X0.here hx rfl (hb hby d4_128) rfl (XS.l2dS X0.here hx rfl (hb hby d4_130) rfl hd84 (XS.dcmpS X0.here hx rfl (hb hby d4_131) rfl rfl (XS.ifNo X0.here hx rfl (hb hby d4_132) rfl ((own_brD .ne Dd1 D84 _).trans (decide_eq_false (fun q => q rfl))) (XS.aload X0.here hx rfl (hb hby d4_135) rfl rfl k)))))))) ?_
  show OwnGo _ _ _ _ (s₁.setTop (mkF m 137 #[sI (1 : Int32), sI cnt, sR o0, sR o1, sR o2, sR o3, sR o4, sR o5, sJ q0, uS, sJ q1, uS, sJ q2, uS, sJ q3, uS, sJ q4, uS, sJ q5, uS, uU, uU, uU, uU] [(.ref o2)]))
  obtain ⟨d85, hd85⟩ : ∃ v, FP.l2d q2 = v := ⟨_, rfl⟩
  have D85 : OwnDS 0 i2 d85 := by rw [← hd85]; exact own_l2db Ff2 Bb2 (by decide)
  refine OwnGo.pre (fun t k => XS.iloadN X0.here hx rfl (hb hby d4_137) rfl (own_daL X0 hx hZ e0 Aa2 (j := (1 : Int32)) (by decide) (i := 1) (by decide) (x := u2_1) rfl (g := (mkF m 138 #[sI (1 : Int32), sI cnt, sR o0, sR o1, sR o2, sR o3, sR o4, sR o5, sJ q0, uS, sJ q1, uS, sJ q2, uS, sJ q3, uS, sJ q4, uS, sJ q5, uS, uU, uU, uU, uU] [(.int (1 : Int32)), (.ref o2)])) rfl (rest := []) rfl (hb hby d4_138) (XT.lload X0.here hx rfl (hb hby d4_139) rfl (XS.l2dS X0.here hx rfl (hb hby d4_141) rfl hd85 (XS.dcmpS X0.here hx rfl (hb hby d4_142) rfl rfl (XS.ifNo X0.here hx rfl (hb hby d4_143) rfl ((own_brD .ne Dd2 D85 _).trans (decide_eq_false (fun q => q rfl))) (XS.aload X0.here hx rfl (hb hby d4_146) rfl rfl (XS.iloadN X0.here hx rfl (hb hby d4_148) rfl k)))))))) ?_
  show OwnGo _ _ _ _ (s₁.setTop (mkF m 149 #[sI (1 : Int32), sI cnt, sR o0, sR o1, sR o2, sR o3, sR o4, sR o5, sJ q0, uS, sJ q1, uS, sJ q2, uS, sJ q3, uS, sJ q4, uS, sJ q5, uS, uU, uU, uU, uU] [(.int (1 : Int32)), (.ref o3)]))
  obtain ⟨d86, hd86⟩ : ∃ v, FP.l2d q3 = v := ⟨_, rfl⟩
  have D86 : OwnDS 0 i3 d86 := by rw [← hd86]; exact own_l2db Ff3 Bb3 (by decide)
  refine OwnGo.pre (fun t k => own_daL X0 hx hZ e0 Aa3 (j := (1 : Int32)) (by decide) (i := 1) (by decide) (x := u3_1) rfl (g := (mkF m 149 #[sI (1 : Int32), sI cnt, sR o0, sR o1, sR o2, sR o3, sR o4, sR o5, sJ q0, uS, sJ q1, uS, sJ q2, uS, sJ q3, uS, sJ q4, uS, sJ q5, uS, uU, uU, uU, uU] [(.int (1 : Int32)), (.ref o3)])) rfl (rest := []) rfl (hb hby d4_149) (XT.lload X0.here hx rfl (hb hby d4_150) rfl (XS.l2dS X0.here hx rfl (hb hby d4_152) rfl hd86 (XS.dcmpS X0.here hx rfl (hb hby d4_153) rfl rfl (XS.ifNo X0.here hx rfl (hb hby d4_154) rfl ((own_brD .ne Dd3 D86 _).trans (decide_eq_false (fun q => q rfl))) (XS.iconst X0.here hx rfl (hb hby d4_157) (XS.goto X0.here hx rfl (pc0 := 158) (pc' := 162) rfl (hb hby d4_158) (by decide) (by decide) k))))))) ?_
  show OwnGo _ _ _ _ (s₁.setTop (mkF m 162 #[sI (1 : Int32), sI cnt, sR o0, sR o1, sR o2, sR o3, sR o4, sR o5, sJ q0, uS, sJ q1, uS, sJ q2, uS, sJ q3, uS, sJ q4, uS, sJ q5, uS, uU, uU, uU, uU] [(.int (1 : Int32))]))
  exact own_retZ X0 hx hk hrt (hb hby d4_162) ⟨rfl, N0, e0⟩ (by decide) (by decide)
theorem own_rem3 (y : Int64) : (y &&& 3).toInt32 - (y &&& 3).toInt32 / 3 * 3 = 0 ∨ (y &&& 3).toInt32 - (y &&& 3).toInt32 / 3 * 3 = 1 ∨ (y &&& 3).toInt32 - (y &&& 3).toInt32 / 3 * 3 = 2 := by
  have q := Jvm.Kit.i64_mask y 3 (k := 2) (by decide) (by decide)
  have h : y &&& 3 = 0 ∨ y &&& 3 = 1 ∨ y &&& 3 = 2 ∨ y &&& 3 = 3 := by
    have h0 : (0 : Int64).toInt = 0 := rfl
    have h1 : (1 : Int64).toInt = 1 := rfl
    have h2 : (2 : Int64).toInt = 2 := rfl
    have h3 : (3 : Int64).toInt = 3 := rfl
    rw [← Int64.toInt_inj, ← Int64.toInt_inj, ← Int64.toInt_inj, ← Int64.toInt_inj, h0, h1, h2, h3]
    omega
  rcases h with h | h | h | h <;> rw [h] <;> decide
theorem pn_rmL : plainName "com/example/isochron/isochron/dsp/RowButterfliesForwardPinLaw" = true := by first | (simp [plainName, overriddenIn]; done) | decide +kernel
theorem ef_rmL (m : MethodId) (p0 p1 p2 p3 p4 p5 : Int64) : entryFrame m #[(.long p0), (.long p1), (.long p2), (.long p3), (.long p4), (.long p5)] maxLocals = (mkF m 0 #[sJ p0, uS, sJ p1, uS, sJ p2, uS, sJ p3, uS, sJ p4, uS, sJ p5, uS, uU, uU, uU, uU, uU, uU, uU, uU, uU, uU, uU, uU, uU, uU, uU, uU, uU, uU, uU, uU, uU, uU, uU, uU, uU, uU, uU, uU, uU, uU, uU] []) := by first | (simp [entryFrame, mkF, argsToLocals, Value.category, maxLocals]; done) | rfl
def Q_rmL (Z : State) (p0 p1 p2 p3 p4 p5 : Int64) (h0 : Heap) (n0 : Nat) (v : Option Value) (h : Heap) (L : List Loc) : Prop := v = some (.int 1) ∧ Fr n0 L
set_option maxRecDepth 65536 in
set_option maxHeartbeats 40000000 in
theorem rmL (l : Launch) (Z : State) (a0 : Array Value) (hw : ∀ d ∈ tables_1, d.before a0 Z = true) (ws : List Jvm.Cond) (p0 p1 p2 p3 p4 p5 : Int64) (h0 : Heap) (n0 : Nat) (Z0 : n0 ≤ h0.size)  :
    MetFree l x (head1 (Jvm.Cond.code x code maxLocals ret :: ws) room_1) (fun a U => a = #[(.long p0), (.long p1), (.long p2), (.long p3), (.long p4), (.long p5)] ∧ Z.Warmed39 U.vm ∧ U.heap = h0) (fun _ _ _ _ _ => True) (fun _ U oO U' => ∃ v L, oO = .returned v ∧ Q_rmL Z p0 p1 p2 p3 p4 p5 h0 n0 v U'.heap L ∧ FrameEnd U oO U' L room_1.cells room_1.slots) := by
  refine MetFree.of_bodySF (plainFor_of_name pn_rmL) hisR ?_
  intro p e s m args below meth c s₁ Bd hml0 hP hK
  obtain ⟨rfl, hZ, hh⟩ := hP
  have hx := Bd.exec
  have hby := Bd.bytes
  have hml : c.maxLocals = 43 := hml0
  have hown : s.vm.findClass "com/example/isochron/isochron/dsp/RowButterfliesForwardPinLaw" = some m.cls := findClass_of_methodNamed Bd.named
  have hnm := (name_of_methodNamed Bd.named Bd.method).1
  have hk := Bd.notSynchronized
  have hrt := Bd.returns
  have X0 : Stand p l e room_1 s m #[(.long p0), (.long p1), (.long p2), (.long p3), (.long p4), (.long p5)] below meth c s₁ [] 0 0 := Stand.of_body Bd
  have e0 : s₁.heap = h0 := by rw [← hh, Bd.state]; rfl
  have N0 := Fr.nil n0
  show OwnGo p.tables e below (OwnEnd s (Q_rmL Z p0 p1 p2 p3 p4 p5 h0 n0) room_1.cells room_1.slots) _
  refine OwnGo.pre (fun t k => castTop (ef_rmL m p0 p1 p2 p3 p4 p5) k) ?_
  show OwnGo _ _ _ _ (s₁.setTop (mkF m 0 #[sJ p0, uS, sJ p1, uS, sJ p2, uS, sJ p3, uS, sJ p4, uS, sJ p5, uS, uU, uU, uU, uU, uU, uU, uU, uU, uU, uU, uU, uU, uU, uU, uU, uU, uU, uU, uU, uU, uU, uU, uU, uU, uU, uU, uU, uU, uU, uU, uU] []))
  obtain ⟨cnt, hcnt⟩ : ∃ v, (((XT.ushrL p0 (60 : Int32)) &&& (3 : Int64)).toInt32) - (((XT.ushrL p0 (60 : Int32)) &&& (3 : Int64)).toInt32) / (3 : Int32) * (3 : Int32) = v := ⟨_, rfl⟩
  refine OwnGo.pre (fun t k => XT.lloadN X0.here hx rfl (hb hby at_0) rfl (XS.bipush X0.here hx rfl (hb hby at_1) (own_lushr X0.here hx rfl (hb hby at_3) rfl rfl (own_ldcJ X0 hx hown (mvT hZ (hw _ (List.mem_of_getElem? (i := 0) rfl))) rfl (hb hby at_4) (own_land X0.here hx rfl (hb hby at_7) rfl rfl (own_l2i X0.here hx rfl (hb hby at_8) rfl rfl (XS.iconst X0.here hx rfl (hb hby at_9) (own_irem X0.here hx rfl (hb hby at_10) rfl (by decide) hcnt k)))))))) ?_
  show OwnGo _ _ _ _ (s₁.setTop (mkF m 11 #[sJ p0, uS, sJ p1, uS, sJ p2, uS, sJ p3, uS, sJ p4, uS, sJ p5, uS, uU, uU, uU, uU, uU, uU, uU, uU, uU, uU, uU, uU, uU, uU, uU, uU, uU, uU, uU, uU, uU, uU, uU, uU, uU, uU, uU, uU, uU, uU, uU] [(.int cnt)]))
  have ccnt : cnt = 0 ∨ cnt = 1 ∨ cnt = 2 := hcnt ▸ own_rem3 _
  refine OwnGo.pre (fun t k => XS.istore X0.here hx rfl (hb hby at_11) rfl (l' := #[sJ p0, uS, sJ p1, uS, sJ p2, uS, sJ p3, uS, sJ p4, uS, sJ p5, uS, sI cnt, uU, uU, uU, uU, uU, uU, uU, uU, uU, uU, uU, uU, uU, uU, uU, uU, uU, uU, uU, uU, uU, uU, uU, uU, uU, uU, uU, uU, uU, uU]) rfl (XT.lloadN X0.here hx rfl (hb hby at_13) rfl k)) ?_
  show OwnGo _ _ _ _ (s₁.setTop (mkF m 14 #[sJ p0, uS, sJ p1, uS, sJ p2, uS, sJ p3, uS, sJ p4, uS, sJ p5, uS, sI cnt, uU, uU, uU, uU, uU, uU, uU, uU, uU, uU, uU, uU, uU, uU, uU, uU, uU, uU, uU, uU, uU, uU, uU, uU, uU, uU, uU, uU, uU, uU] [(.long p0)]))
  obtain ⟨_, _, ⟨T87, L87, k87, n87⟩, -, X87, ⟨Lc87, hQ87, l87, y87, z87⟩, st87⟩ := Jvm.LawKit.callS X0 hx (y := (⟨"com/example/isochron/isochron/dsp/RowButterfliesForwardPinLaw", "lo", "(J)J"⟩ : MethodName)) hown (mvT hZ (hw _ (List.mem_of_getElem? (i := 1) rfl))) (mvT hZ (hw _ (List.mem_of_getElem? (i := 2) rfl))) (mvT hZ (hw _ (List.mem_of_getElem? (i := 3) rfl))) (mvT hZ (hw _ (List.mem_of_getElem? (i := 4) rfl))) (by decide) (backOf (W := 0) (rm := ({ frames := 0, cells := 0, slots := 0, locals := 0 } : Room)) (Q := Q_rmLo Z p0 h0 n0) (rmLo l Z a0 hw [] p0 h0 n0 Z0 ) hZ (hw _ (List.mem_of_getElem? (i := 4) rfl)) (hw _ (List.mem_of_getElem? (i := 3) rfl)) (by decide) (by decide)) (g := (mkF m 14 #[sJ p0, uS, sJ p1, uS, sJ p2, uS, sJ p3, uS, sJ p4, uS, sJ p5, uS, sI cnt, uU, uU, uU, uU, uU, uU, uU, uU, uU, uU, uU, uU, uU, uU, uU, uU, uU, uU, uU, uU, uU, uU, uU, uU, uU, uU, uU, uU, uU, uU] [(.long p0)])) rfl (by rw [hml]; rfl) (argsL := [(.long p0)]) (rest := []) (lenOf pd_rmLo rfl) rfl (by show 2 * 0 + _ ≤ _; exact Nat.le_of_eq rfl) (hb hby at_14) (fun _ _ => ⟨rfl, e0, (by decide : 0 + 0 ≤ _), (by decide : 0 + 0 ≤ _)⟩)
  dsimp only [Pt.U, Pt.locs, Pt.cells, Pt.slots] at X87 l87 y87 z87 st87 hQ87
  replace l87 := l87.symm
  replace y87 := y87.symm
  replace z87 := z87.symm
  subst l87 y87 z87
  obtain ⟨q0, rfl, bq0, N87, e87⟩ := hQ87
  refine OwnGo.pre (fun t k => st87 t k) ?_
  show OwnGo _ _ _ _ (T87.setTop (mkF m 17 #[sJ p0, uS, sJ p1, uS, sJ p2, uS, sJ p3, uS, sJ p4, uS, sJ p5, uS, sI cnt, uU, uU, uU, uU, uU, uU, uU, uU, uU, uU, uU, uU, uU, uU, uU, uU, uU, uU, uU, uU, uU, uU, uU, uU, uU, uU, uU, uU, uU, uU] [(.long q0)]))
  have M87 := Fr.app N0 N87
  obtain ⟨j1000, F1000⟩ : ∃ i : Int, q0.toInt = i := ⟨_, rfl⟩
  rw [F1000] at bq0
  refine OwnGo.pre (fun t k => XT.lstore X87.here hx rfl (hb hby at_17) rfl (l' := #[sJ p0, uS, sJ p1, uS, sJ p2, uS, sJ p3, uS, sJ p4, uS, sJ p5, uS, sI cnt, sJ q0, uS, uU, uU, uU, uU, uU, uU, uU, uU, uU, uU, uU, uU, uU, uU, uU, uU, uU, uU, uU, uU, uU, uU, uU, uU, uU, uU, uU, uU]) rfl (XT.lloadN X87.here hx rfl (hb hby at_19) rfl k)) ?_
  show OwnGo _ _ _ _ (T87.setTop (mkF m 20 #[sJ p0, uS, sJ p1, uS, sJ p2, uS, sJ p3, uS, sJ p4, uS, sJ p5, uS, sI cnt, sJ q0, uS, uU, uU, uU, uU, uU, uU, uU, uU, uU, uU, uU, uU, uU, uU, uU, uU, uU, uU, uU, uU, uU, uU, uU, uU, uU, uU, uU, uU] [(.long p0)]))
  obtain ⟨_, _, ⟨T88, L88, k88, n88⟩, -, X88, ⟨Lc88, hQ88, l88, y88, z88⟩, st88⟩ := Jvm.LawKit.callS X87 hx (y := (⟨"com/example/isochron/isochron/dsp/RowButterfliesForwardPinLaw", "hi", "(J)J"⟩ : MethodName)) hown (mvT hZ (hw _ (List.mem_of_getElem? (i := 5) rfl))) (mvT hZ (hw _ (List.mem_of_getElem? (i := 6) rfl))) (mvT hZ (hw _ (List.mem_of_getElem? (i := 3) rfl))) (mvT hZ (hw _ (List.mem_of_getElem? (i := 7) rfl))) (by decide) (backOf (W := 0) (rm := ({ frames := 0, cells := 0, slots := 0, locals := 0 } : Room)) (Q := Q_rmHi Z p0 h0 n0) (rmHi l Z a0 hw [] p0 h0 n0 Z0 ) hZ (hw _ (List.mem_of_getElem? (i := 7) rfl)) (hw _ (List.mem_of_getElem? (i := 3) rfl)) (by decide) (by decide)) (g := (mkF m 20 #[sJ p0, uS, sJ p1, uS, sJ p2, uS, sJ p3, uS, sJ p4, uS, sJ p5, uS, sI cnt, sJ q0, uS, uU, uU, uU, uU, uU, uU, uU, uU, uU, uU, uU, uU, uU, uU, uU, uU, uU, uU, uU, uU, uU, uU, uU, uU, uU, uU, uU, uU] [(.long p0)])) rfl (by rw [hml]; rfl) (argsL := [(.long p0)]) (rest := []) (lenOf pd_rmHi rfl) rfl (by show 2 * 0 + _ ≤ _; exact Nat.le_of_eq rfl) (hb hby at_20) (fun _ _ => ⟨rfl, e87, (by decide : 0 + 0 ≤ _), (by decide : 0 + 0 ≤ _)⟩)
  dsimp only [Pt.U, Pt.locs, Pt.cells, Pt.slots] at X88 l88 y88 z88 st88 hQ88
  replace l88 := l88.symm
  replace y88 := y88.symm
  replace z88 := z88.symm
  subst l88 y88 z88
  obtain ⟨q1, rfl, bq1, N88, e88⟩ := hQ88
  refine OwnGo.pre (fun t k => st88 t k) ?_
  show OwnGo _ _ _ _ (T88.setTop (mkF m 23 #[sJ p0, uS, sJ p1, uS, sJ p2, uS, sJ p3, uS, sJ p4, uS, sJ p5, uS, sI cnt, sJ q0, uS, uU, uU, uU, uU, uU, uU, uU, uU, uU, uU, uU, uU, uU, uU, uU, uU, uU, uU, uU, uU, uU, uU, uU, uU, uU, uU, uU, uU] [(.long q1)]))
  have M88 := Fr.app M87 N88
  obtain ⟨j1001, F1001⟩ : ∃ i : Int, q1.toInt = i := ⟨_, rfl⟩
  rw [F1001] at bq1
  refine OwnGo.pre (fun t k => XT.lstore X88.here hx rfl (hb hby at_23) rfl (l' := #[sJ p0, uS, sJ p1, uS, sJ p2, uS, sJ p3, uS, sJ p4, uS, sJ p5, uS, sI cnt, sJ q0, uS, sJ q1, uS, uU, uU, uU, uU, uU, uU, uU, uU, uU, uU, uU, uU, uU, uU, uU, uU, uU, uU, uU, uU, uU, uU, uU, uU, uU, uU]) rfl (XT.lloadN X88.here hx rfl (hb hby at_25) rfl k)) ?_
  show OwnGo _ _ _ _ (T88.setTop (mkF m 26 #[sJ p0, uS, sJ p1, uS, sJ p2, uS, sJ p3, uS, sJ p4, uS, sJ p5, uS, sI cnt, sJ q0, uS, sJ q1, uS, uU, uU, uU, uU, uU, uU, uU, uU, uU, uU, uU, uU, uU, uU, uU, uU, uU, uU, uU, uU, uU, uU, uU, uU, uU, uU] [(.long p1)]))
  obtain ⟨_, _, ⟨T89, L89, k89, n89⟩, -, X89, ⟨Lc89, hQ89, l89, y89, z89⟩, st89⟩ := Jvm.LawKit.callS X88 hx (y := (⟨"com/example/isochron/isochron/dsp/RowButterfliesForwardPinLaw", "lo", "(J)J"⟩ : MethodName)) hown (mvT hZ (hw _ (List.mem_of_getElem? (i := 1) rfl))) (mvT hZ (hw _ (List.mem_of_getElem? (i := 2) rfl))) (mvT hZ (hw _ (List.mem_of_getElem? (i := 3) rfl))) (mvT hZ (hw _ (List.mem_of_getElem? (i := 4) rfl))) (by decide) (backOf (W := 0) (rm := ({ frames := 0, cells := 0, slots := 0, locals := 0 } : Room)) (Q := Q_rmLo Z p1 h0 n0) (rmLo l Z a0 hw [] p1 h0 n0 Z0 ) hZ (hw _ (List.mem_of_getElem? (i := 4) rfl)) (hw _ (List.mem_of_getElem? (i := 3) rfl)) (by decide) (by decide)) (g := (mkF m 26 #[sJ p0, uS, sJ p1, uS, sJ p2, uS, sJ p3, uS, sJ p4, uS, sJ p5, uS, sI cnt, sJ q0, uS, sJ q1, uS, uU, uU, uU, uU, uU, uU, uU, uU, uU, uU, uU, uU, uU, uU, uU, uU, uU, uU, uU, uU, uU, uU, uU, uU, uU, uU] [(.long p1)])) rfl (by rw [hml]; rfl) (argsL := [(.long p1)]) (rest := []) (lenOf pd_rmLo rfl) rfl (by show 2 * 0 + _ ≤ _; exact Nat.le_of_eq rfl) (hb hby at_26) (fun _ _ => ⟨rfl, e88, (by decide : 0 + 0 ≤ _), (by decide : 0 + 0 ≤ _)⟩)
  dsimp only [Pt.U, Pt.locs, Pt.cells, Pt.slots] at X89 l89 y89 z89 st89 hQ89
  replace l89 := l89.symm
  replace y89 := y89.symm
  replace z89 := z89.symm
  subst l89 y89 z89
  obtain ⟨q2, rfl, bq2, N89, e89⟩ := hQ89
  refine OwnGo.pre (fun t k => st89 t k) ?_
  show OwnGo _ _ _ _ (T89.setTop (mkF m 29 #[sJ p0, uS, sJ p1, uS, sJ p2, uS, sJ p3, uS, sJ p4, uS, sJ p5, uS, sI cnt, sJ q0, uS, sJ q1, uS, uU, uU, uU, uU, uU, uU, uU, uU, uU, uU, uU, uU, uU, uU, uU, uU, uU, uU, uU, uU, uU, uU, uU, uU, uU, uU] [(.long q2)]))
  have M89 := Fr.app M88 N89
  obtain ⟨j1002, F1002⟩ : ∃ i : Int, q2.toInt = i := ⟨_, rfl⟩
  rw [F1002] at bq2
  refine OwnGo.pre (fun t k => XT.lstore X89.here hx rfl (hb hby at_29) rfl (l' := #[sJ p0, uS, sJ p1, uS, sJ p2, uS, sJ p3, uS, sJ p4, uS, sJ p5, uS, sI cnt, sJ q0, uS, sJ q1, uS, sJ q2, uS, uU, uU, uU, uU, uU, uU, uU, uU, uU, uU, uU, uU, uU, uU, uU, uU, uU, uU, uU, uU, uU, uU, uU, uU]) rfl (XT.lloadN X89.here hx rfl (hb hby at_31) rfl k)) ?_
  show OwnGo _ _ _ _ (T89.setTop (mkF m 32 #[sJ p0, uS, sJ p1, uS, sJ p2, uS, sJ p3, uS, sJ p4, uS, sJ p5, uS, sI cnt, sJ q0, uS, sJ q1, uS, sJ q2, uS, uU, uU, uU, uU, uU, uU, uU, uU, uU, uU, uU, uU, uU, uU, uU, uU, uU, uU, uU, uU, uU, uU, uU, uU] [(.long p1)]))
  obtain ⟨_, _, ⟨T90, L90, k90, n90⟩, -, X90, ⟨Lc90, hQ90, l90, y90, z90⟩, st90⟩ := Jvm.LawKit.callS X89 hx (y := (⟨"com/example/isochron/isochron/dsp/RowButterfliesForwardPinLaw", "hi", "(J)J"⟩ : MethodName)) hown (mvT hZ (hw _ (List.mem_of_getElem? (i := 5) rfl))) (mvT hZ (hw _ (List.mem_of_getElem? (i := 6) rfl))) (mvT hZ (hw _ (List.mem_of_getElem? (i := 3) rfl))) (mvT hZ (hw _ (List.mem_of_getElem? (i := 7) rfl))) (by decide) (backOf (W := 0) (rm := ({ frames := 0, cells := 0, slots := 0, locals := 0 } : Room)) (Q := Q_rmHi Z p1 h0 n0) (rmHi l Z a0 hw [] p1 h0 n0 Z0 ) hZ (hw _ (List.mem_of_getElem? (i := 7) rfl)) (hw _ (List.mem_of_getElem? (i := 3) rfl)) (by decide) (by decide)) (g := (mkF m 32 #[sJ p0, uS, sJ p1, uS, sJ p2, uS, sJ p3, uS, sJ p4, uS, sJ p5, uS, sI cnt, sJ q0, uS, sJ q1, uS, sJ q2, uS, uU, uU, uU, uU, uU, uU, uU, uU, uU, uU, uU, uU, uU, uU, uU, uU, uU, uU, uU, uU, uU, uU, uU, uU] [(.long p1)])) rfl (by rw [hml]; rfl) (argsL := [(.long p1)]) (rest := []) (lenOf pd_rmHi rfl) rfl (by show 2 * 0 + _ ≤ _; exact Nat.le_of_eq rfl) (hb hby at_32) (fun _ _ => ⟨rfl, e89, (by decide : 0 + 0 ≤ _), (by decide : 0 + 0 ≤ _)⟩)
  dsimp only [Pt.U, Pt.locs, Pt.cells, Pt.slots] at X90 l90 y90 z90 st90 hQ90
  replace l90 := l90.symm
  replace y90 := y90.symm
  replace z90 := z90.symm
  subst l90 y90 z90
  obtain ⟨q3, rfl, bq3, N90, e90⟩ := hQ90
  refine OwnGo.pre (fun t k => st90 t k) ?_
  show OwnGo _ _ _ _ (T90.setTop (mkF m 35 #[sJ p0, uS, sJ p1, uS, sJ p2, uS, sJ p3, uS, sJ p4, uS, sJ p5, uS, sI cnt, sJ q0, uS, sJ q1, uS, sJ q2, uS, uU, uU, uU, uU, uU, uU, uU, uU, uU, uU, uU, uU, uU, uU, uU, uU, uU, uU, uU, uU, uU, uU, uU, uU] [(.long q3)]))
  have M90 := Fr.app M89 N90
  obtain ⟨j1003, F1003⟩ : ∃ i : Int, q3.toInt = i := ⟨_, rfl⟩
  rw [F1003] at bq3
  refine OwnGo.pre (fun t k => XT.lstore X90.here hx rfl (hb hby at_35) rfl (l' := #[sJ p0, uS, sJ p1, uS, sJ p2, uS, sJ p3, uS, sJ p4, uS, sJ p5, uS, sI cnt, sJ q0, uS, sJ q1, uS, sJ q2, uS, sJ q3, uS, uU, uU, uU, uU, uU, uU, uU, uU, uU, uU, uU, uU, uU, uU, uU, uU, uU, uU, uU, uU, uU, uU]) rfl (XT.lload X90.here hx rfl (hb hby at_37) rfl k)) ?_
  show OwnGo _ _ _ _ (T90.setTop (mkF m 39 #[sJ p0, uS, sJ p1, uS, sJ p2, uS, sJ p3, uS, sJ p4, uS, sJ p5, uS, sI cnt, sJ q0, uS, sJ q1, uS, sJ q2, uS, sJ q3, uS, uU, uU, uU, uU, uU, uU, uU, uU, uU, uU, uU, uU, uU, uU, uU, uU, uU, uU, uU, uU, uU, uU] [(.long p2)]))
  obtain ⟨_, _, ⟨T91, L91, k91, n91⟩, -, X91, ⟨Lc91, hQ91, l91, y91, z91⟩, st91⟩ := Jvm.LawKit.callS X90 hx (y := (⟨"com/example/isochron/isochron/dsp/RowButterfliesForwardPinLaw", "lo", "(J)J"⟩ : MethodName)) hown (mvT hZ (hw _ (List.mem_of_getElem? (i := 1) rfl))) (mvT hZ (hw _ (List.mem_of_getElem? (i := 2) rfl))) (mvT hZ (hw _ (List.mem_of_getElem? (i := 3) rfl))) (mvT hZ (hw _ (List.mem_of_getElem? (i := 4) rfl))) (by decide) (backOf (W := 0) (rm := ({ frames := 0, cells := 0, slots := 0, locals := 0 } : Room)) (Q := Q_rmLo Z p2 h0 n0) (rmLo l Z a0 hw [] p2 h0 n0 Z0 ) hZ (hw _ (List.mem_of_getElem? (i := 4) rfl)) (hw _ (List.mem_of_getElem? (i := 3) rfl)) (by decide) (by decide)) (g := (mkF m 39 #[sJ p0, uS, sJ p1, uS, sJ p2, uS, sJ p3, uS, sJ p4, uS, sJ p5, uS, sI cnt, sJ q0, uS, sJ q1, uS, sJ q2, uS, sJ q3, uS, uU, uU, uU, uU, uU, uU, uU, uU, uU, uU, uU, uU, uU, uU, uU, uU, uU, uU, uU, uU, uU, uU] [(.long p2)])) rfl (by rw [hml]; rfl) (argsL := [(.long p2)]) (rest := []) (lenOf pd_rmLo rfl) rfl (by show 2 * 0 + _ ≤ _; exact Nat.le_of_eq rfl) (hb hby at_39) (fun _ _ => ⟨rfl, e90, (by decide : 0 + 0 ≤ _), (by decide : 0 + 0 ≤ _)⟩)
  dsimp only [Pt.U, Pt.locs, Pt.cells, Pt.slots] at X91 l91 y91 z91 st91 hQ91
  replace l91 := l91.symm
  replace y91 := y91.symm
  replace z91 := z91.symm
  subst l91 y91 z91
  obtain ⟨q4, rfl, bq4, N91, e91⟩ := hQ91
  refine OwnGo.pre (fun t k => st91 t k) ?_
  show OwnGo _ _ _ _ (T91.setTop (mkF m 42 #[sJ p0, uS, sJ p1, uS, sJ p2, uS, sJ p3, uS, sJ p4, uS, sJ p5, uS, sI cnt, sJ q0, uS, sJ q1, uS, sJ q2, uS, sJ q3, uS, uU, uU, uU, uU, uU, uU, uU, uU, uU, uU, uU, uU, uU, uU, uU, uU, uU, uU, uU, uU, uU, uU] [(.long q4)]))
  have M91 := Fr.app M90 N91
  obtain ⟨j1004, F1004⟩ : ∃ i : Int, q4.toInt = i := ⟨_, rfl⟩
  rw [F1004] at bq4
  refine OwnGo.pre (fun t k => XT.lstore X91.here hx rfl (hb hby at_42) rfl (l' := #[sJ p0, uS, sJ p1, uS, sJ p2, uS, sJ p3, uS, sJ p4, uS, sJ p5, uS, sI cnt, sJ q0, uS, sJ q1, uS, sJ q2, uS, sJ q3, uS, sJ q4, uS, uU, uU, uU, uU, uU, uU, uU, uU, uU, uU, uU, uU, uU, uU, uU, uU, uU, uU, uU, uU]) rfl (XT.lload X91.here hx rfl (hb hby at_44) rfl k)) ?_
  show OwnGo _ _ _ _ (T91.setTop (mkF m 46 #[sJ p0, uS, sJ p1, uS, sJ p2, uS, sJ p3, uS, sJ p4, uS, sJ p5, uS, sI cnt, sJ q0, uS, sJ q1, uS, sJ q2, uS, sJ q3, uS, sJ q4, uS, uU, uU, uU, uU, uU, uU, uU, uU, uU, uU, uU, uU, uU, uU, uU, uU, uU, uU, uU, uU] [(.long p2)]))
  obtain ⟨_, _, ⟨T92, L92, k92, n92⟩, -, X92, ⟨Lc92, hQ92, l92, y92, z92⟩, st92⟩ := Jvm.LawKit.callS X91 hx (y := (⟨"com/example/isochron/isochron/dsp/RowButterfliesForwardPinLaw", "hi", "(J)J"⟩ : MethodName)) hown (mvT hZ (hw _ (List.mem_of_getElem? (i := 5) rfl))) (mvT hZ (hw _ (List.mem_of_getElem? (i := 6) rfl))) (mvT hZ (hw _ (List.mem_of_getElem? (i := 3) rfl))) (mvT hZ (hw _ (List.mem_of_getElem? (i := 7) rfl))) (by decide) (backOf (W := 0) (rm := ({ frames := 0, cells := 0, slots := 0, locals := 0 } : Room)) (Q := Q_rmHi Z p2 h0 n0) (rmHi l Z a0 hw [] p2 h0 n0 Z0 ) hZ (hw _ (List.mem_of_getElem? (i := 7) rfl)) (hw _ (List.mem_of_getElem? (i := 3) rfl)) (by decide) (by decide)) (g := (mkF m 46 #[sJ p0, uS, sJ p1, uS, sJ p2, uS, sJ p3, uS, sJ p4, uS, sJ p5, uS, sI cnt, sJ q0, uS, sJ q1, uS, sJ q2, uS, sJ q3, uS, sJ q4, uS, uU, uU, uU, uU, uU, uU, uU, uU, uU, uU, uU, uU, uU, uU, uU, uU, uU, uU, uU, uU] [(.long p2)])) rfl (by rw [hml]; rfl) (argsL := [(.long p2)]) (rest := []) (lenOf pd_rmHi rfl) rfl (by show 2 * 0 + _ ≤ _; exact Nat.le_of_eq rfl) (hb hby at_46) (fun _ _ => ⟨rfl, e91, (by decide : 0 + 0 ≤ _), (by decide : 0 + 0 ≤ _)⟩)
  dsimp only [Pt.U, Pt.locs, Pt.cells, Pt.slots] at X92 l92 y92 z92 st92 hQ92
  replace l92 := l92.symm
  replace y92 := y92.symm
  replace z92 := z92.symm
  subst l92 y92 z92
  obtain ⟨q5, rfl, bq5, N92, e92⟩ := hQ92
  refine OwnGo.pre (fun t k => st92 t k) ?_
  show OwnGo _ _ _ _ (T92.setTop (mkF m 49 #[sJ p0, uS, sJ p1, uS, sJ p2, uS, sJ p3, uS, sJ p4, uS, sJ p5, uS, sI cnt, sJ q0, uS, sJ q1, uS, sJ q2, uS, sJ q3, uS, sJ q4, uS, uU, uU, uU, uU, uU, uU, uU, uU, uU, uU, uU, uU, uU, uU, uU, uU, uU, uU, uU, uU] [(.long q5)]))
  have M92 := Fr.app M91 N92
  obtain ⟨j1005, F1005⟩ : ∃ i : Int, q5.toInt = i := ⟨_, rfl⟩
  rw [F1005] at bq5
  refine OwnGo.pre (fun t k => XT.lstore X92.here hx rfl (hb hby at_49) rfl (l' := #[sJ p0, uS, sJ p1, uS, sJ p2, uS, sJ p3, uS, sJ p4, uS, sJ p5, uS, sI cnt, sJ q0, uS, sJ q1, uS, sJ q2, uS, sJ q3, uS, sJ q4, uS, sJ q5, uS, uU, uU, uU, uU, uU, uU, uU, uU, uU, uU, uU, uU, uU, uU, uU, uU, uU, uU]) rfl (XT.lload X92.here hx rfl (hb hby at_51) rfl k)) ?_
  show OwnGo _ _ _ _ (T92.setTop (mkF m 53 #[sJ p0, uS, sJ p1, uS, sJ p2, uS, sJ p3, uS, sJ p4, uS, sJ p5, uS, sI cnt, sJ q0, uS, sJ q1, uS, sJ q2, uS, sJ q3, uS, sJ q4, uS, sJ q5, uS, uU, uU, uU, uU, uU, uU, uU, uU, uU, uU, uU, uU, uU, uU, uU, uU, uU, uU] [(.long p3)]))
  obtain ⟨_, _, ⟨T93, L93, k93, n93⟩, -, X93, ⟨Lc93, hQ93, l93, y93, z93⟩, st93⟩ := Jvm.LawKit.callS X92 hx (y := (⟨"com/example/isochron/isochron/dsp/RowButterfliesForwardPinLaw", "lo", "(J)J"⟩ : MethodName)) hown (mvT hZ (hw _ (List.mem_of_getElem? (i := 1) rfl))) (mvT hZ (hw _ (List.mem_of_getElem? (i := 2) rfl))) (mvT hZ (hw _ (List.mem_of_getElem? (i := 3) rfl))) (mvT hZ (hw _ (List.mem_of_getElem? (i := 4) rfl))) (by decide) (backOf (W := 0) (rm := ({ frames := 0, cells := 0, slots := 0, locals := 0 } : Room)) (Q := Q_rmLo Z p3 h0 n0) (rmLo l Z a0 hw [] p3 h0 n0 Z0 ) hZ (hw _ (List.mem_of_getElem? (i := 4) rfl)) (hw _ (List.mem_of_getElem? (i := 3) rfl)) (by decide) (by decide)) (g := (mkF m 53 #[sJ p0, uS, sJ p1, uS, sJ p2, uS, sJ p3, uS, sJ p4, uS, sJ p5, uS, sI cnt, sJ q0, uS, sJ q1, uS, sJ q2, uS, sJ q3, uS, sJ q4, uS, sJ q5, uS, uU, uU, uU, uU, uU, uU, uU, uU, uU, uU, uU, uU, uU, uU, uU, uU, uU, uU] [(.long p3)])) rfl (by rw [hml]; rfl) (argsL := [(.long p3)]) (rest := []) (lenOf pd_rmLo rfl) rfl (by show 2 * 0 + _ ≤ _; exact Nat.le_of_eq rfl) (hb hby at_53) (fun _ _ => ⟨rfl, e92, (by decide : 0 + 0 ≤ _), (by decide : 0 + 0 ≤ _)⟩)
  dsimp only [Pt.U, Pt.locs, Pt.cells, Pt.slots] at X93 l93 y93 z93 st93 hQ93
  replace l93 := l93.symm
  replace y93 := y93.symm
  replace z93 := z93.symm
  subst l93 y93 z93
  obtain ⟨q6, rfl, bq6, N93, e93⟩ := hQ93
  refine OwnGo.pre (fun t k => st93 t k) ?_
  show OwnGo _ _ _ _ (T93.setTop (mkF m 56 #[sJ p0, uS, sJ p1, uS, sJ p2, uS, sJ p3, uS, sJ p4, uS, sJ p5, uS, sI cnt, sJ q0, uS, sJ q1, uS, sJ q2, uS, sJ q3, uS, sJ q4, uS, sJ q5, uS, uU, uU, uU, uU, uU, uU, uU, uU, uU, uU, uU, uU, uU, uU, uU, uU, uU, uU] [(.long q6)]))
  have M93 := Fr.app M92 N93
  obtain ⟨j1006, F1006⟩ : ∃ i : Int, q6.toInt = i := ⟨_, rfl⟩
  rw [F1006] at bq6
  refine OwnGo.pre (fun t k => XT.lstore X93.here hx rfl (hb hby at_56) rfl (l' := #[sJ p0, uS, sJ p1, uS, sJ p2, uS, sJ p3, uS, sJ p4, uS, sJ p5, uS, sI cnt, sJ q0, uS, sJ q1, uS, sJ q2, uS, sJ q3, uS, sJ q4, uS, sJ q5, uS, sJ q6, uS, uU, uU, uU, uU, uU, uU, uU, uU, uU, uU, uU, uU, uU, uU, uU, uU]) rfl (XT.lload X93.here hx rfl (hb hby at_58) rfl k)) ?_
  show OwnGo _ _ _ _ (T93.setTop (mkF m 60 #[sJ p0, uS, sJ p1, uS, sJ p2, uS, sJ p3, uS, sJ p4, uS, sJ p5, uS, sI cnt, sJ q0, uS, sJ q1, uS, sJ q2, uS, sJ q3, uS, sJ q4, uS, sJ q5, uS, sJ q6, uS, uU, uU, uU, uU, uU, uU, uU, uU, uU, uU, uU, uU, uU, uU, uU, uU] [(.long p3)]))
  obtain ⟨_, _, ⟨T94, L94, k94, n94⟩, -, X94, ⟨Lc94, hQ94, l94, y94, z94⟩, st94⟩ := Jvm.LawKit.callS X93 hx (y := (⟨"com/example/isochron/isochron/dsp/RowButterfliesForwardPinLaw", "hi", "(J)J"⟩ : MethodName)) hown (mvT hZ (hw _ (List.mem_of_getElem? (i := 5) rfl))) (mvT hZ (hw _ (List.mem_of_getElem? (i := 6) rfl))) (mvT hZ (hw _ (List.mem_of_getElem? (i := 3) rfl))) (mvT hZ (hw _ (List.mem_of_getElem? (i := 7) rfl))) (by decide) (backOf (W := 0) (rm := ({ frames := 0, cells := 0, slots := 0, locals := 0 } : Room)) (Q := Q_rmHi Z p3 h0 n0) (rmHi l Z a0 hw [] p3 h0 n0 Z0 ) hZ (hw _ (List.mem_of_getElem? (i := 7) rfl)) (hw _ (List.mem_of_getElem? (i := 3) rfl)) (by decide) (by decide)) (g := (mkF m 60 #[sJ p0, uS, sJ p1, uS, sJ p2, uS, sJ p3, uS, sJ p4, uS, sJ p5, uS, sI cnt, sJ q0, uS, sJ q1, uS, sJ q2, uS, sJ q3, uS, sJ q4, uS, sJ q5, uS, sJ q6, uS, uU, uU, uU, uU, uU, uU, uU, uU, uU, uU, uU, uU, uU, uU, uU, uU] [(.long p3)])) rfl (by rw [hml]; rfl) (argsL := [(.long p3)]) (rest := []) (lenOf pd_rmHi rfl) rfl (by show 2 * 0 + _ ≤ _; exact Nat.le_of_eq rfl) (hb hby at_60) (fun _ _ => ⟨rfl, e93, (by decide : 0 + 0 ≤ _), (by decide : 0 + 0 ≤ _)⟩)
  dsimp only [Pt.U, Pt.locs, Pt.cells, Pt.slots] at X94 l94 y94 z94 st94 hQ94
  replace l94 := l94.symm
  replace y94 := y94.symm
  replace z94 := z94.symm
  subst l94 y94 z94
  obtain ⟨q7, rfl, bq7, N94, e94⟩ := hQ94
  refine OwnGo.pre (fun t k => st94 t k) ?_
  show OwnGo _ _ _ _ (T94.setTop (mkF m 63 #[sJ p0, uS, sJ p1, uS, sJ p2, uS, sJ p3, uS, sJ p4, uS, sJ p5, uS, sI cnt, sJ q0, uS, sJ q1, uS, sJ q2, uS, sJ q3, uS, sJ q4, uS, sJ q5, uS, sJ q6, uS, uU, uU, uU, uU, uU, uU, uU, uU, uU, uU, uU, uU, uU, uU, uU, uU] [(.long q7)]))
  have M94 := Fr.app M93 N94
  obtain ⟨j1007, F1007⟩ : ∃ i : Int, q7.toInt = i := ⟨_, rfl⟩
  rw [F1007] at bq7
  refine OwnGo.pre (fun t k => XT.lstore X94.here hx rfl (hb hby at_63) rfl (l' := #[sJ p0, uS, sJ p1, uS, sJ p2, uS, sJ p3, uS, sJ p4, uS, sJ p5, uS, sI cnt, sJ q0, uS, sJ q1, uS, sJ q2, uS, sJ q3, uS, sJ q4, uS, sJ q5, uS, sJ q6, uS, sJ q7, uS, uU, uU, uU, uU, uU, uU, uU, uU, uU, uU, uU, uU, uU, uU]) rfl (XT.lload X94.here hx rfl (hb hby at_65) rfl k)) ?_
  show OwnGo _ _ _ _ (T94.setTop (mkF m 67 #[sJ p0, uS, sJ p1, uS, sJ p2, uS, sJ p3, uS, sJ p4, uS, sJ p5, uS, sI cnt, sJ q0, uS, sJ q1, uS, sJ q2, uS, sJ q3, uS, sJ q4, uS, sJ q5, uS, sJ q6, uS, sJ q7, uS, uU, uU, uU, uU, uU, uU, uU, uU, uU, uU, uU, uU, uU, uU] [(.long p4)]))
  obtain ⟨_, _, ⟨T95, L95, k95, n95⟩, -, X95, ⟨Lc95, hQ95, l95, y95, z95⟩, st95⟩ := Jvm.LawKit.callS X94 hx (y := (⟨"com/example/isochron/isochron/dsp/RowButterfliesForwardPinLaw", "lo", "(J)J"⟩ : MethodName)) hown (mvT hZ (hw _ (List.mem_of_getElem? (i := 1) rfl))) (mvT hZ (hw _ (List.mem_of_getElem? (i := 2) rfl))) (mvT hZ (hw _ (List.mem_of_getElem? (i := 3) rfl))) (mvT hZ (hw _ (List.mem_of_getElem? (i := 4) rfl))) (by decide) (backOf (W := 0) (rm := ({ frames := 0, cells := 0, slots := 0, locals := 0 } : Room)) (Q := Q_rmLo Z p4 h0 n0) (rmLo l Z a0 hw [] p4 h0 n0 Z0 ) hZ (hw _ (List.mem_of_getElem? (i := 4) rfl)) (hw _ (List.mem_of_getElem? (i := 3) rfl)) (by decide) (by decide)) (g := (mkF m 67 #[sJ p0, uS, sJ p1, uS, sJ p2, uS, sJ p3, uS, sJ p4, uS, sJ p5, uS, sI cnt, sJ q0, uS, sJ q1, uS, sJ q2, uS, sJ q3, uS, sJ q4, uS, sJ q5, uS, sJ q6, uS, sJ q7, uS, uU, uU, uU, uU, uU, uU, uU, uU, uU, uU, uU, uU, uU, uU] [(.long p4)])) rfl (by rw [hml]; rfl) (argsL := [(.long p4)]) (rest := []) (lenOf pd_rmLo rfl) rfl (by show 2 * 0 + _ ≤ _; exact Nat.le_of_eq rfl) (hb hby at_67) (fun _ _ => ⟨rfl, e94, (by decide : 0 + 0 ≤ _), (by decide : 0 + 0 ≤ _)⟩)
  dsimp only [Pt.U, Pt.locs, Pt.cells, Pt.slots] at X95 l95 y95 z95 st95 hQ95
  replace l95 := l95.symm
  replace y95 := y95.symm
  replace z95 := z95.symm
  subst l95 y95 z95
  obtain ⟨q8, rfl, bq8, N95, e95⟩ := hQ95
  refine OwnGo.pre (fun t k => st95 t k) ?_
  show OwnGo _ _ _ _ (T95.setTop (mkF m 70 #[sJ p0, uS, sJ p1, uS, sJ p2, uS, sJ p3, uS, sJ p4, uS, sJ p5, uS, sI cnt, sJ q0, uS, sJ q1, uS, sJ q2, uS, sJ q3, uS, sJ q4, uS, sJ q5, uS, sJ q6, uS, sJ q7, uS, uU, uU, uU, uU, uU, uU, uU, uU, uU, uU, uU, uU, uU, uU] [(.long q8)]))
  have M95 := Fr.app M94 N95
  obtain ⟨j1008, F1008⟩ : ∃ i : Int, q8.toInt = i := ⟨_, rfl⟩
  rw [F1008] at bq8
  refine OwnGo.pre (fun t k => XT.lstore X95.here hx rfl (hb hby at_70) rfl (l' := #[sJ p0, uS, sJ p1, uS, sJ p2, uS, sJ p3, uS, sJ p4, uS, sJ p5, uS, sI cnt, sJ q0, uS, sJ q1, uS, sJ q2, uS, sJ q3, uS, sJ q4, uS, sJ q5, uS, sJ q6, uS, sJ q7, uS, sJ q8, uS, uU, uU, uU, uU, uU, uU, uU, uU, uU, uU, uU, uU]) rfl (XT.lload X95.here hx rfl (hb hby at_72) rfl k)) ?_
  show OwnGo _ _ _ _ (T95.setTop (mkF m 74 #[sJ p0, uS, sJ p1, uS, sJ p2, uS, sJ p3, uS, sJ p4, uS, sJ p5, uS, sI cnt, sJ q0, uS, sJ q1, uS, sJ q2, uS, sJ q3, uS, sJ q4, uS, sJ q5, uS, sJ q6, uS, sJ q7, uS, sJ q8, uS, uU, uU, uU, uU, uU, uU, uU, uU, uU, uU, uU, uU] [(.long p4)]))
  obtain ⟨_, _, ⟨T96, L96, k96, n96⟩, -, X96, ⟨Lc96, hQ96, l96, y96, z96⟩, st96⟩ := Jvm.LawKit.callS X95 hx (y := (⟨"com/example/isochron/isochron/dsp/RowButterfliesForwardPinLaw", "hi", "(J)J"⟩ : MethodName)) hown (mvT hZ (hw _ (List.mem_of_getElem? (i := 5) rfl))) (mvT hZ (hw _ (List.mem_of_getElem? (i := 6) rfl))) (mvT hZ (hw _ (List.mem_of_getElem? (i := 3) rfl))) (mvT hZ (hw _ (List.mem_of_getElem? (i := 7) rfl))) (by decide) (backOf (W := 0) (rm := ({ frames := 0, cells := 0, slots := 0, locals := 0 } : Room)) (Q := Q_rmHi Z p4 h0 n0) (rmHi l Z a0 hw [] p4 h0 n0 Z0 ) hZ (hw _ (List.mem_of_getElem? (i := 7) rfl)) (hw _ (List.mem_of_getElem? (i := 3) rfl)) (by decide) (by decide)) (g := (mkF m 74 #[sJ p0, uS, sJ p1, uS, sJ p2, uS, sJ p3, uS, sJ p4, uS, sJ p5, uS, sI cnt, sJ q0, uS, sJ q1, uS, sJ q2, uS, sJ q3, uS, sJ q4, uS, sJ q5, uS, sJ q6, uS, sJ q7, uS, sJ q8, uS, uU, uU, uU, uU, uU, uU, uU, uU, uU, uU, uU, uU] [(.long p4)])) rfl (by rw [hml]; rfl) (argsL := [(.long p4)]) (rest := []) (lenOf pd_rmHi rfl) rfl (by show 2 * 0 + _ ≤ _; exact Nat.le_of_eq rfl) (hb hby at_74) (fun _ _ => ⟨rfl, e95, (by decide : 0 + 0 ≤ _), (by decide : 0 + 0 ≤ _)⟩)
  dsimp only [Pt.U, Pt.locs, Pt.cells, Pt.slots] at X96 l96 y96 z96 st96 hQ96
  replace l96 := l96.symm
  replace y96 := y96.symm
  replace z96 := z96.symm
  subst l96 y96 z96
  obtain ⟨q9, rfl, bq9, N96, e96⟩ := hQ96
  refine OwnGo.pre (fun t k => st96 t k) ?_
  show OwnGo _ _ _ _ (T96.setTop (mkF m 77 #[sJ p0, uS, sJ p1, uS, sJ p2, uS, sJ p3, uS, sJ p4, uS, sJ p5, uS, sI cnt, sJ q0, uS, sJ q1, uS, sJ q2, uS, sJ q3, uS, sJ q4, uS, sJ q5, uS, sJ q6, uS, sJ q7, uS, sJ q8, uS, uU, uU, uU, uU, uU, uU, uU, uU, uU, uU, uU, uU] [(.long q9)]))
  have M96 := Fr.app M95 N96
  obtain ⟨j1009, F1009⟩ : ∃ i : Int, q9.toInt = i := ⟨_, rfl⟩
  rw [F1009] at bq9
  refine OwnGo.pre (fun t k => XT.lstore X96.here hx rfl (hb hby at_77) rfl (l' := #[sJ p0, uS, sJ p1, uS, sJ p2, uS, sJ p3, uS, sJ p4, uS, sJ p5, uS, sI cnt, sJ q0, uS, sJ q1, uS, sJ q2, uS, sJ q3, uS, sJ q4, uS, sJ q5, uS, sJ q6, uS, sJ q7, uS, sJ q8, uS, sJ q9, uS, uU, uU, uU, uU, uU, uU, uU, uU, uU, uU]) rfl (XT.lload X96.here hx rfl (hb hby at_79) rfl k)) ?_
  show OwnGo _ _ _ _ (T96.setTop (mkF m 81 #[sJ p0, uS, sJ p1, uS, sJ p2, uS, sJ p3, uS, sJ p4, uS, sJ p5, uS, sI cnt, sJ q0, uS, sJ q1, uS, sJ q2, uS, sJ q3, uS, sJ q4, uS, sJ q5, uS, sJ q6, uS, sJ q7, uS, sJ q8, uS, sJ q9, uS, uU, uU, uU, uU, uU, uU, uU, uU, uU, uU] [(.long p5)]))
  obtain ⟨_, _, ⟨T97, L97, k97, n97⟩, -, X97, ⟨Lc97, hQ97, l97, y97, z97⟩, st97⟩ := Jvm.LawKit.callS X96 hx (y := (⟨"com/example/isochron/isochron/dsp/RowButterfliesForwardPinLaw", "lo", "(J)J"⟩ : MethodName)) hown (mvT hZ (hw _ (List.mem_of_getElem? (i := 1) rfl))) (mvT hZ (hw _ (List.mem_of_getElem? (i := 2) rfl))) (mvT hZ (hw _ (List.mem_of_getElem? (i := 3) rfl))) (mvT hZ (hw _ (List.mem_of_getElem? (i := 4) rfl))) (by decide) (backOf (W := 0) (rm := ({ frames := 0, cells := 0, slots := 0, locals := 0 } : Room)) (Q := Q_rmLo Z p5 h0 n0) (rmLo l Z a0 hw [] p5 h0 n0 Z0 ) hZ (hw _ (List.mem_of_getElem? (i := 4) rfl)) (hw _ (List.mem_of_getElem? (i := 3) rfl)) (by decide) (by decide)) (g := (mkF m 81 #[sJ p0, uS, sJ p1, uS, sJ p2, uS, sJ p3, uS, sJ p4, uS, sJ p5, uS, sI cnt, sJ q0, uS, sJ q1, uS, sJ q2, uS, sJ q3, uS, sJ q4, uS, sJ q5, uS, sJ q6, uS, sJ q7, uS, sJ q8, uS, sJ q9, uS, uU, uU, uU, uU, uU, uU, uU, uU, uU, uU] [(.long p5)])) rfl (by rw [hml]; rfl) (argsL := [(.long p5)]) (rest := []) (lenOf pd_rmLo rfl) rfl (by show 2 * 0 + _ ≤ _; exact Nat.le_of_eq rfl) (hb hby at_81) (fun _ _ => ⟨rfl, e96, (by decide : 0 + 0 ≤ _), (by decide : 0 + 0 ≤ _)⟩)
  dsimp only [Pt.U, Pt.locs, Pt.cells, Pt.slots] at X97 l97 y97 z97 st97 hQ97
  replace l97 := l97.symm
  replace y97 := y97.symm
  replace z97 := z97.symm
  subst l97 y97 z97
  obtain ⟨q10, rfl, bq10, N97, e97⟩ := hQ97
  refine OwnGo.pre (fun t k => st97 t k) ?_
  show OwnGo _ _ _ _ (T97.setTop (mkF m 84 #[sJ p0, uS, sJ p1, uS, sJ p2, uS, sJ p3, uS, sJ p4, uS, sJ p5, uS, sI cnt, sJ q0, uS, sJ q1, uS, sJ q2, uS, sJ q3, uS, sJ q4, uS, sJ q5, uS, sJ q6, uS, sJ q7, uS, sJ q8, uS, sJ q9, uS, uU, uU, uU, uU, uU, uU, uU, uU, uU, uU] [(.long q10)]))
  have M97 := Fr.app M96 N97
  obtain ⟨j1010, F1010⟩ : ∃ i : Int, q10.toInt = i := ⟨_, rfl⟩
  rw [F1010] at bq10
  refine OwnGo.pre (fun t k => XT.lstore X97.here hx rfl (hb hby at_84) rfl (l' := #[sJ p0, uS, sJ p1, uS, sJ p2, uS, sJ p3, uS, sJ p4, uS, sJ p5, uS, sI cnt, sJ q0, uS, sJ q1, uS, sJ q2, uS, sJ q3, uS, sJ q4, uS, sJ q5, uS, sJ q6, uS, sJ q7, uS, sJ q8, uS, sJ q9, uS, sJ q10, uS, uU, uU, uU, uU, uU, uU, uU, uU]) rfl (XT.lload X97.here hx rfl (hb hby at_86) rfl k)) ?_
  show OwnGo _ _ _ _ (T97.setTop (mkF m 88 #[sJ p0, uS, sJ p1, uS, sJ p2, uS, sJ p3, uS, sJ p4, uS, sJ p5, uS, sI cnt, sJ q0, uS, sJ q1, uS, sJ q2, uS, sJ q3, uS, sJ q4, uS, sJ q5, uS, sJ q6, uS, sJ q7, uS, sJ q8, uS, sJ q9, uS, sJ q10, uS, uU, uU, uU, uU, uU, uU, uU, uU] [(.long p5)]))
  obtain ⟨_, _, ⟨T98, L98, k98, n98⟩, -, X98, ⟨Lc98, hQ98, l98, y98, z98⟩, st98⟩ := Jvm.LawKit.callS X97 hx (y := (⟨"com/example/isochron/isochron/dsp/RowButterfliesForwardPinLaw", "hi", "(J)J"⟩ : MethodName)) hown (mvT hZ (hw _ (List.mem_of_getElem? (i := 5) rfl))) (mvT hZ (hw _ (List.mem_of_getElem? (i := 6) rfl))) (mvT hZ (hw _ (List.mem_of_getElem? (i := 3) rfl))) (mvT hZ (hw _ (List.mem_of_getElem? (i := 7) rfl))) (by decide) (backOf (W := 0) (rm := ({ frames := 0, cells := 0, slots := 0, locals := 0 } : Room)) (Q := Q_rmHi Z p5 h0 n0) (rmHi l Z a0 hw [] p5 h0 n0 Z0 ) hZ (hw _ (List.mem_of_getElem? (i := 7) rfl)) (hw _ (List.mem_of_getElem? (i := 3) rfl)) (by decide) (by decide)) (g := (mkF m 88 #[sJ p0, uS, sJ p1, uS, sJ p2, uS, sJ p3, uS, sJ p4, uS, sJ p5, uS, sI cnt, sJ q0, uS, sJ q1, uS, sJ q2, uS, sJ q3, uS, sJ q4, uS, sJ q5, uS, sJ q6, uS, sJ q7, uS, sJ q8, uS, sJ q9, uS, sJ q10, uS, uU, uU, uU, uU, uU, uU, uU, uU] [(.long p5)])) rfl (by rw [hml]; rfl) (argsL := [(.long p5)]) (rest := []) (lenOf pd_rmHi rfl) rfl (by show 2 * 0 + _ ≤ _; exact Nat.le_of_eq rfl) (hb hby at_88) (fun _ _ => ⟨rfl, e97, (by decide : 0 + 0 ≤ _), (by decide : 0 + 0 ≤ _)⟩)
  dsimp only [Pt.U, Pt.locs, Pt.cells, Pt.slots] at X98 l98 y98 z98 st98 hQ98
  replace l98 := l98.symm
  replace y98 := y98.symm
  replace z98 := z98.symm
  subst l98 y98 z98
  obtain ⟨q11, rfl, bq11, N98, e98⟩ := hQ98
  refine OwnGo.pre (fun t k => st98 t k) ?_
  show OwnGo _ _ _ _ (T98.setTop (mkF m 91 #[sJ p0, uS, sJ p1, uS, sJ p2, uS, sJ p3, uS, sJ p4, uS, sJ p5, uS, sI cnt, sJ q0, uS, sJ q1, uS, sJ q2, uS, sJ q3, uS, sJ q4, uS, sJ q5, uS, sJ q6, uS, sJ q7, uS, sJ q8, uS, sJ q9, uS, sJ q10, uS, uU, uU, uU, uU, uU, uU, uU, uU] [(.long q11)]))
  have M98 := Fr.app M97 N98
  obtain ⟨j1011, F1011⟩ : ∃ i : Int, q11.toInt = i := ⟨_, rfl⟩
  rw [F1011] at bq11
  refine OwnGo.pre (fun t k => XT.lstore X98.here hx rfl (hb hby at_91) rfl (l' := #[sJ p0, uS, sJ p1, uS, sJ p2, uS, sJ p3, uS, sJ p4, uS, sJ p5, uS, sI cnt, sJ q0, uS, sJ q1, uS, sJ q2, uS, sJ q3, uS, sJ q4, uS, sJ q5, uS, sJ q6, uS, sJ q7, uS, sJ q8, uS, sJ q9, uS, sJ q10, uS, sJ q11, uS, uU, uU, uU, uU, uU, uU]) rfl (XS.iconst X98.here hx rfl (hb hby at_93) k)) ?_
  show OwnGo _ _ _ _ (T98.setTop (mkF m 94 #[sJ p0, uS, sJ p1, uS, sJ p2, uS, sJ p3, uS, sJ p4, uS, sJ p5, uS, sI cnt, sJ q0, uS, sJ q1, uS, sJ q2, uS, sJ q3, uS, sJ q4, uS, sJ q5, uS, sJ q6, uS, sJ q7, uS, sJ q8, uS, sJ q9, uS, sJ q10, uS, sJ q11, uS, uU, uU, uU, uU, uU, uU] [(.int (2 : Int32))]))
  obtain ⟨T99, h99, X99, e99, E99, A99, st99⟩ := own_newD X98 hx hZ (hw _ (List.mem_of_getElem? (i := 8) rfl)) e98 (g := (mkF m 94 #[sJ p0, uS, sJ p1, uS, sJ p2, uS, sJ p3, uS, sJ p4, uS, sJ p5, uS, sI cnt, sJ q0, uS, sJ q1, uS, sJ q2, uS, sJ q3, uS, sJ q4, uS, sJ q5, uS, sJ q6, uS, sJ q7, uS, sJ q8, uS, sJ q9, uS, sJ q10, uS, sJ q11, uS, uU, uU, uU, uU, uU, uU] [(.int (2 : Int32))])) rfl (hb hby at_94) rfl (by decide) (n := 2) (by decide) (by decide) (by decide) (by decide)
  obtain ⟨a99, g99⟩ : ∃ z, z = h0.size := ⟨_, rfl⟩
  rw [← g99] at A99 st99
  have G99 : n0 ≤ a99 := Nat.le_trans Z0 (Nat.le_of_eq g99.symm)
  have Z99 : n0 ≤ h99.size := Nat.le_trans Z0 E99.1
  have A99n : OwnDA Z h99 a99 [0, 0] := A99
  refine OwnGo.pre (fun t k => st99 t k) ?_
  show OwnGo _ _ _ _ (T99.setTop (mkF m 96 #[sJ p0, uS, sJ p1, uS, sJ p2, uS, sJ p3, uS, sJ p4, uS, sJ p5, uS, sI cnt, sJ q0, uS, sJ q1, uS, sJ q2, uS, sJ q3, uS, sJ q4, uS, sJ q5, uS, sJ q6, uS, sJ q7, uS, sJ q8, uS, sJ q9, uS, sJ q10, uS, sJ q11, uS, uU, uU, uU, uU, uU, uU] [(.ref a99)]))
  obtain ⟨d100, hd100⟩ : ∃ v, FP.l2d q0 = v := ⟨_, rfl⟩
  have D100 : OwnDS 0 j1000 d100 := by rw [← hd100]; exact own_l2db F1000 bq0 (by decide)
  refine OwnGo.pre (fun t k => XS.dup X99.here hx rfl (hb hby at_96) rfl rfl (XS.iconst X99.here hx rfl (hb hby at_97) (XT.lload X99.here hx rfl (hb hby at_98) rfl (XS.l2dS X99.here hx rfl (hb hby at_100) rfl hd100 k)))) ?_
  show OwnGo _ _ _ _ (T99.setTop (mkF m 101 #[sJ p0, uS, sJ p1, uS, sJ p2, uS, sJ p3, uS, sJ p4, uS, sJ p5, uS, sI cnt, sJ q0, uS, sJ q1, uS, sJ q2, uS, sJ q3, uS, sJ q4, uS, sJ q5, uS, sJ q6, uS, sJ q7, uS, sJ q8, uS, sJ q9, uS, sJ q10, uS, sJ q11, uS, uU, uU, uU, uU, uU, uU] [(.double d100), (.int (0 : Int32)), (.ref a99), (.ref a99)]))
  obtain ⟨T101, h101, X101, e101, W101, A101, st101⟩ := own_daS X99 hx hZ e99 A99n (by decide) (i := 0) (by decide) (by show 0 < 2; decide) (g := (mkF m 101 #[sJ p0, uS, sJ p1, uS, sJ p2, uS, sJ p3, uS, sJ p4, uS, sJ p5, uS, sI cnt, sJ q0, uS, sJ q1, uS, sJ q2, uS, sJ q3, uS, sJ q4, uS, sJ q5, uS, sJ q6, uS, sJ q7, uS, sJ q8, uS, sJ q9, uS, sJ q10, uS, sJ q11, uS, uU, uU, uU, uU, uU, uU] [(.double d100), (.int (0 : Int32)), (.ref a99), (.ref a99)])) rfl rfl (hb hby at_101)
  have A101n : OwnDA Z h101 a99 [d100, 0] := A101
  have N101 := Fr.snoc X101 M98 G99
  have Z101 : n0 ≤ h101.size := by rw [W101.size]; exact Z99
  refine OwnGo.pre (fun t k => st101 t k) ?_
  show OwnGo _ _ _ _ (T101.setTop (mkF m 102 #[sJ p0, uS, sJ p1, uS, sJ p2, uS, sJ p3, uS, sJ p4, uS, sJ p5, uS, sI cnt, sJ q0, uS, sJ q1, uS, sJ q2, uS, sJ q3, uS, sJ q4, uS, sJ q5, uS, sJ q6, uS, sJ q7, uS, sJ q8, uS, sJ q9, uS, sJ q10, uS, sJ q11, uS, uU, uU, uU, uU, uU, uU] [(.ref a99)]))
  obtain ⟨d102, hd102⟩ : ∃ v, FP.l2d q6 = v := ⟨_, rfl⟩
  have D102 : OwnDS 0 j1006 d102 := by rw [← hd102]; exact own_l2db F1006 bq6 (by decide)
  refine OwnGo.pre (fun t k => XS.dup X101.here hx rfl (hb hby at_102) rfl rfl (XS.iconst X101.here hx rfl (hb hby at_103) (XT.lload X101.here hx rfl (hb hby at_104) rfl (XS.l2dS X101.here hx rfl (hb hby at_106) rfl hd102 k)))) ?_
  show OwnGo _ _ _ _ (T101.setTop (mkF m 107 #[sJ p0, uS, sJ p1, uS, sJ p2, uS, sJ p3, uS, sJ p4, uS, sJ p5, uS, sI cnt, sJ q0, uS, sJ q1, uS, sJ q2, uS, sJ q3, uS, sJ q4, uS, sJ q5, uS, sJ q6, uS, sJ q7, uS, sJ q8, uS, sJ q9, uS, sJ q10, uS, sJ q11, uS, uU, uU, uU, uU, uU, uU] [(.double d102), (.int (1 : Int32)), (.ref a99), (.ref a99)]))
  obtain ⟨T103, h103, X103, e103, W103, A103, st103⟩ := own_daS X101 hx hZ e101 A101n (by decide) (i := 1) (by decide) (by show 1 < 2; decide) (g := (mkF m 107 #[sJ p0, uS, sJ p1, uS, sJ p2, uS, sJ p3, uS, sJ p4, uS, sJ p5, uS, sI cnt, sJ q0, uS, sJ q1, uS, sJ q2, uS, sJ q3, uS, sJ q4, uS, sJ q5, uS, sJ q6, uS, sJ q7, uS, sJ q8, uS, sJ q9, uS, sJ q10, uS, sJ q11, uS, uU, uU, uU, uU, uU, uU] [(.double d102), (.int (1 : Int32)), (.ref a99), (.ref a99)])) rfl rfl (hb hby at_107)
  have A103n : OwnDA Z h103 a99 [d100, d102] := A103
  have N103 := Fr.snoc X103 N101 G99
  have Z103 : n0 ≤ h103.size := by rw [W103.size]; exact Z101
  refine OwnGo.pre (fun t k => st103 t k) ?_
  show OwnGo _ _ _ _ (T103.setTop (mkF m 108 #[sJ p0, uS, sJ p1, uS, sJ p2, uS, sJ p3, uS, sJ p4, uS, sJ p5, uS, sI cnt, sJ q0, uS, sJ q1, uS, sJ q2, uS, sJ q3, uS, sJ q4, uS, sJ q5, uS, sJ q6, uS, sJ q7, uS, sJ q8, uS, sJ q9, uS, sJ q10, uS, sJ q11, uS, uU, uU, uU, uU, uU, uU] [(.ref a99)]))
  refine OwnGo.pre (fun t k => XS.astore X103.here hx rfl (hb hby at_108) rfl rfl (l' := #[sJ p0, uS, sJ p1, uS, sJ p2, uS, sJ p3, uS, sJ p4, uS, sJ p5, uS, sI cnt, sJ q0, uS, sJ q1, uS, sJ q2, uS, sJ q3, uS, sJ q4, uS, sJ q5, uS, sJ q6, uS, sJ q7, uS, sJ q8, uS, sJ q9, uS, sJ q10, uS, sJ q11, uS, sR a99, uU, uU, uU, uU, uU]) rfl (XS.iconst X103.here hx rfl (hb hby at_110) k)) ?_
  show OwnGo _ _ _ _ (T103.setTop (mkF m 111 #[sJ p0, uS, sJ p1, uS, sJ p2, uS, sJ p3, uS, sJ p4, uS, sJ p5, uS, sI cnt, sJ q0, uS, sJ q1, uS, sJ q2, uS, sJ q3, uS, sJ q4, uS, sJ q5, uS, sJ q6, uS, sJ q7, uS, sJ q8, uS, sJ q9, uS, sJ q10, uS, sJ q11, uS, sR a99, uU, uU, uU, uU, uU] [(.int (2 : Int32))]))
  obtain ⟨T104, h104, X104, e104, E104, A104, st104⟩ := own_newD X103 hx hZ (hw _ (List.mem_of_getElem? (i := 8) rfl)) e103 (g := (mkF m 111 #[sJ p0, uS, sJ p1, uS, sJ p2, uS, sJ p3, uS, sJ p4, uS, sJ p5, uS, sI cnt, sJ q0, uS, sJ q1, uS, sJ q2, uS, sJ q3, uS, sJ q4, uS, sJ q5, uS, sJ q6, uS, sJ q7, uS, sJ q8, uS, sJ q9, uS, sJ q10, uS, sJ q11, uS, sR a99, uU, uU, uU, uU, uU] [(.int (2 : Int32))])) rfl (hb hby at_111) rfl (by decide) (n := 2) (by decide) (by decide) (by decide) (by decide)
  obtain ⟨a104, g104⟩ : ∃ z, z = h103.size := ⟨_, rfl⟩
  rw [← g104] at A104 st104
  have G104 : n0 ≤ a104 := Nat.le_trans Z103 (Nat.le_of_eq g104.symm)
  have Z104 : n0 ≤ h104.size := Nat.le_trans Z103 E104.1
  have A104n : OwnDA Z h104 a104 [0, 0] := A104
  have nea99_104 : a99 ≠ a104 := (Nat.ne_of_lt (Nat.lt_of_lt_of_le A103n.lt (Nat.le_of_eq g104.symm)))
  have A104_a99 := A103n.ex E104
  refine OwnGo.pre (fun t k => st104 t k) ?_
  show OwnGo _ _ _ _ (T104.setTop (mkF m 113 #[sJ p0, uS, sJ p1, uS, sJ p2, uS, sJ p3, uS, sJ p4, uS, sJ p5, uS, sI cnt, sJ q0, uS, sJ q1, uS, sJ q2, uS, sJ q3, uS, sJ q4, uS, sJ q5, uS, sJ q6, uS, sJ q7, uS, sJ q8, uS, sJ q9, uS, sJ q10, uS, sJ q11, uS, sR a99, uU, uU, uU, uU, uU] [(.ref a104)]))
  obtain ⟨d105, hd105⟩ : ∃ v, FP.l2d q1 = v := ⟨_, rfl⟩
  have D105 : OwnDS 0 j1001 d105 := by rw [← hd105]; exact own_l2db F1001 bq1 (by decide)
  refine OwnGo.pre (fun t k => XS.dup X104.here hx rfl (hb hby at_113) rfl rfl (XS.iconst X104.here hx rfl (hb hby at_114) (XT.lload X104.here hx rfl (hb hby at_115) rfl (XS.l2dS X104.here hx rfl (hb hby at_117) rfl hd105 k)))) ?_
  show OwnGo _ _ _ _ (T104.setTop (mkF m 118 #[sJ p0, uS, sJ p1, uS, sJ p2, uS, sJ p3, uS, sJ p4, uS, sJ p5, uS, sI cnt, sJ q0, uS, sJ q1, uS, sJ q2, uS, sJ q3, uS, sJ q4, uS, sJ q5, uS, sJ q6, uS, sJ q7, uS, sJ q8, uS, sJ q9, uS, sJ q10, uS, sJ q11, uS, sR a99, uU, uU, uU, uU, uU] [(.double d105), (.int (0 : Int32)), (.ref a104), (.ref a104)]))
  obtain ⟨T106, h106, X106, e106, W106, A106, st106⟩ := own_daS X104 hx hZ e104 A104n (by decide) (i := 0) (by decide) (by show 0 < 2; decide) (g := (mkF m 118 #[sJ p0, uS, sJ p1, uS, sJ p2, uS, sJ p3, uS, sJ p4, uS, sJ p5, uS, sI cnt, sJ q0, uS, sJ q1, uS, sJ q2, uS, sJ q3, uS, sJ q4, uS, sJ q5, uS, sJ q6, uS, sJ q7, uS, sJ q8, uS, sJ q9, uS, sJ q10, uS, sJ q11, uS, sR a99, uU, uU, uU, uU, uU] [(.double d105), (.int (0 : Int32)), (.ref a104), (.ref a104)])) rfl rfl (hb hby at_118)
  have A106n : OwnDA Z h106 a104 [d105, 0] := A106
  have A106_a99 := A104_a99.ot W106 nea99_104
  have N106 := Fr.snoc X106 N103 G104
  have Z106 : n0 ≤ h106.size := by rw [W106.size]; exact Z104
  refine OwnGo.pre (fun t k => st106 t k) ?_
  show OwnGo _ _ _ _ (T106.setTop (mkF m 119 #[sJ p0, uS, sJ p1, uS, sJ p2, uS, sJ p3, uS, sJ p4, uS, sJ p5, uS, sI cnt, sJ q0, uS, sJ q1, uS, sJ q2, uS, sJ q3, uS, sJ q4, uS, sJ q5, uS, sJ q6, uS, sJ q7, uS, sJ q8, uS, sJ q9, uS, sJ q10, uS, sJ q11, uS, sR a99, uU, uU, uU, uU, uU] [(.ref a104)]))
  obtain ⟨d107, hd107⟩ : ∃ v, FP.l2d q7 = v := ⟨_, rfl⟩
  have D107 : OwnDS 0 j1007 d107 := by rw [← hd107]; exact own_l2db F1007 bq7 (by decide)
  refine OwnGo.pre (fun t k => XS.dup X106.here hx rfl (hb hby at_119) rfl rfl (XS.iconst X106.here hx rfl (hb hby at_120) (XT.lload X106.here hx rfl (hb hby at_121) rfl (XS.l2dS X106.here hx rfl (hb hby at_123) rfl hd107 k)))) ?_
  show OwnGo _ _ _ _ (T106.setTop (mkF m 124 #[sJ p0, uS, sJ p1, uS, sJ p2, uS, sJ p3, uS, sJ p4, uS, sJ p5, uS, sI cnt, sJ q0, uS, sJ q1, uS, sJ q2, uS, sJ q3, uS, sJ q4, uS, sJ q5, uS, sJ q6, uS, sJ q7, uS, sJ q8, uS, sJ q9, uS, sJ q10, uS, sJ q11, uS, sR a99, uU, uU, uU, uU, uU] [(.double d107), (.int (1 : Int32)), (.ref a104), (.ref a104)]))
  obtain ⟨T108, h108, X108, e108, W108, A108, st108⟩ := own_daS X106 hx hZ e106 A106n (by decide) (i := 1) (by decide) (by show 1 < 2; decide) (g := (mkF m 124 #[sJ p0, uS, sJ p1, uS, sJ p2, uS, sJ p3, uS, sJ p4, uS, sJ p5, uS, sI cnt, sJ q0, uS, sJ q1, uS, sJ q2, uS, sJ q3, uS, sJ q4, uS, sJ q5, uS, sJ q6, uS, sJ q7, uS, sJ q8, uS, sJ q9, uS, sJ q10, uS, sJ q11, uS, sR a99, uU, uU, uU, uU, uU] [(.double d107), (.int (1 : Int32)), (.ref a104), (.ref a104)])) rfl rfl (hb hby at_124)
  have A108n : OwnDA Z h108 a104 [d105, d107] := A108
  have A108_a99 := A106_a99.ot W108 nea99_104
  have N108 := Fr.snoc X108 N106 G104
  have Z108 : n0 ≤ h108.size := by rw [W108.size]; exact Z106
  refine OwnGo.pre (fun t k => st108 t k) ?_
  show OwnGo _ _ _ _ (T108.setTop (mkF m 125 #[sJ p0, uS, sJ p1, uS, sJ p2, uS, sJ p3, uS, sJ p4, uS, sJ p5, uS, sI cnt, sJ q0, uS, sJ q1, uS, sJ q2, uS, sJ q3, uS, sJ q4, uS, sJ q5, uS, sJ q6, uS, sJ q7, uS, sJ q8, uS, sJ q9, uS, sJ q10, uS, sJ q11, uS, sR a99, uU, uU, uU, uU, uU] [(.ref a104)]))
  refine OwnGo.pre (fun t k => XS.astore X108.here hx rfl (hb hby at_125) rfl rfl (l' := #[sJ p0, uS, sJ p1, uS, sJ p2, uS, sJ p3, uS, sJ p4, uS, sJ p5, uS, sI cnt, sJ q0, uS, sJ q1, uS, sJ q2, uS, sJ q3, uS, sJ q4, uS, sJ q5, uS, sJ q6, uS, sJ q7, uS, sJ q8, uS, sJ q9, uS, sJ q10, uS, sJ q11, uS, sR a99, sR a104, uU, uU, uU, uU]) rfl (XS.iconst X108.here hx rfl (hb hby at_127) k)) ?_
  show OwnGo _ _ _ _ (T108.setTop (mkF m 128 #[sJ p0, uS, sJ p1, uS, sJ p2, uS, sJ p3, uS, sJ p4, uS, sJ p5, uS, sI cnt, sJ q0, uS, sJ q1, uS, sJ q2, uS, sJ q3, uS, sJ q4, uS, sJ q5, uS, sJ q6, uS, sJ q7, uS, sJ q8, uS, sJ q9, uS, sJ q10, uS, sJ q11, uS, sR a99, sR a104, uU, uU, uU, uU] [(.int (2 : Int32))]))
  obtain ⟨T109, h109, X109, e109, E109, A109, st109⟩ := own_newD X108 hx hZ (hw _ (List.mem_of_getElem? (i := 8) rfl)) e108 (g := (mkF m 128 #[sJ p0, uS, sJ p1, uS, sJ p2, uS, sJ p3, uS, sJ p4, uS, sJ p5, uS, sI cnt, sJ q0, uS, sJ q1, uS, sJ q2, uS, sJ q3, uS, sJ q4, uS, sJ q5, uS, sJ q6, uS, sJ q7, uS, sJ q8, uS, sJ q9, uS, sJ q10, uS, sJ q11, uS, sR a99, sR a104, uU, uU, uU, uU] [(.int (2 : Int32))])) rfl (hb hby at_128) rfl (by decide) (n := 2) (by decide) (by decide) (by decide) (by decide)
  obtain ⟨a109, g109⟩ : ∃ z, z = h108.size := ⟨_, rfl⟩
  rw [← g109] at A109 st109
  have G109 : n0 ≤ a109 := Nat.le_trans Z108 (Nat.le_of_eq g109.symm)
  have Z109 : n0 ≤ h109.size := Nat.le_trans Z108 E109.1
  have A109n : OwnDA Z h109 a109 [0, 0] := A109
  have nea99_109 : a99 ≠ a109 := (Nat.ne_of_lt (Nat.lt_of_lt_of_le A108_a99.lt (Nat.le_of_eq g109.symm)))
  have A109_a99 := A108_a99.ex E109
  have nea104_109 : a104 ≠ a109 := (Nat.ne_of_lt (Nat.lt_of_lt_of_le A108n.lt (Nat.le_of_eq g109.symm)))
  have A109_a104 := A108n.ex E109
  refine OwnGo.pre (fun t k => st109 t k) ?_
  show OwnGo _ _ _ _ (T109.setTop (mkF m 130 #[sJ p0, uS, sJ p1, uS, sJ p2, uS, sJ p3, uS, sJ p4, uS, sJ p5, uS, sI cnt, sJ q0, uS, sJ q1, uS, sJ q2, uS, sJ q3, uS, sJ q4, uS, sJ q5, uS, sJ q6, uS, sJ q7, uS, sJ q8, uS, sJ q9, uS, sJ q10, uS, sJ q11, uS, sR a99, sR a104, uU, uU, uU, uU] [(.ref a109)]))
  obtain ⟨d110, hd110⟩ : ∃ v, FP.l2d q2 = v := ⟨_, rfl⟩
  have D110 : OwnDS 0 j1002 d110 := by rw [← hd110]; exact own_l2db F1002 bq2 (by decide)
  refine OwnGo.pre (fun t k => XS.dup X109.here hx rfl (hb hby at_130) rfl rfl (XS.iconst X109.here hx rfl (hb hby at_131) (XT.lload X109.here hx rfl (hb hby at_132) rfl (XS.l2dS X109.here hx rfl (hb hby at_134) rfl hd110 k)))) ?_
  show OwnGo _ _ _ _ (T109.setTop (mkF m 135 #[sJ p0, uS, sJ p1, uS, sJ p2, uS, sJ p3, uS, sJ p4, uS, sJ p5, uS, sI cnt, sJ q0, uS, sJ q1, uS, sJ q2, uS, sJ q3, uS, sJ q4, uS, sJ q5, uS, sJ q6, uS, sJ q7, uS, sJ q8, uS, sJ q9, uS, sJ q10, uS, sJ q11, uS, sR a99, sR a104, uU, uU, uU, uU] [(.double d110), (.int (0 : Int32)), (.ref a109), (.ref a109)]))
  obtain ⟨T111, h111, X111, e111, W111, A111, st111⟩ := own_daS X109 hx hZ e109 A109n (by decide) (i := 0) (by decide) (by show 0 < 2; decide) (g := (mkF m 135 #[sJ p0, uS, sJ p1, uS, sJ p2, uS, sJ p3, uS, sJ p4, uS, sJ p5, uS, sI cnt, sJ q0, uS, sJ q1, uS, sJ q2, uS, sJ q3, uS, sJ q4, uS, sJ q5, uS, sJ q6, uS, sJ q7, uS, sJ q8, uS, sJ q9, uS, sJ q10, uS, sJ q11, uS, sR a99, sR a104, uU, uU, uU, uU] [(.double d110), (.int (0 : Int32)), (.ref a109), (.ref a109)])) rfl rfl (hb hby at_135)
  have A111n : OwnDA Z h111 a109 [d110, 0] := A111
  have A111_a99 := A109_a99.ot W111 nea99_109
  have A111_a104 := A109_a104.ot W111 nea104_109
  have N111 := Fr.snoc X111 N108 G109
  have Z111 : n0 ≤ h111.size := by rw [W111.size]; exact Z109
  refine OwnGo.pre (fun t k => st111 t k) ?_
  show OwnGo _ _ _ _ (T111.setTop (mkF m 136 #[sJ p0, uS, sJ p1, uS, sJ p2, uS, sJ p3, uS, sJ p4, uS, sJ p5, uS, sI cnt, sJ q0, uS, sJ q1, uS, sJ q2, uS, sJ q3, uS, sJ q4, uS, sJ q5, uS, sJ q6, uS, sJ q7, uS, sJ q8, uS, sJ q9, uS, sJ q10, uS, sJ q11, uS, sR a99, sR a104, uU, uU, uU, uU] [(.ref a109)]))
  obtain ⟨d112, hd112⟩ : ∃ v, FP.l2d q8 = v := ⟨_, rfl⟩
  have D112 : OwnDS 0 j1008 d112 := by rw [← hd112]; exact own_l2db F1008 bq8 (by decide)
  refine OwnGo.pre (fun t k => XS.dup X111.here hx rfl (hb hby at_136) rfl rfl (XS.iconst X111.here hx rfl (hb hby at_137) (XT.lload X111.here hx rfl (hb hby at_138) rfl (XS.l2dS X111.here hx rfl (hb hby at_140) rfl hd112 k)))) ?_
  show OwnGo _ _ _ _ (T111.setTop (mkF m 141 #[sJ p0, uS, sJ p1, uS, sJ p2, uS, sJ p3, uS, sJ p4, uS, sJ p5, uS, sI cnt, sJ q0, uS, sJ q1, uS, sJ q2, uS, sJ q3, uS, sJ q4, uS, sJ q5, uS, sJ q6, uS, sJ q7, uS, sJ q8, uS, sJ q9, uS, sJ q10, uS, sJ q11, uS, sR a99, sR a104, uU, uU, uU, uU] [(.double d112), (.int (1 : Int32)), (.ref a109), (.ref a109)]))
  obtain ⟨T113, h113, X113, e113, W113, A113, st113⟩ := own_daS X111 hx hZ e111 A111n (by decide) (i := 1) (by decide) (by show 1 < 2; decide) (g := (mkF m 141 #[sJ p0, uS, sJ p1, uS, sJ p2, uS, sJ p3, uS, sJ p4, uS, sJ p5, uS, sI cnt, sJ q0, uS, sJ q1, uS, sJ q2, uS, sJ q3, uS, sJ q4, uS, sJ q5, uS, sJ q6, uS, sJ q7, uS, sJ q8, uS, sJ q9, uS, sJ q10, uS, sJ q11, uS, sR a99, sR a104, uU, uU, uU, uU] [(.double d112), (.int (1 : Int32)), (.ref a109), (.ref a109)])) rfl rfl (hb hby at_141)
  have A113n : OwnDA Z h113 a109 [d110, d112] := A113
  have A113_a99 := A111_a99.ot W113 nea99_109
  have A113_a104 := A111_a104.ot W113 nea104_109
  have N113 := Fr.snoc X113 N111 G109
  have Z113 : n0 ≤ h113.size := by rw [W113.size]; exact Z111
  refine OwnGo.pre (fun t k => st113 t k) ?_
  show OwnGo _ _ _ _ (T113.setTop (mkF m 142 #[sJ p0, uS, sJ p1, uS, sJ p2, uS, sJ p3, uS, sJ p4, uS, sJ p5, uS, sI cnt, sJ q0, uS, sJ q1, uS, sJ q2, uS, sJ q3, uS, sJ q4, uS, sJ q5, uS, sJ q6, uS, sJ q7, uS, sJ q8, uS, sJ q9, uS, sJ q10, uS, sJ q11, uS, sR a99, sR a104, uU, uU, uU, uU] [(.ref a109)]))
  refine OwnGo.pre (fun t k => XS.astore X113.here hx rfl (hb hby at_142) rfl rfl (l' := #[sJ p0, uS, sJ p1, uS, sJ p2, uS, sJ p3, uS, sJ p4, uS, sJ p5, uS, sI cnt, sJ q0, uS, sJ q1, uS, sJ q2, uS, sJ q3, uS, sJ q4, uS, sJ q5, uS, sJ q6, uS, sJ q7, uS, sJ q8, uS, sJ q9, uS, sJ q10, uS, sJ q11, uS, sR a99, sR a104, sR a109, uU, uU, uU]) rfl (XS.iconst X113.here hx rfl (hb hby at_144) k)) ?_
  show OwnGo _ _ _ _ (T113.setTop (mkF m 145 #[sJ p0, uS, sJ p1, uS, sJ p2, uS, sJ p3, uS, sJ p4, uS, sJ p5, uS, sI cnt, sJ q0, uS, sJ q1, uS, sJ q2, uS, sJ q3, uS, sJ q4, uS, sJ q5, uS, sJ q6, uS, sJ q7, uS, sJ q8, uS, sJ q9, uS, sJ q10, uS, sJ q11, uS, sR a99, sR a104, sR a109, uU, uU, uU] [(.int (2 : Int32))]))
  obtain ⟨T114, h114, X114, e114, E114, A114, st114⟩ := own_newD X113 hx hZ (hw _ (List.mem_of_getElem? (i := 8) rfl)) e113 (g := (mkF m 145 #[sJ p0, uS, sJ p1, uS, sJ p2, uS, sJ p3, uS, sJ p4, uS, sJ p5, uS, sI cnt, sJ q0, uS, sJ q1, uS, sJ q2, uS, sJ q3, uS, sJ q4, uS, sJ q5, uS, sJ q6, uS, sJ q7, uS, sJ q8, uS, sJ q9, uS, sJ q10, uS, sJ q11, uS, sR a99, sR a104, sR a109, uU, uU, uU] [(.int (2 : Int32))])) rfl (hb hby at_145) rfl (by decide) (n := 2) (by decide) (by decide) (by decide) (by decide)
  obtain ⟨a114, g114⟩ : ∃ z, z = h113.size := ⟨_, rfl⟩
  rw [← g114] at A114 st114
  have G114 : n0 ≤ a114 := Nat.le_trans Z113 (Nat.le_of_eq g114.symm)
  have Z114 : n0 ≤ h114.size := Nat.le_trans Z113 E114.1
  have A114n : OwnDA Z h114 a114 [0, 0] := A114
  have nea99_114 : a99 ≠ a114 := (Nat.ne_of_lt (Nat.lt_of_lt_of_le A113_a99.lt (Nat.le_of_eq g114.symm)))
  have A114_a99 := A113_a99.ex E114
  have nea104_114 : a104 ≠ a114 := (Nat.ne_of_lt (Nat.lt_of_lt_of_le A113_a104.lt (Nat.le_of_eq g114.symm)))
  have A114_a104 := A113_a104.ex E114
  have nea109_114 : a109 ≠ a114 := (Nat.ne_of_lt (Nat.lt_of_lt_of_le A113n.lt (Nat.le_of_eq g114.symm)))
  have A114_a109 := A113n.ex E114
  refine OwnGo.pre (fun t k => st114 t k) ?_
  show OwnGo _ _ _ _ (T114.setTop (mkF m 147 #[sJ p0, uS, sJ p1, uS, sJ p2, uS, sJ p3, uS, sJ p4, uS, sJ p5, uS, sI cnt, sJ q0, uS, sJ q1, uS, sJ q2, uS, sJ q3, uS, sJ q4, uS, sJ q5, uS, sJ q6, uS, sJ q7, uS, sJ q8, uS, sJ q9, uS, sJ q10, uS, sJ q11, uS, sR a99, sR a104, sR a109, uU, uU, uU] [(.ref a114)]))
  obtain ⟨d115, hd115⟩ : ∃ v, FP.l2d q3 = v := ⟨_, rfl⟩
  have D115 : OwnDS 0 j1003 d115 := by rw [← hd115]; exact own_l2db F1003 bq3 (by decide)
  refine OwnGo.pre (fun t k => XS.dup X114.here hx rfl (hb hby at_147) rfl rfl (XS.iconst X114.here hx rfl (hb hby at_148) (XT.lload X114.here hx rfl (hb hby at_149) rfl (XS.l2dS X114.here hx rfl (hb hby at_151) rfl hd115 k)))) ?_
  show OwnGo _ _ _ _ (T114.setTop (mkF m 152 #[sJ p0, uS, sJ p1, uS, sJ p2, uS, sJ p3, uS, sJ p4, uS, sJ p5, uS, sI cnt, sJ q0, uS, sJ q1, uS, sJ q2, uS, sJ q3, uS, sJ q4, uS, sJ q5, uS, sJ q6, uS, sJ q7, uS, sJ q8, uS, sJ q9, uS, sJ q10, uS, sJ q11, uS, sR a99, sR a104, sR a109, uU, uU, uU] [(.double d115), (.int (0 : Int32)), (.ref a114), (.ref a114)]))
  obtain ⟨T116, h116, X116, e116, W116, A116, st116⟩ := own_daS X114 hx hZ e114 A114n (by decide) (i := 0) (by decide) (by show 0 < 2; decide) (g := (mkF m 152 #[sJ p0, uS, sJ p1, uS, sJ p2, uS, sJ p3, uS, sJ p4, uS, sJ p5, uS, sI cnt, sJ q0, uS, sJ q1, uS, sJ q2, uS, sJ q3, uS, sJ q4, uS, sJ q5, uS, sJ q6, uS, sJ q7, uS, sJ q8, uS, sJ q9, uS, sJ q10, uS, sJ q11, uS, sR a99, sR a104, sR a109, uU, uU, uU] [(.double d115), (.int (0 : Int32)), (.ref a114), (.ref a114)])) rfl rfl (hb hby at_152)
  have A116n : OwnDA Z h116 a114 [d115, 0] := A116
  have A116_a99 := A114_a99.ot W116 nea99_114
  have A116_a104 := A114_a104.ot W116 nea104_114
  have A116_a109 := A114_a109.ot W116 nea109_114
  have N116 := Fr.snoc X116 N113 G114
  have Z116 : n0 ≤ h116.size := by rw [W116.size]; exact Z114
  refine OwnGo.pre (fun t k => st116 t k) ?_
  show OwnGo _ _ _ _ (T116.setTop (mkF m 153 #[sJ p0, uS, sJ p1, uS, sJ p2, uS, sJ p3, uS, sJ p4, uS, sJ p5, uS, sI cnt, sJ q0, uS, sJ q1, uS, sJ q2, uS, sJ q3, uS, sJ q4, uS, sJ q5, uS, sJ q6, uS, sJ q7, uS, sJ q8, uS, sJ q9, uS, sJ q10, uS, sJ q11, uS, sR a99, sR a104, sR a109, uU, uU, uU] [(.ref a114)]))
  obtain ⟨d117, hd117⟩ : ∃ v, FP.l2d q9 = v := ⟨_, rfl⟩
  have D117 : OwnDS 0 j1009 d117 := by rw [← hd117]; exact own_l2db F1009 bq9 (by decide)
  refine OwnGo.pre (fun t k => XS.dup X116.here hx rfl (hb hby at_153) rfl rfl (XS.iconst X116.here hx rfl (hb hby at_154) (XT.lload X116.here hx rfl (hb hby at_155) rfl (XS.l2dS X116.here hx rfl (hb hby at_157) rfl hd117 k)))) ?_
  show OwnGo _ _ _ _ (T116.setTop (mkF m 158 #[sJ p0, uS, sJ p1, uS, sJ p2, uS, sJ p3, uS, sJ p4, uS, sJ p5, uS, sI cnt, sJ q0, uS, sJ q1, uS, sJ q2, uS, sJ q3, uS, sJ q4, uS, sJ q5, uS, sJ q6, uS, sJ q7, uS, sJ q8, uS, sJ q9, uS, sJ q10, uS, sJ q11, uS, sR a99, sR a104, sR a109, uU, uU, uU] [(.double d117), (.int (1 : Int32)), (.ref a114), (.ref a114)]))
  obtain ⟨T118, h118, X118, e118, W118, A118, st118⟩ := own_daS X116 hx hZ e116 A116n (by decide) (i := 1) (by decide) (by show 1 < 2; decide) (g := (mkF m 158 #[sJ p0, uS, sJ p1, uS, sJ p2, uS, sJ p3, uS, sJ p4, uS, sJ p5, uS, sI cnt, sJ q0, uS, sJ q1, uS, sJ q2, uS, sJ q3, uS, sJ q4, uS, sJ q5, uS, sJ q6, uS, sJ q7, uS, sJ q8, uS, sJ q9, uS, sJ q10, uS, sJ q11, uS, sR a99, sR a104, sR a109, uU, uU, uU] [(.double d117), (.int (1 : Int32)), (.ref a114), (.ref a114)])) rfl rfl (hb hby at_158)
  have A118n : OwnDA Z h118 a114 [d115, d117] := A118
  have A118_a99 := A116_a99.ot W118 nea99_114
  have A118_a104 := A116_a104.ot W118 nea104_114
  have A118_a109 := A116_a109.ot W118 nea109_114
  have N118 := Fr.snoc X118 N116 G114
  have Z118 : n0 ≤ h118.size := by rw [W118.size]; exact Z116
  refine OwnGo.pre (fun t k => st118 t k) ?_
  show OwnGo _ _ _ _ (T118.setTop (mkF m 159 #[sJ p0, uS, sJ p1, uS, sJ p2, uS, sJ p3, uS, sJ p4, uS, sJ p5, uS, sI cnt, sJ q0, uS, sJ q1, uS, sJ q2, uS, sJ q3, uS, sJ q4, uS, sJ q5, uS, sJ q6, uS, sJ q7, uS, sJ q8, uS, sJ q9, uS, sJ q10, uS, sJ q11, uS, sR a99, sR a104, sR a109, uU, uU, uU] [(.ref a114)]))
  refine OwnGo.pre (fun t k => XS.astore X118.here hx rfl (hb hby at_159) rfl rfl (l' := #[sJ p0, uS, sJ p1, uS, sJ p2, uS, sJ p3, uS, sJ p4, uS, sJ p5, uS, sI cnt, sJ q0, uS, sJ q1, uS, sJ q2, uS, sJ q3, uS, sJ q4, uS, sJ q5, uS, sJ q6, uS, sJ q7, uS, sJ q8, uS, sJ q9, uS, sJ q10, uS, sJ q11, uS, sR a99, sR a104, sR a109, sR a114, uU, uU]) rfl (XS.iconst X118.here hx rfl (hb hby at_161) k)) ?_
  show OwnGo _ _ _ _ (T118.setTop (mkF m 162 #[sJ p0, uS, sJ p1, uS, sJ p2, uS, sJ p3, uS, sJ p4, uS, sJ p5, uS, sI cnt, sJ q0, uS, sJ q1, uS, sJ q2, uS, sJ q3, uS, sJ q4, uS, sJ q5, uS, sJ q6, uS, sJ q7, uS, sJ q8, uS, sJ q9, uS, sJ q10, uS, sJ q11, uS, sR a99, sR a104, sR a109, sR a114, uU, uU] [(.int (2 : Int32))]))
  obtain ⟨T119, h119, X119, e119, E119, A119, st119⟩ := own_newD X118 hx hZ (hw _ (List.mem_of_getElem? (i := 8) rfl)) e118 (g := (mkF m 162 #[sJ p0, uS, sJ p1, uS, sJ p2, uS, sJ p3, uS, sJ p4, uS, sJ p5, uS, sI cnt, sJ q0, uS, sJ q1, uS, sJ q2, uS, sJ q3, uS, sJ q4, uS, sJ q5, uS, sJ q6, uS, sJ q7, uS, sJ q8, uS, sJ q9, uS, sJ q10, uS, sJ q11, uS, sR a99, sR a104, sR a109, sR a114, uU, uU] [(.int (2 : Int32))])) rfl (hb hby at_162) rfl (by decide) (n := 2) (by decide) (by decide) (by decide) (by decide)
  obtain ⟨a119, g119⟩ : ∃ z, z = h118.size := ⟨_, rfl⟩
  rw [← g119] at A119 st119
  have G119 : n0 ≤ a119 := Nat.le_trans Z118 (Nat.le_of_eq g119.symm)
  have Z119 : n0 ≤ h119.size := Nat.le_trans Z118 E119.1
  have A119n : OwnDA Z h119 a119 [0, 0] := A119
  have nea99_119 : a99 ≠ a119 := (Nat.ne_of_lt (Nat.lt_of_lt_of_le A118_a99.lt (Nat.le_of_eq g119.symm)))
  have A119_a99 := A118_a99.ex E119
  have nea104_119 : a104 ≠ a119 := (Nat.ne_of_lt (Nat.lt_of_lt_of_le A118_a104.lt (Nat.le_of_eq g119.symm)))
  have A119_a104 := A118_a104.ex E119
  have nea109_119 : a109 ≠ a119 := (Nat.ne_of_lt (Nat.lt_of_lt_of_le A118_a109.lt (Nat.le_of_eq g119.symm)))
  have A119_a109 := A118_a109.ex E119
  have nea114_119 : a114 ≠ a119 := (Nat.ne_of_lt (Nat.lt_of_lt_of_le A118n.lt (Nat.le_of_eq g119.symm)))
  have A119_a114 := A118n.ex E119
  refine OwnGo.pre (fun t k => st119 t k) ?_
  show OwnGo _ _ _ _ (T119.setTop (mkF m 164 #[sJ p0, uS, sJ p1, uS, sJ p2, uS, sJ p3, uS, sJ p4, uS, sJ p5, uS, sI cnt, sJ q0, uS, sJ q1, uS, sJ q2, uS, sJ q3, uS, sJ q4, uS, sJ q5, uS, sJ q6, uS, sJ q7, uS, sJ q8, uS, sJ q9, uS, sJ q10, uS, sJ q11, uS, sR a99, sR a104, sR a109, sR a114, uU, uU] [(.ref a119)]))
  obtain ⟨d120, hd120⟩ : ∃ v, FP.l2d q4 = v := ⟨_, rfl⟩
  have D120 : OwnDS 0 j1004 d120 := by rw [← hd120]; exact own_l2db F1004 bq4 (by decide)
  refine OwnGo.pre (fun t k => XS.dup X119.here hx rfl (hb hby at_164) rfl rfl (XS.iconst X119.here hx rfl (hb hby at_165) (XT.lload X119.here hx rfl (hb hby at_166) rfl (XS.l2dS X119.here hx rfl (hb hby at_168) rfl hd120 k)))) ?_
  show OwnGo _ _ _ _ (T119.setTop (mkF m 169 #[sJ p0, uS, sJ p1, uS, sJ p2, uS, sJ p3, uS, sJ p4, uS, sJ p5, uS, sI cnt, sJ q0, uS, sJ q1, uS, sJ q2, uS, sJ q3, uS, sJ q4, uS, sJ q5, uS, sJ q6, uS, sJ q7, uS, sJ q8, uS, sJ q9, uS, sJ q10, uS, sJ q11, uS, sR a99, sR a104, sR a109, sR a114, uU, uU] [(.double d120), (.int (0 : Int32)), (.ref a119), (.ref a119)]))
  obtain ⟨T121, h121, X121, e121, W121, A121, st121⟩ := own_daS X119 hx hZ e119 A119n (by decide) (i := 0) (by decide) (by show 0 < 2; decide) (g := (mkF m 169 #[sJ p0, uS, sJ p1, uS, sJ p2, uS, sJ p3, uS, sJ p4, uS, sJ p5, uS, sI cnt, sJ q0, uS, sJ q1, uS, sJ q2, uS, sJ q3, uS, sJ q4, uS, sJ q5, uS, sJ q6, uS, sJ q7, uS, sJ q8, uS, sJ q9, uS, sJ q10, uS, sJ q11, uS, sR a99, sR a104, sR a109, sR a114, uU, uU] [(.double d120), (.int (0 : Int32)), (.ref a119), (.ref a119)])) rfl rfl (hb hby at_169)
  have A121n : OwnDA Z h121 a119 [d120, 0] := A121
  have A121_a99 := A119_a99.ot W121 nea99_119
  have A121_a104 := A119_a104.ot W121 nea104_119
  have A121_a109 := A119_a109.ot W121 nea109_119
  have A121_a114 := A119_a114.ot W121 nea114_119
  have N121 := Fr.snoc X121 N118 G119
  have Z121 : n0 ≤ h121.size := by rw [W121.size]; exact Z119
  refine OwnGo.pre (fun t k => st121 t k) ?_
  show OwnGo _ _ _ _ (T121.setTop (mkF m 170 #[sJ p0, uS, sJ p1, uS, sJ p2, uS, sJ p3, uS, sJ p4, uS, sJ p5, uS, sI cnt, sJ q0, uS, sJ q1, uS, sJ q2, uS, sJ q3, uS, sJ q4, uS, sJ q5, uS, sJ q6, uS, sJ q7, uS, sJ q8, uS, sJ q9, uS, sJ q10, uS, sJ q11, uS, sR a99, sR a104, sR a109, sR a114, uU, uU] [(.ref a119)]))
  obtain ⟨d122, hd122⟩ : ∃ v, FP.l2d q10 = v := ⟨_, rfl⟩
  have D122 : OwnDS 0 j1010 d122 := by rw [← hd122]; exact own_l2db F1010 bq10 (by decide)
  refine OwnGo.pre (fun t k => XS.dup X121.here hx rfl (hb hby at_170) rfl rfl (XS.iconst X121.here hx rfl (hb hby at_171) (XT.lload X121.here hx rfl (hb hby at_172) rfl (XS.l2dS X121.here hx rfl (hb hby at_174) rfl hd122 k)))) ?_
  show OwnGo _ _ _ _ (T121.setTop (mkF m 175 #[sJ p0, uS, sJ p1, uS, sJ p2, uS, sJ p3, uS, sJ p4, uS, sJ p5, uS, sI cnt, sJ q0, uS, sJ q1, uS, sJ q2, uS, sJ q3, uS, sJ q4, uS, sJ q5, uS, sJ q6, uS, sJ q7, uS, sJ q8, uS, sJ q9, uS, sJ q10, uS, sJ q11, uS, sR a99, sR a104, sR a109, sR a114, uU, uU] [(.double d122), (.int (1 : Int32)), (.ref a119), (.ref a119)]))
  obtain ⟨T123, h123, X123, e123, W123, A123, st123⟩ := own_daS X121 hx hZ e121 A121n (by decide) (i := 1) (by decide) (by show 1 < 2; decide) (g := (mkF m 175 #[sJ p0, uS, sJ p1, uS, sJ p2, uS, sJ p3, uS, sJ p4, uS, sJ p5, uS, sI cnt, sJ q0, uS, sJ q1, uS, sJ q2, uS, sJ q3, uS, sJ q4, uS, sJ q5, uS, sJ q6, uS, sJ q7, uS, sJ q8, uS, sJ q9, uS, sJ q10, uS, sJ q11, uS, sR a99, sR a104, sR a109, sR a114, uU, uU] [(.double d122), (.int (1 : Int32)), (.ref a119), (.ref a119)])) rfl rfl (hb hby at_175)
  have A123n : OwnDA Z h123 a119 [d120, d122] := A123
  have A123_a99 := A121_a99.ot W123 nea99_119
  have A123_a104 := A121_a104.ot W123 nea104_119
  have A123_a109 := A121_a109.ot W123 nea109_119
  have A123_a114 := A121_a114.ot W123 nea114_119
  have N123 := Fr.snoc X123 N121 G119
  have Z123 : n0 ≤ h123.size := by rw [W123.size]; exact Z121
  refine OwnGo.pre (fun t k => st123 t k) ?_
  show OwnGo _ _ _ _ (T123.setTop (mkF m 176 #[sJ p0, uS, sJ p1, uS, sJ p2, uS, sJ p3, uS, sJ p4, uS, sJ p5, uS, sI cnt, sJ q0, uS, sJ q1, uS, sJ q2, uS, sJ q3, uS, sJ q4, uS, sJ q5, uS, sJ q6, uS, sJ q7, uS, sJ q8, uS, sJ q9, uS, sJ q10, uS, sJ q11, uS, sR a99, sR a104, sR a109, sR a114, uU, uU] [(.ref a119)]))
  refine OwnGo.pre (fun t k => XS.astore X123.here hx rfl (hb hby at_176) rfl rfl (l' := #[sJ p0, uS, sJ p1, uS, sJ p2, uS, sJ p3, uS, sJ p4, uS, sJ p5, uS, sI cnt, sJ q0, uS, sJ q1, uS, sJ q2, uS, sJ q3, uS, sJ q4, uS, sJ q5, uS, sJ q6, uS, sJ q7, uS, sJ q8, uS, sJ q9, uS, sJ q10, uS, sJ q11, uS, sR a99, sR a104, sR a109, sR a114, sR a119, uU]) rfl (XS.iconst X123.here hx rfl (hb hby at_178) k)) ?_
  show OwnGo _ _ _ _ (T123.setTop (mkF m 179 #[sJ p0, uS, sJ p1, uS, sJ p2, uS, sJ p3, uS, sJ p4, uS, sJ p5, uS, sI cnt, sJ q0, uS, sJ q1, uS, sJ q2, uS, sJ q3, uS, sJ q4, uS, sJ q5, uS, sJ q6, uS, sJ q7, uS, sJ q8, uS, sJ q9, uS, sJ q10, uS, sJ q11, uS, sR a99, sR a104, sR a109, sR a114, sR a119, uU] [(.int (2 : Int32))]))
  obtain ⟨T124, h124, X124, e124, E124, A124, st124⟩ := own_newD X123 hx hZ (hw _ (List.mem_of_getElem? (i := 8) rfl)) e123 (g := (mkF m 179 #[sJ p0, uS, sJ p1, uS, sJ p2, uS, sJ p3, uS, sJ p4, uS, sJ p5, uS, sI cnt, sJ q0, uS, sJ q1, uS, sJ q2, uS, sJ q3, uS, sJ q4, uS, sJ q5, uS, sJ q6, uS, sJ q7, uS, sJ q8, uS, sJ q9, uS, sJ q10, uS, sJ q11, uS, sR a99, sR a104, sR a109, sR a114, sR a119, uU] [(.int (2 : Int32))])) rfl (hb hby at_179) rfl (by decide) (n := 2) (by decide) (by decide) (by decide) (by decide)
  obtain ⟨a124, g124⟩ : ∃ z, z = h123.size := ⟨_, rfl⟩
  rw [← g124] at A124 st124
  have G124 : n0 ≤ a124 := Nat.le_trans Z123 (Nat.le_of_eq g124.symm)
  have Z124 : n0 ≤ h124.size := Nat.le_trans Z123 E124.1
  have A124n : OwnDA Z h124 a124 [0, 0] := A124
  have nea99_124 : a99 ≠ a124 := (Nat.ne_of_lt (Nat.lt_of_lt_of_le A123_a99.lt (Nat.le_of_eq g124.symm)))
  have A124_a99 := A123_a99.ex E124
  have nea104_124 : a104 ≠ a124 := (Nat.ne_of_lt (Nat.lt_of_lt_of_le A123_a104.lt (Nat.le_of_eq g124.symm)))
  have A124_a104 := A123_a104.ex E124
  have nea109_124 : a109 ≠ a124 := (Nat.ne_of_lt (Nat.lt_of_lt_of_le A123_a109.lt (Nat.le_of_eq g124.symm)))
  have A124_a109 := A123_a109.ex E124
  have nea114_124 : a114 ≠ a124 := (Nat.ne_of_lt (Nat.lt_of_lt_of_le A123_a114.lt (Nat.le_of_eq g124.symm)))
  have A124_a114 := A123_a114.ex E124
  have nea119_124 : a119 ≠ a124 := (Nat.ne_of_lt (Nat.lt_of_lt_of_le A123n.lt (Nat.le_of_eq g124.symm)))
  have A124_a119 := A123n.ex E124
  refine OwnGo.pre (fun t k => st124 t k) ?_
  show OwnGo _ _ _ _ (T124.setTop (mkF m 181 #[sJ p0, uS, sJ p1, uS, sJ p2, uS, sJ p3, uS, sJ p4, uS, sJ p5, uS, sI cnt, sJ q0, uS, sJ q1, uS, sJ q2, uS, sJ q3, uS, sJ q4, uS, sJ q5, uS, sJ q6, uS, sJ q7, uS, sJ q8, uS, sJ q9, uS, sJ q10, uS, sJ q11, uS, sR a99, sR a104, sR a109, sR a114, sR a119, uU] [(.ref a124)]))
  obtain ⟨d125, hd125⟩ : ∃ v, FP.l2d q5 = v := ⟨_, rfl⟩
  have D125 : OwnDS 0 j1005 d125 := by rw [← hd125]; exact own_l2db F1005 bq5 (by decide)
  refine OwnGo.pre (fun t k => XS.dup X124.here hx rfl (hb hby at_181) rfl rfl (XS.iconst X124.here hx rfl (hb hby at_182) (XT.lload X124.here hx rfl (hb hby at_183) rfl (XS.l2dS X124.here hx rfl (hb hby at_185) rfl hd125 k)))) ?_
  show OwnGo _ _ _ _ (T124.setTop (mkF m 186 #[sJ p0, uS, sJ p1, uS, sJ p2, uS, sJ p3, uS, sJ p4, uS, sJ p5, uS, sI cnt, sJ q0, uS, sJ q1, uS, sJ q2, uS, sJ q3, uS, sJ q4, uS, sJ q5, uS, sJ q6, uS, sJ q7, uS, sJ q8, uS, sJ q9, uS, sJ q10, uS, sJ q11, uS, sR a99, sR a104, sR a109, sR a114, sR a119, uU] [(.double d125), (.int (0 : Int32)), (.ref a124), (.ref a124)]))
  obtain ⟨T126, h126, X126, e126, W126, A126, st126⟩ := own_daS X124 hx hZ e124 A124n (by decide) (i := 0) (by decide) (by show 0 < 2; decide) (g := (mkF m 186 #[sJ p0, uS, sJ p1, uS, sJ p2, uS, sJ p3, uS, sJ p4, uS, sJ p5, uS, sI cnt, sJ q0, uS, sJ q1, uS, sJ q2, uS, sJ q3, uS, sJ q4, uS, sJ q5, uS, sJ q6, uS, sJ q7, uS, sJ q8, uS, sJ q9, uS, sJ q10, uS, sJ q11, uS, sR a99, sR a104, sR a109, sR a114, sR a119, uU] [(.double d125), (.int (0 : Int32)), (.ref a124), (.ref a124)])) rfl rfl (hb hby at_186)
  have A126n : OwnDA Z h126 a124 [d125, 0] := A126
  have A126_a99 := A124_a99.ot W126 nea99_124
  have A126_a104 := A124_a104.ot W126 nea104_124
  have A126_a109 := A124_a109.ot W126 nea109_124
  have A126_a114 := A124_a114.ot W126 nea114_124
  have A126_a119 := A124_a119.ot W126 nea119_124
  have N126 := Fr.snoc X126 N123 G124
  have Z126 : n0 ≤ h126.size := by rw [W126.size]; exact Z124
  refine OwnGo.pre (fun t k => st126 t k) ?_
  show OwnGo _ _ _ _ (T126.setTop (mkF m 187 #[sJ p0, uS, sJ p1, uS, sJ p2, uS, sJ p3, uS, sJ p4, uS, sJ p5, uS, sI cnt, sJ q0, uS, sJ q1, uS, sJ q2, uS, sJ q3, uS, sJ q4, uS, sJ q5, uS, sJ q6, uS, sJ q7, uS, sJ q8, uS, sJ q9, uS, sJ q10, uS, sJ q11, uS, sR a99, sR a104, sR a109, sR a114, sR a119, uU] [(.ref a124)]))
  obtain ⟨d127, hd127⟩ : ∃ v, FP.l2d q11 = v := ⟨_, rfl⟩
  have D127 : OwnDS 0 j1011 d127 := by rw [← hd127]; exact own_l2db F1011 bq11 (by decide)
  refine OwnGo.pre (fun t k => XS.dup X126.here hx rfl (hb hby at_187) rfl rfl (XS.iconst X126.here hx rfl (hb hby at_188) (XT.lload X126.here hx rfl (hb hby at_189) rfl (XS.l2dS X126.here hx rfl (hb hby at_191) rfl hd127 k)))) ?_
  show OwnGo _ _ _ _ (T126.setTop (mkF m 192 #[sJ p0, uS, sJ p1, uS, sJ p2, uS, sJ p3, uS, sJ p4, uS, sJ p5, uS, sI cnt, sJ q0, uS, sJ q1, uS, sJ q2, uS, sJ q3, uS, sJ q4, uS, sJ q5, uS, sJ q6, uS, sJ q7, uS, sJ q8, uS, sJ q9, uS, sJ q10, uS, sJ q11, uS, sR a99, sR a104, sR a109, sR a114, sR a119, uU] [(.double d127), (.int (1 : Int32)), (.ref a124), (.ref a124)]))
  obtain ⟨T128, h128, X128, e128, W128, A128, st128⟩ := own_daS X126 hx hZ e126 A126n (by decide) (i := 1) (by decide) (by show 1 < 2; decide) (g := (mkF m 192 #[sJ p0, uS, sJ p1, uS, sJ p2, uS, sJ p3, uS, sJ p4, uS, sJ p5, uS, sI cnt, sJ q0, uS, sJ q1, uS, sJ q2, uS, sJ q3, uS, sJ q4, uS, sJ q5, uS, sJ q6, uS, sJ q7, uS, sJ q8, uS, sJ q9, uS, sJ q10, uS, sJ q11, uS, sR a99, sR a104, sR a109, sR a114, sR a119, uU] [(.double d127), (.int (1 : Int32)), (.ref a124), (.ref a124)])) rfl rfl (hb hby at_192)
  have A128n : OwnDA Z h128 a124 [d125, d127] := A128
  have A128_a99 := A126_a99.ot W128 nea99_124
  have A128_a104 := A126_a104.ot W128 nea104_124
  have A128_a109 := A126_a109.ot W128 nea109_124
  have A128_a114 := A126_a114.ot W128 nea114_124
  have A128_a119 := A126_a119.ot W128 nea119_124
  have N128 := Fr.snoc X128 N126 G124
  have Z128 : n0 ≤ h128.size := by rw [W128.size]; exact Z126
  refine OwnGo.pre (fun t k => st128 t k) ?_
  show OwnGo _ _ _ _ (T128.setTop (mkF m 193 #[sJ p0, uS, sJ p1, uS, sJ p2, uS, sJ p3, uS, sJ p4, uS, sJ p5, uS, sI cnt, sJ q0, uS, sJ q1, uS, sJ q2, uS, sJ q3, uS, sJ q4, uS, sJ q5, uS, sJ q6, uS, sJ q7, uS, sJ q8, uS, sJ q9, uS, sJ q10, uS, sJ q11, uS, sR a99, sR a104, sR a109, sR a114, sR a119, uU] [(.ref a124)]))
  refine OwnGo.pre (fun t k => XS.astore X128.here hx rfl (hb hby at_193) rfl rfl (l' := #[sJ p0, uS, sJ p1, uS, sJ p2, uS, sJ p3, uS, sJ p4, uS, sJ p5, uS, sI cnt, sJ q0, uS, sJ q1, uS, sJ q2, uS, sJ q3, uS, sJ q4, uS, sJ q5, uS, sJ q6, uS, sJ q7, uS, sJ q8, uS, sJ q9, uS, sJ q10, uS, sJ q11, uS, sR a99, sR a104, sR a109, sR a114, sR a119, sR a124]) rfl (XS.aload X128.here hx rfl (hb hby at_195) rfl rfl (XS.aload X128.here hx rfl (hb hby at_197) rfl rfl (XS.aload X128.here hx rfl (hb hby at_199) rfl rfl (XS.aload X128.here hx rfl (hb hby at_201) rfl rfl (XS.aload X128.here hx rfl (hb hby at_203) rfl rfl (XS.aload X128.here hx rfl (hb hby at_205) rfl rfl (XS.iload X128.here hx rfl (hb hby at_207) rfl k)))))))) ?_
  show OwnGo _ _ _ _ (T128.setTop (mkF m 209 #[sJ p0, uS, sJ p1, uS, sJ p2, uS, sJ p3, uS, sJ p4, uS, sJ p5, uS, sI cnt, sJ q0, uS, sJ q1, uS, sJ q2, uS, sJ q3, uS, sJ q4, uS, sJ q5, uS, sJ q6, uS, sJ q7, uS, sJ q8, uS, sJ q9, uS, sJ q10, uS, sJ q11, uS, sR a99, sR a104, sR a109, sR a114, sR a119, sR a124] [(.int cnt), (.ref a124), (.ref a119), (.ref a114), (.ref a109), (.ref a104), (.ref a99)]))
  rcases ccnt with rfl | rfl | rfl
  · skip
    show OwnGo _ _ _ _ (T128.setTop (mkF m 209 #[sJ p0, uS, sJ p1, uS, sJ p2, uS, sJ p3, uS, sJ p4, uS, sJ p5, uS, sI (0 : Int32), sJ q0, uS, sJ q1, uS, sJ q2, uS, sJ q3, uS, sJ q4, uS, sJ q5, uS, sJ q6, uS, sJ q7, uS, sJ q8, uS, sJ q9, uS, sJ q10, uS, sJ q11, uS, sR a99, sR a104, sR a109, sR a114, sR a119, sR a124] [(.int (0 : Int32)), (.ref a124), (.ref a119), (.ref a114), (.ref a109), (.ref a104), (.ref a99)]))
    obtain ⟨_, _, ⟨T129, L129, k129, n129⟩, -, X129, ⟨Lc129, hQ129, l129, y129, z129⟩, st129⟩ := Jvm.LawKit.callS X128 hx (y := (⟨"com/example/isochron/isochron/dsp/RowButterflies", "forward", "([D[D[D[D[D[DI)V"⟩ : MethodName)) hown (mvT hZ (hw _ (List.mem_of_getElem? (i := 9) rfl))) (mvT hZ (hw _ (List.mem_of_getElem? (i := 10) rfl))) (mvT hZ (hw _ (List.mem_of_getElem? (i := 11) rfl))) (mvT hZ (hw _ (List.mem_of_getElem? (i := 12) rfl))) (by decide) (backOf (W := 0) (rm := ({ frames := 0, cells := 0, slots := 0, locals := 0 } : Room)) (Q := Q_rmF0 Z a99 a104 a109 a114 a119 a124 d100 d102 d105 d107 d110 d112 d115 d117 d120 d122 d125 d127 j1000 j1006 j1001 j1007 j1002 j1008 j1003 j1009 j1004 j1010 j1005 j1011 h128 n0) (rmF0 l Z a0 hw [] a99 a104 a109 a114 a119 a124 d100 d102 d105 d107 d110 d112 d115 d117 d120 d122 d125 d127 j1000 j1006 j1001 j1007 j1002 j1008 j1003 j1009 j1004 j1010 j1005 j1011 h128 n0 Z128 A128_a99 A128_a104 A128_a109 A128_a114 A128_a119 A128n nea99_104 nea99_109 nea99_114 nea99_119 nea99_124 nea104_109 nea104_114 nea104_119 nea104_124 nea109_114 nea109_119 nea109_124 nea114_119 nea114_124 nea119_124 G99 G104 G109 G114 D100 bq0 D102 bq6 D105 bq1 D107 bq7 D110 bq2 D112 bq8 D115 bq3 D117 bq9 D120 bq4 D122 bq10 D125 bq5 D127 bq11) hZ (hw _ (List.mem_of_getElem? (i := 12) rfl)) (hw _ (List.mem_of_getElem? (i := 11) rfl)) (by decide) (by decide)) (g := (mkF m 209 #[sJ p0, uS, sJ p1, uS, sJ p2, uS, sJ p3, uS, sJ p4, uS, sJ p5, uS, sI (0 : Int32), sJ q0, uS, sJ q1, uS, sJ q2, uS, sJ q3, uS, sJ q4, uS, sJ q5, uS, sJ q6, uS, sJ q7, uS, sJ q8, uS, sJ q9, uS, sJ q10, uS, sJ q11, uS, sR a99, sR a104, sR a109, sR a114, sR a119, sR a124] [(.int (0 : Int32)), (.ref a124), (.ref a119), (.ref a114), (.ref a109), (.ref a104), (.ref a99)])) rfl (by rw [hml]; rfl) (argsL := [(.ref a99), (.ref a104), (.ref a109), (.ref a114), (.ref a119), (.ref a124), (.int (0 : Int32))]) (rest := []) (lenOf pd_rmF0 rfl) rfl (by show 2 * 0 + _ ≤ _; exact Nat.le_of_eq rfl) (hb hby at_209) (fun _ _ => ⟨rfl, e128, (by decide : 6 + 0 ≤ _), (by decide : 12 + 0 ≤ _)⟩)
    dsimp only [Pt.U, Pt.locs, Pt.cells, Pt.slots] at X129 l129 y129 z129 st129 hQ129
    replace l129 := l129.symm
    replace y129 := y129.symm
    replace z129 := z129.symm
    subst l129 y129 z129
    obtain ⟨rfl, AF0, AF1, AF2, AF3, AF4, AF5, N129, Z129⟩ := hQ129
    refine OwnGo.pre (fun t k => st129 t k) ?_
    show OwnGo _ _ _ _ (T129.setTop (mkF m 212 #[sJ p0, uS, sJ p1, uS, sJ p2, uS, sJ p3, uS, sJ p4, uS, sJ p5, uS, sI (0 : Int32), sJ q0, uS, sJ q1, uS, sJ q2, uS, sJ q3, uS, sJ q4, uS, sJ q5, uS, sJ q6, uS, sJ q7, uS, sJ q8, uS, sJ q9, uS, sJ q10, uS, sJ q11, uS, sR a99, sR a104, sR a109, sR a114, sR a119, sR a124] []))
    have M129 := Fr.app N128 N129
    refine OwnGo.pre (fun t k => XS.iconst X129.here hx rfl (hb hby at_212) (XS.iload X129.here hx rfl (hb hby at_213) rfl (XS.aload X129.here hx rfl (hb hby at_215) rfl rfl (XS.aload X129.here hx rfl (hb hby at_217) rfl rfl (XS.aload X129.here hx rfl (hb hby at_219) rfl rfl (XS.aload X129.here hx rfl (hb hby at_221) rfl rfl (XS.aload X129.here hx rfl (hb hby at_223) rfl rfl (XS.aload X129.here hx rfl (hb hby at_225) rfl rfl k)))))))) ?_
    show OwnGo _ _ _ _ (T129.setTop (mkF m 227 #[sJ p0, uS, sJ p1, uS, sJ p2, uS, sJ p3, uS, sJ p4, uS, sJ p5, uS, sI (0 : Int32), sJ q0, uS, sJ q1, uS, sJ q2, uS, sJ q3, uS, sJ q4, uS, sJ q5, uS, sJ q6, uS, sJ q7, uS, sJ q8, uS, sJ q9, uS, sJ q10, uS, sJ q11, uS, sR a99, sR a104, sR a109, sR a114, sR a119, sR a124] [(.ref a124), (.ref a119), (.ref a114), (.ref a109), (.ref a104), (.ref a99), (.int (0 : Int32)), (.int (0 : Int32))]))
    refine OwnGo.pre (fun t k => XT.lload X129.here hx rfl (hb hby at_227) rfl (XT.lload X129.here hx rfl (hb hby at_229) rfl (XT.lload X129.here hx rfl (hb hby at_231) rfl (XT.lload X129.here hx rfl (hb hby at_233) rfl (XT.lload X129.here hx rfl (hb hby at_235) rfl (XT.lload X129.here hx rfl (hb hby at_237) rfl k)))))) ?_
    show OwnGo _ _ _ _ (T129.setTop (mkF m 239 #[sJ p0, uS, sJ p1, uS, sJ p2, uS, sJ p3, uS, sJ p4, uS, sJ p5, uS, sI (0 : Int32), sJ q0, uS, sJ q1, uS, sJ q2, uS, sJ q3, uS, sJ q4, uS, sJ q5, uS, sJ q6, uS, sJ q7, uS, sJ q8, uS, sJ q9, uS, sJ q10, uS, sJ q11, uS, sR a99, sR a104, sR a109, sR a114, sR a119, sR a124] [(.long q5), (.long q4), (.long q3), (.long q2), (.long q1), (.long q0), (.ref a124), (.ref a119), (.ref a114), (.ref a109), (.ref a104), (.ref a99), (.int (0 : Int32)), (.int (0 : Int32))]))
    obtain ⟨_, _, ⟨T130, L130, k130, n130⟩, -, X130, ⟨Lc130, hQ130, l130, y130, z130⟩, st130⟩ := Jvm.LawKit.callS X129 hx (y := (⟨"com/example/isochron/isochron/dsp/RowButterfliesForwardPinLaw", "check", "(II[D[D[D[D[D[DJJJJJJ)Z"⟩ : MethodName)) hown (mvT hZ (hw _ (List.mem_of_getElem? (i := 13) rfl))) (mvT hZ (hw _ (List.mem_of_getElem? (i := 14) rfl))) (mvT hZ (hw _ (List.mem_of_getElem? (i := 3) rfl))) (mvT hZ (hw _ (List.mem_of_getElem? (i := 15) rfl))) (by decide) (backOf (W := 0) (rm := ({ frames := 0, cells := 0, slots := 0, locals := 0 } : Room)) (Q := Q_rmC0g Z (0 : Int32) a99 a104 a109 a114 a119 a124 d100 d102 d105 d107 d110 d112 d115 d117 d120 d122 d125 d127 q0 q1 q2 q3 q4 q5 j1000 j1001 j1002 j1003 j1004 j1005 T129.heap n0) (rmC0g l Z a0 hw [] (0 : Int32) a99 a104 a109 a114 a119 a124 d100 d102 d105 d107 d110 d112 d115 d117 d120 d122 d125 d127 q0 q1 q2 q3 q4 q5 j1000 j1001 j1002 j1003 j1004 j1005 T129.heap n0 Z129 AF0 AF1 AF2 AF3 AF4 AF5 D100 D105 D110 D115 D120 D125 F1000 bq0 F1001 bq1 F1002 bq2 F1003 bq3 F1004 bq4 F1005 bq5 (by decide)) hZ (hw _ (List.mem_of_getElem? (i := 15) rfl)) (hw _ (List.mem_of_getElem? (i := 3) rfl)) (by decide) (by decide)) (g := (mkF m 239 #[sJ p0, uS, sJ p1, uS, sJ p2, uS, sJ p3, uS, sJ p4, uS, sJ p5, uS, sI (0 : Int32), sJ q0, uS, sJ q1, uS, sJ q2, uS, sJ q3, uS, sJ q4, uS, sJ q5, uS, sJ q6, uS, sJ q7, uS, sJ q8, uS, sJ q9, uS, sJ q10, uS, sJ q11, uS, sR a99, sR a104, sR a109, sR a114, sR a119, sR a124] [(.long q5), (.long q4), (.long q3), (.long q2), (.long q1), (.long q0), (.ref a124), (.ref a119), (.ref a114), (.ref a109), (.ref a104), (.ref a99), (.int (0 : Int32)), (.int (0 : Int32))])) rfl (by rw [hml]; rfl) (argsL := [(.int (0 : Int32)), (.int (0 : Int32)), (.ref a99), (.ref a104), (.ref a109), (.ref a114), (.ref a119), (.ref a124), (.long q0), (.long q1), (.long q2), (.long q3), (.long q4), (.long q5)]) (rest := []) (lenOf pd_rmC0g rfl) rfl (by show 2 * 0 + _ ≤ _; exact Nat.le_of_eq rfl) (hb hby at_239) (fun _ _ => ⟨rfl, rfl, (by decide : 6 + 0 ≤ _), (by decide : 12 + 0 ≤ _)⟩)
    dsimp only [Pt.U, Pt.locs, Pt.cells, Pt.slots] at X130 l130 y130 z130 st130 hQ130
    replace l130 := l130.symm
    replace y130 := y130.symm
    replace z130 := z130.symm
    subst l130 y130 z130
    obtain ⟨rfl, N130, e130⟩ := hQ130
    refine OwnGo.pre (fun t k => st130 t k) ?_
    show OwnGo _ _ _ _ (T130.setTop (mkF m 242 #[sJ p0, uS, sJ p1, uS, sJ p2, uS, sJ p3, uS, sJ p4, uS, sJ p5, uS, sI (0 : Int32), sJ q0, uS, sJ q1, uS, sJ q2, uS, sJ q3, uS, sJ q4, uS, sJ q5, uS, sJ q6, uS, sJ q7, uS, sJ q8, uS, sJ q9, uS, sJ q10, uS, sJ q11, uS, sR a99, sR a104, sR a109, sR a114, sR a119, sR a124] [(.int (1 : Int32))]))
    have M130 := Fr.app M129 N130
    refine OwnGo.pre (fun t k => XS.ifNo X130.here hx rfl (hb hby at_242) rfl (by decide) (XS.iconst X130.here hx rfl (hb hby at_245) (XS.iload X130.here hx rfl (hb hby at_246) rfl (XS.aload X130.here hx rfl (hb hby at_248) rfl rfl (XS.aload X130.here hx rfl (hb hby at_250) rfl rfl (XS.aload X130.here hx rfl (hb hby at_252) rfl rfl (XS.aload X130.here hx rfl (hb hby at_254) rfl rfl (XS.aload X130.here hx rfl (hb hby at_256) rfl rfl k)))))))) ?_
    show OwnGo _ _ _ _ (T130.setTop (mkF m 258 #[sJ p0, uS, sJ p1, uS, sJ p2, uS, sJ p3, uS, sJ p4, uS, sJ p5, uS, sI (0 : Int32), sJ q0, uS, sJ q1, uS, sJ q2, uS, sJ q3, uS, sJ q4, uS, sJ q5, uS, sJ q6, uS, sJ q7, uS, sJ q8, uS, sJ q9, uS, sJ q10, uS, sJ q11, uS, sR a99, sR a104, sR a109, sR a114, sR a119, sR a124] [(.ref a119), (.ref a114), (.ref a109), (.ref a104), (.ref a99), (.int (0 : Int32)), (.int (1 : Int32))]))
    refine OwnGo.pre (fun t k => XS.aload X130.here hx rfl (hb hby at_258) rfl rfl (XT.lload X130.here hx rfl (hb hby at_260) rfl (XT.lload X130.here hx rfl (hb hby at_262) rfl (XT.lload X130.here hx rfl (hb hby at_264) rfl (XT.lload X130.here hx rfl (hb hby at_266) rfl (XT.lload X130.here hx rfl (hb hby at_268) rfl (XT.lload X130.here hx rfl (hb hby at_270) rfl k))))))) ?_
    show OwnGo _ _ _ _ (T130.setTop (mkF m 272 #[sJ p0, uS, sJ p1, uS, sJ p2, uS, sJ p3, uS, sJ p4, uS, sJ p5, uS, sI (0 : Int32), sJ q0, uS, sJ q1, uS, sJ q2, uS, sJ q3, uS, sJ q4, uS, sJ q5, uS, sJ q6, uS, sJ q7, uS, sJ q8, uS, sJ q9, uS, sJ q10, uS, sJ q11, uS, sR a99, sR a104, sR a109, sR a114, sR a119, sR a124] [(.long q11), (.long q10), (.long q9), (.long q8), (.long q7), (.long q6), (.ref a124), (.ref a119), (.ref a114), (.ref a109), (.ref a104), (.ref a99), (.int (0 : Int32)), (.int (1 : Int32))]))
    obtain ⟨_, _, ⟨T131, L131, k131, n131⟩, -, X131, ⟨Lc131, hQ131, l131, y131, z131⟩, st131⟩ := Jvm.LawKit.callS X130 hx (y := (⟨"com/example/isochron/isochron/dsp/RowButterfliesForwardPinLaw", "check", "(II[D[D[D[D[D[DJJJJJJ)Z"⟩ : MethodName)) hown (mvT hZ (hw _ (List.mem_of_getElem? (i := 13) rfl))) (mvT hZ (hw _ (List.mem_of_getElem? (i := 14) rfl))) (mvT hZ (hw _ (List.mem_of_getElem? (i := 3) rfl))) (mvT hZ (hw _ (List.mem_of_getElem? (i := 15) rfl))) (by decide) (backOf (W := 0) (rm := ({ frames := 0, cells := 0, slots := 0, locals := 0 } : Room)) (Q := Q_rmC1g Z (0 : Int32) a99 a104 a109 a114 a119 a124 d100 d102 d105 d107 d110 d112 d115 d117 d120 d122 d125 d127 q6 q7 q8 q9 q10 q11 j1006 j1007 j1008 j1009 j1010 j1011 T129.heap n0) (rmC1g l Z a0 hw [] (0 : Int32) a99 a104 a109 a114 a119 a124 d100 d102 d105 d107 d110 d112 d115 d117 d120 d122 d125 d127 q6 q7 q8 q9 q10 q11 j1006 j1007 j1008 j1009 j1010 j1011 T129.heap n0 Z129 AF0 AF1 AF2 AF3 AF4 AF5 D102 D107 D112 D117 D122 D127 F1006 bq6 F1007 bq7 F1008 bq8 F1009 bq9 F1010 bq10 F1011 bq11 (by decide)) hZ (hw _ (List.mem_of_getElem? (i := 15) rfl)) (hw _ (List.mem_of_getElem? (i := 3) rfl)) (by decide) (by decide)) (g := (mkF m 272 #[sJ p0, uS, sJ p1, uS, sJ p2, uS, sJ p3, uS, sJ p4, uS, sJ p5, uS, sI (0 : Int32), sJ q0, uS, sJ q1, uS, sJ q2, uS, sJ q3, uS, sJ q4, uS, sJ q5, uS, sJ q6, uS, sJ q7, uS, sJ q8, uS, sJ q9, uS, sJ q10, uS, sJ q11, uS, sR a99, sR a104, sR a109, sR a114, sR a119, sR a124] [(.long q11), (.long q10), (.long q9), (.long q8), (.long q7), (.long q6), (.ref a124), (.ref a119), (.ref a114), (.ref a109), (.ref a104), (.ref a99), (.int (0 : Int32)), (.int (1 : Int32))])) rfl (by rw [hml]; rfl) (argsL := [(.int (1 : Int32)), (.int (0 : Int32)), (.ref a99), (.ref a104), (.ref a109), (.ref a114), (.ref a119), (.ref a124), (.long q6), (.long q7), (.long q8), (.long q9), (.long q10), (.long q11)]) (rest := []) (lenOf pd_rmC1g rfl) rfl (by show 2 * 0 + _ ≤ _; exact Nat.le_of_eq rfl) (hb hby at_272) (fun _ _ => ⟨rfl, e130, (by decide : 6 + 0 ≤ _), (by decide : 12 + 0 ≤ _)⟩)
    dsimp only [Pt.U, Pt.locs, Pt.cells, Pt.slots] at X131 l131 y131 z131 st131 hQ131
    replace l131 := l131.symm
    replace y131 := y131.symm
    replace z131 := z131.symm
    subst l131 y131 z131
    obtain ⟨rfl, N131, e131⟩ := hQ131
    refine OwnGo.pre (fun t k => st131 t k) ?_
    show OwnGo _ _ _ _ (T131.setTop (mkF m 275 #[sJ p0, uS, sJ p1, uS, sJ p2, uS, sJ p3, uS, sJ p4, uS, sJ p5, uS, sI (0 : Int32), sJ q0, uS, sJ q1, uS, sJ q2, uS, sJ q3, uS, sJ q4, uS, sJ q5, uS, sJ q6, uS, sJ q7, uS, sJ q8, uS, sJ q9, uS, sJ q10, uS, sJ q11, uS, sR a99, sR a104, sR a109, sR a114, sR a119, sR a124] [(.int (1 : Int32))]))
    have M131 := Fr.app M130 N131
    refine OwnGo.pre (fun t k => XS.ifNo X131.here hx rfl (hb hby at_275) rfl (by decide) (XS.iconst X131.here hx rfl (hb hby at_278) (XS.goto X131.here hx rfl (pc0 := 279) (pc' := 283) rfl (hb hby at_279) (by decide) (by decide) k))) ?_
    show OwnGo _ _ _ _ (T131.setTop (mkF m 283 #[sJ p0, uS, sJ p1, uS, sJ p2, uS, sJ p3, uS, sJ p4, uS, sJ p5, uS, sI (0 : Int32), sJ q0, uS, sJ q1, uS, sJ q2, uS, sJ q3, uS, sJ q4, uS, sJ q5, uS, sJ q6, uS, sJ q7, uS, sJ q8, uS, sJ q9, uS, sJ q10, uS, sJ q11, uS, sR a99, sR a104, sR a109, sR a114, sR a119, sR a124] [(.int (1 : Int32))]))
    exact own_retZ X131 hx hk hrt (hb hby at_283) ⟨rfl, M131⟩ (by decide) (by decide)
  · skip
    show OwnGo _ _ _ _ (T128.setTop (mkF m 209 #[sJ p0, uS, sJ p1, uS, sJ p2, uS, sJ p3, uS, sJ p4, uS, sJ p5, uS, sI (1 : Int32), sJ q0, uS, sJ q1, uS, sJ q2, uS, sJ q3, uS, sJ q4, uS, sJ q5, uS, sJ q6, uS, sJ q7, uS, sJ q8, uS, sJ q9, uS, sJ q10, uS, sJ q11, uS, sR a99, sR a104, sR a109, sR a114, sR a119, sR a124] [(.int (1 : Int32)), (.ref a124), (.ref a119), (.ref a114), (.ref a109), (.ref a104), (.ref a99)]))
    obtain ⟨_, _, ⟨T132, L132, k132, n132⟩, -, X132, ⟨Lc132, hQ132, l132, y132, z132⟩, st132⟩ := Jvm.LawKit.callS X128 hx (y := (⟨"com/example/isochron/isochron/dsp/RowButterflies", "forward", "([D[D[D[D[D[DI)V"⟩ : MethodName)) hown (mvT hZ (hw _ (List.mem_of_getElem? (i := 9) rfl))) (mvT hZ (hw _ (List.mem_of_getElem? (i := 10) rfl))) (mvT hZ (hw _ (List.mem_of_getElem? (i := 11) rfl))) (mvT hZ (hw _ (List.mem_of_getElem? (i := 12) rfl))) (by decide) (backOf (W := 0) (rm := ({ frames := 0, cells := 0, slots := 0, locals := 0 } : Room)) (Q := Q_rmF1 Z a99 a104 a109 a114 a119 a124 d100 d102 d105 d107 d110 d112 d115 d117 d120 d122 d125 d127 j1000 j1006 j1001 j1007 j1002 j1008 j1003 j1009 j1004 j1010 j1005 j1011 h128 n0) (rmF1 l Z a0 hw [] a99 a104 a109 a114 a119 a124 d100 d102 d105 d107 d110 d112 d115 d117 d120 d122 d125 d127 j1000 j1006 j1001 j1007 j1002 j1008 j1003 j1009 j1004 j1010 j1005 j1011 h128 n0 Z128 A128_a99 A128_a104 A128_a109 A128_a114 A128_a119 A128n nea99_104 nea99_109 nea99_114 nea99_119 nea99_124 nea104_109 nea104_114 nea104_119 nea104_124 nea109_114 nea109_119 nea109_124 nea114_119 nea114_124 nea119_124 G99 G104 G109 G114 D100 bq0 D102 bq6 D105 bq1 D107 bq7 D110 bq2 D112 bq8 D115 bq3 D117 bq9 D120 bq4 D122 bq10 D125 bq5 D127 bq11) hZ (hw _ (List.mem_of_getElem? (i := 12) rfl)) (hw _ (List.mem_of_getElem? (i := 11) rfl)) (by decide) (by decide)) (g := (mkF m 209 #[sJ p0, uS, sJ p1, uS, sJ p2, uS, sJ p3, uS, sJ p4, uS, sJ p5, uS, sI (1 : Int32), sJ q0, uS, sJ q1, uS, sJ q2, uS, sJ q3, uS, sJ q4, uS, sJ q5, uS, sJ q6, uS, sJ q7, uS, sJ q8, uS, sJ q9, uS, sJ q10, uS, sJ q11, uS, sR a99, sR a104, sR a109, sR a114, sR a119, sR a124] [(.int (1 : Int32)), (.ref a124), (.ref a119), (.ref a114), (.ref a109), (.ref a104), (.ref a99)])) rfl (by rw [hml]; rfl) (argsL := [(.ref a99), (.ref a104), (.ref a109), (.ref a114), (.ref a119), (.ref a124), (.int (1 : Int32))]) (rest := []) (lenOf pd_rmF1 rfl) rfl (by show 2 * 0 + _ ≤ _; exact Nat.le_of_eq rfl) (hb hby at_209) (fun _ _ => ⟨rfl, e128, (by decide : 6 + 0 ≤ _), (by decide : 12 + 0 ≤ _)⟩)
    dsimp only [Pt.U, Pt.locs, Pt.cells, Pt.slots] at X132 l132 y132 z132 st132 hQ132
    replace l132 := l132.symm
    replace y132 := y132.symm
    replace z132 := z132.symm
    subst l132 y132 z132
    obtain ⟨r0_0, r1_0, r2_0, r3_0, rfl, Hr0_0, Hr1_0, Hr2_0, Hr3_0, AF0, AF1, AF2, AF3, AF4, AF5, N132, Z132⟩ := hQ132
    refine OwnGo.pre (fun t k => st132 t k) ?_
    show OwnGo _ _ _ _ (T132.setTop (mkF m 212 #[sJ p0, uS, sJ p1, uS, sJ p2, uS, sJ p3, uS, sJ p4, uS, sJ p5, uS, sI (1 : Int32), sJ q0, uS, sJ q1, uS, sJ q2, uS, sJ q3, uS, sJ q4, uS, sJ q5, uS, sJ q6, uS, sJ q7, uS, sJ q8, uS, sJ q9, uS, sJ q10, uS, sJ q11, uS, sR a99, sR a104, sR a109, sR a114, sR a119, sR a124] []))
    have M132 := Fr.app N128 N132
    refine OwnGo.pre (fun t k => XS.iconst X132.here hx rfl (hb hby at_212) (XS.iload X132.here hx rfl (hb hby at_213) rfl (XS.aload X132.here hx rfl (hb hby at_215) rfl rfl (XS.aload X132.here hx rfl (hb hby at_217) rfl rfl (XS.aload X132.here hx rfl (hb hby at_219) rfl rfl (XS.aload X132.here hx rfl (hb hby at_221) rfl rfl (XS.aload X132.here hx rfl (hb hby at_223) rfl rfl (XS.aload X132.here hx rfl (hb hby at_225) rfl rfl k)))))))) ?_
    show OwnGo _ _ _ _ (T132.setTop (mkF m 227 #[sJ p0, uS, sJ p1, uS, sJ p2, uS, sJ p3, uS, sJ p4, uS, sJ p5, uS, sI (1 : Int32), sJ q0, uS, sJ q1, uS, sJ q2, uS, sJ q3, uS, sJ q4, uS, sJ q5, uS, sJ q6, uS, sJ q7, uS, sJ q8, uS, sJ q9, uS, sJ q10, uS, sJ q11, uS, sR a99, sR a104, sR a109, sR a114, sR a119, sR a124] [(.ref a124), (.ref a119), (.ref a114), (.ref a109), (.ref a104), (.ref a99), (.int (1 : Int32)), (.int (0 : Int32))]))
    refine OwnGo.pre (fun t k => XT.lload X132.here hx rfl (hb hby at_227) rfl (XT.lload X132.here hx rfl (hb hby at_229) rfl (XT.lload X132.here hx rfl (hb hby at_231) rfl (XT.lload X132.here hx rfl (hb hby at_233) rfl (XT.lload X132.here hx rfl (hb hby at_235) rfl (XT.lload X132.here hx rfl (hb hby at_237) rfl k)))))) ?_
    show OwnGo _ _ _ _ (T132.setTop (mkF m 239 #[sJ p0, uS, sJ p1, uS, sJ p2, uS, sJ p3, uS, sJ p4, uS, sJ p5, uS, sI (1 : Int32), sJ q0, uS, sJ q1, uS, sJ q2, uS, sJ q3, uS, sJ q4, uS, sJ q5, uS, sJ q6, uS, sJ q7, uS, sJ q8, uS, sJ q9, uS, sJ q10, uS, sJ q11, uS, sR a99, sR a104, sR a109, sR a114, sR a119, sR a124] [(.long q5), (.long q4), (.long q3), (.long q2), (.long q1), (.long q0), (.ref a124), (.ref a119), (.ref a114), (.ref a109), (.ref a104), (.ref a99), (.int (1 : Int32)), (.int (0 : Int32))]))
    obtain ⟨_, _, ⟨T133, L133, k133, n133⟩, -, X133, ⟨Lc133, hQ133, l133, y133, z133⟩, st133⟩ := Jvm.LawKit.callS X132 hx (y := (⟨"com/example/isochron/isochron/dsp/RowButterfliesForwardPinLaw", "check", "(II[D[D[D[D[D[DJJJJJJ)Z"⟩ : MethodName)) hown (mvT hZ (hw _ (List.mem_of_getElem? (i := 13) rfl))) (mvT hZ (hw _ (List.mem_of_getElem? (i := 14) rfl))) (mvT hZ (hw _ (List.mem_of_getElem? (i := 3) rfl))) (mvT hZ (hw _ (List.mem_of_getElem? (i := 15) rfl))) (by decide) (backOf (W := 0) (rm := ({ frames := 0, cells := 0, slots := 0, locals := 0 } : Room)) (Q := Q_rmC0l Z (1 : Int32) a99 a104 a109 a114 a119 a124 r0_0 d102 r1_0 d107 r2_0 d112 r3_0 d117 d120 d122 d125 d127 q0 q1 q2 q3 q4 q5 j1000 j1001 j1002 j1003 j1004 j1005 T132.heap n0) (rmC0l l Z a0 hw [] (1 : Int32) a99 a104 a109 a114 a119 a124 r0_0 d102 r1_0 d107 r2_0 d112 r3_0 d117 d120 d122 d125 d127 q0 q1 q2 q3 q4 q5 j1000 j1001 j1002 j1003 j1004 j1005 T132.heap n0 Z132 AF0 AF1 AF2 AF3 AF4 AF5 Hr0_0 Hr1_0 Hr2_0 Hr3_0 D120 D125 F1000 bq0 F1001 bq1 F1002 bq2 F1003 bq3 F1004 bq4 F1005 bq5 (by decide)) hZ (hw _ (List.mem_of_getElem? (i := 15) rfl)) (hw _ (List.mem_of_getElem? (i := 3) rfl)) (by decide) (by decide)) (g := (mkF m 239 #[sJ p0, uS, sJ p1, uS, sJ p2, uS, sJ p3, uS, sJ p4, uS, sJ p5, uS, sI (1 : Int32), sJ q0, uS, sJ q1, uS, sJ q2, uS, sJ q3, uS, sJ q4, uS, sJ q5, uS, sJ q6, uS, sJ q7, uS, sJ q8, uS, sJ q9, uS, sJ q10, uS, sJ q11, uS, sR a99, sR a104, sR a109, sR a114, sR a119, sR a124] [(.long q5), (.long q4), (.long q3), (.long q2), (.long q1), (.long q0), (.ref a124), (.ref a119), (.ref a114), (.ref a109), (.ref a104), (.ref a99), (.int (1 : Int32)), (.int (0 : Int32))])) rfl (by rw [hml]; rfl) (argsL := [(.int (0 : Int32)), (.int (1 : Int32)), (.ref a99), (.ref a104), (.ref a109), (.ref a114), (.ref a119), (.ref a124), (.long q0), (.long q1), (.long q2), (.long q3), (.long q4), (.long q5)]) (rest := []) (lenOf pd_rmC0l rfl) rfl (by show 2 * 0 + _ ≤ _; exact Nat.le_of_eq rfl) (hb hby at_239) (fun _ _ => ⟨rfl, rfl, (by decide : 6 + 0 ≤ _), (by decide : 12 + 0 ≤ _)⟩)
    dsimp only [Pt.U, Pt.locs, Pt.cells, Pt.slots] at X133 l133 y133 z133 st133 hQ133
    replace l133 := l133.symm
    replace y133 := y133.symm
    replace z133 := z133.symm
    subst l133 y133 z133
    obtain ⟨rfl, N133, e133⟩ := hQ133
    refine OwnGo.pre (fun t k => st133 t k) ?_
    show OwnGo _ _ _ _ (T133.setTop (mkF m 242 #[sJ p0, uS, sJ p1, uS, sJ p2, uS, sJ p3, uS, sJ p4, uS, sJ p5, uS, sI (1 : Int32), sJ q0, uS, sJ q1, uS, sJ q2, uS, sJ q3, uS, sJ q4, uS, sJ q5, uS, sJ q6, uS, sJ q7, uS, sJ q8, uS, sJ q9, uS, sJ q10, uS, sJ q11, uS, sR a99, sR a104, sR a109, sR a114, sR a119, sR a124] [(.int (1 : Int32))]))
    have M133 := Fr.app M132 N133
    refine OwnGo.pre (fun t k => XS.ifNo X133.here hx rfl (hb hby at_242) rfl (by decide) (XS.iconst X133.here hx rfl (hb hby at_245) (XS.iload X133.here hx rfl (hb hby at_246) rfl (XS.aload X133.here hx rfl (hb hby at_248) rfl rfl (XS.aload X133.here hx rfl (hb hby at_250) rfl rfl (XS.aload X133.here hx rfl (hb hby at_252) rfl rfl (XS.aload X133.here hx rfl (hb hby at_254) rfl rfl (XS.aload X133.here hx rfl (hb hby at_256) rfl rfl k)))))))) ?_
    show OwnGo _ _ _ _ (T133.setTop (mkF m 258 #[sJ p0, uS, sJ p1, uS, sJ p2, uS, sJ p3, uS, sJ p4, uS, sJ p5, uS, sI (1 : Int32), sJ q0, uS, sJ q1, uS, sJ q2, uS, sJ q3, uS, sJ q4, uS, sJ q5, uS, sJ q6, uS, sJ q7, uS, sJ q8, uS, sJ q9, uS, sJ q10, uS, sJ q11, uS, sR a99, sR a104, sR a109, sR a114, sR a119, sR a124] [(.ref a119), (.ref a114), (.ref a109), (.ref a104), (.ref a99), (.int (1 : Int32)), (.int (1 : Int32))]))
    refine OwnGo.pre (fun t k => XS.aload X133.here hx rfl (hb hby at_258) rfl rfl (XT.lload X133.here hx rfl (hb hby at_260) rfl (XT.lload X133.here hx rfl (hb hby at_262) rfl (XT.lload X133.here hx rfl (hb hby at_264) rfl (XT.lload X133.here hx rfl (hb hby at_266) rfl (XT.lload X133.here hx rfl (hb hby at_268) rfl (XT.lload X133.here hx rfl (hb hby at_270) rfl k))))))) ?_
    show OwnGo _ _ _ _ (T133.setTop (mkF m 272 #[sJ p0, uS, sJ p1, uS, sJ p2, uS, sJ p3, uS, sJ p4, uS, sJ p5, uS, sI (1 : Int32), sJ q0, uS, sJ q1, uS, sJ q2, uS, sJ q3, uS, sJ q4, uS, sJ q5, uS, sJ q6, uS, sJ q7, uS, sJ q8, uS, sJ q9, uS, sJ q10, uS, sJ q11, uS, sR a99, sR a104, sR a109, sR a114, sR a119, sR a124] [(.long q11), (.long q10), (.long q9), (.long q8), (.long q7), (.long q6), (.ref a124), (.ref a119), (.ref a114), (.ref a109), (.ref a104), (.ref a99), (.int (1 : Int32)), (.int (1 : Int32))]))
    obtain ⟨_, _, ⟨T134, L134, k134, n134⟩, -, X134, ⟨Lc134, hQ134, l134, y134, z134⟩, st134⟩ := Jvm.LawKit.callS X133 hx (y := (⟨"com/example/isochron/isochron/dsp/RowButterfliesForwardPinLaw", "check", "(II[D[D[D[D[D[DJJJJJJ)Z"⟩ : MethodName)) hown (mvT hZ (hw _ (List.mem_of_getElem? (i := 13) rfl))) (mvT hZ (hw _ (List.mem_of_getElem? (i := 14) rfl))) (mvT hZ (hw _ (List.mem_of_getElem? (i := 3) rfl))) (mvT hZ (hw _ (List.mem_of_getElem? (i := 15) rfl))) (by decide) (backOf (W := 0) (rm := ({ frames := 0, cells := 0, slots := 0, locals := 0 } : Room)) (Q := Q_rmC1g Z (1 : Int32) a99 a104 a109 a114 a119 a124 r0_0 d102 r1_0 d107 r2_0 d112 r3_0 d117 d120 d122 d125 d127 q6 q7 q8 q9 q10 q11 j1006 j1007 j1008 j1009 j1010 j1011 T132.heap n0) (rmC1g l Z a0 hw [] (1 : Int32) a99 a104 a109 a114 a119 a124 r0_0 d102 r1_0 d107 r2_0 d112 r3_0 d117 d120 d122 d125 d127 q6 q7 q8 q9 q10 q11 j1006 j1007 j1008 j1009 j1010 j1011 T132.heap n0 Z132 AF0 AF1 AF2 AF3 AF4 AF5 D102 D107 D112 D117 D122 D127 F1006 bq6 F1007 bq7 F1008 bq8 F1009 bq9 F1010 bq10 F1011 bq11 (by decide)) hZ (hw _ (List.mem_of_getElem? (i := 15) rfl)) (hw _ (List.mem_of_getElem? (i := 3) rfl)) (by decide) (by decide)) (g := (mkF m 272 #[sJ p0, uS, sJ p1, uS, sJ p2, uS, sJ p3, uS, sJ p4, uS, sJ p5, uS, sI (1 : Int32), sJ q0, uS, sJ q1, uS, sJ q2, uS, sJ q3, uS, sJ q4, uS, sJ q5, uS, sJ q6, uS, sJ q7, uS, sJ q8, uS, sJ q9, uS, sJ q10, uS, sJ q11, uS, sR a99, sR a104, sR a109, sR a114, sR a119, sR a124] [(.long q11), (.long q10), (.long q9), (.long q8), (.long q7), (.long q6), (.ref a124), (.ref a119), (.ref a114), (.ref a109), (.ref a104), (.ref a99), (.int (1 : Int32)), (.int (1 : Int32))])) rfl (by rw [hml]; rfl) (argsL := [(.int (1 : Int32)), (.int (1 : Int32)), (.ref a99), (.ref a104), (.ref a109), (.ref a114), (.ref a119), (.ref a124), (.long q6), (.long q7), (.long q8), (.long q9), (.long q10), (.long q11)]) (rest := []) (lenOf pd_rmC1g rfl) rfl (by show 2 * 0 + _ ≤ _; exact Nat.le_of_eq rfl) (hb hby at_272) (fun _ _ => ⟨rfl, e133, (by decide : 6 + 0 ≤ _), (by decide : 12 + 0 ≤ _)⟩)
    dsimp only [Pt.U, Pt.locs, Pt.cells, Pt.slots] at X134 l134 y134 z134 st134 hQ134
    replace l134 := l134.symm
    replace y134 := y134.symm
    replace z134 := z134.symm
    subst l134 y134 z134
    obtain ⟨rfl, N134, e134⟩ := hQ134
    refine OwnGo.pre (fun t k => st134 t k) ?_
    show OwnGo _ _ _ _ (T134.setTop (mkF m 275 #[sJ p0, uS, sJ p1, uS, sJ p2, uS, sJ p3, uS, sJ p4, uS, sJ p5, uS, sI (1 : Int32), sJ q0, uS, sJ q1, uS, sJ q2, uS, sJ q3, uS, sJ q4, uS, sJ q5, uS, sJ q6, uS, sJ q7, uS, sJ q8, uS, sJ q9, uS, sJ q10, uS, sJ q11, uS, sR a99, sR a104, sR a109, sR a114, sR a119, sR a124] [(.int (1 : Int32))]))
    have M134 := Fr.app M133 N134
    refine OwnGo.pre (fun t k => XS.ifNo X134.here hx rfl (hb hby at_275) rfl (by decide) (XS.iconst X134.here hx rfl (hb hby at_278) (XS.goto X134.here hx rfl (pc0 := 279) (pc' := 283) rfl (hb hby at_279) (by decide) (by decide) k))) ?_
    show OwnGo _ _ _ _ (T134.setTop (mkF m 283 #[sJ p0, uS, sJ p1, uS, sJ p2, uS, sJ p3, uS, sJ p4, uS, sJ p5, uS, sI (1 : Int32), sJ q0, uS, sJ q1, uS, sJ q2, uS, sJ q3, uS, sJ q4, uS, sJ q5, uS, sJ q6, uS, sJ q7, uS, sJ q8, uS, sJ q9, uS, sJ q10, uS, sJ q11, uS, sR a99, sR a104, sR a109, sR a114, sR a119, sR a124] [(.int (1 : Int32))]))
    exact own_retZ X134 hx hk hrt (hb hby at_283) ⟨rfl, M134⟩ (by decide) (by decide)
  · skip
    show OwnGo _ _ _ _ (T128.setTop (mkF m 209 #[sJ p0, uS, sJ p1, uS, sJ p2, uS, sJ p3, uS, sJ p4, uS, sJ p5, uS, sI (2 : Int32), sJ q0, uS, sJ q1, uS, sJ q2, uS, sJ q3, uS, sJ q4, uS, sJ q5, uS, sJ q6, uS, sJ q7, uS, sJ q8, uS, sJ q9, uS, sJ q10, uS, sJ q11, uS, sR a99, sR a104, sR a109, sR a114, sR a119, sR a124] [(.int (2 : Int32)), (.ref a124), (.ref a119), (.ref a114), (.ref a109), (.ref a104), (.ref a99)]))
    obtain ⟨_, _, ⟨T135, L135, k135, n135⟩, -, X135, ⟨Lc135, hQ135, l135, y135, z135⟩, st135⟩ := Jvm.LawKit.callS X128 hx (y := (⟨"com/example/isochron/isochron/dsp/RowButterflies", "forward", "([D[D[D[D[D[DI)V"⟩ : MethodName)) hown (mvT hZ (hw _ (List.mem_of_getElem? (i := 9) rfl))) (mvT hZ (hw _ (List.mem_of_getElem? (i := 10) rfl))) (mvT hZ (hw _ (List.mem_of_getElem? (i := 11) rfl))) (mvT hZ (hw _ (List.mem_of_getElem? (i := 12) rfl))) (by decide) (backOf (W := 0) (rm := ({ frames := 0, cells := 0, slots := 0, locals := 0 } : Room)) (Q := Q_rmF2 Z a99 a104 a109 a114 a119 a124 d100 d102 d105 d107 d110 d112 d115 d117 d120 d122 d125 d127 j1000 j1006 j1001 j1007 j1002 j1008 j1003 j1009 j1004 j1010 j1005 j1011 h128 n0) (rmF2 l Z a0 hw [] a99 a104 a109 a114 a119 a124 d100 d102 d105 d107 d110 d112 d115 d117 d120 d122 d125 d127 j1000 j1006 j1001 j1007 j1002 j1008 j1003 j1009 j1004 j1010 j1005 j1011 h128 n0 Z128 A128_a99 A128_a104 A128_a109 A128_a114 A128_a119 A128n nea99_104 nea99_109 nea99_114 nea99_119 nea99_124 nea104_109 nea104_114 nea104_119 nea104_124 nea109_114 nea109_119 nea109_124 nea114_119 nea114_124 nea119_124 G99 G104 G109 G114 D100 bq0 D102 bq6 D105 bq1 D107 bq7 D110 bq2 D112 bq8 D115 bq3 D117 bq9 D120 bq4 D122 bq10 D125 bq5 D127 bq11) hZ (hw _ (List.mem_of_getElem? (i := 12) rfl)) (hw _ (List.mem_of_getElem? (i := 11) rfl)) (by decide) (by decide)) (g := (mkF m 209 #[sJ p0, uS, sJ p1, uS, sJ p2, uS, sJ p3, uS, sJ p4, uS, sJ p5, uS, sI (2 : Int32), sJ q0, uS, sJ q1, uS, sJ q2, uS, sJ q3, uS, sJ q4, uS, sJ q5, uS, sJ q6, uS, sJ q7, uS, sJ q8, uS, sJ q9, uS, sJ q10, uS, sJ q11, uS, sR a99, sR a104, sR a109, sR a114, sR a119, sR a124] [(.int (2 : Int32)), (.ref a124), (.ref a119), (.ref a114), (.ref a109), (.ref a104), (.ref a99)])) rfl (by rw [hml]; rfl) (argsL := [(.ref a99), (.ref a104), (.ref a109), (.ref a114), (.ref a119), (.ref a124), (.int (2 : Int32))]) (rest := []) (lenOf pd_rmF2 rfl) rfl (by show 2 * 0 + _ ≤ _; exact Nat.le_of_eq rfl) (hb hby at_209) (fun _ _ => ⟨rfl, e128, (by decide : 6 + 0 ≤ _), (by decide : 12 + 0 ≤ _)⟩)
    dsimp only [Pt.U, Pt.locs, Pt.cells, Pt.slots] at X135 l135 y135 z135 st135 hQ135
    replace l135 := l135.symm
    replace y135 := y135.symm
    replace z135 := z135.symm
    subst l135 y135 z135
    obtain ⟨r0_0, r1_0, r2_0, r3_0, r0_1, r1_1, r2_1, r3_1, rfl, Hr0_0, Hr1_0, Hr2_0, Hr3_0, Hr0_1, Hr1_1, Hr2_1, Hr3_1, AF0, AF1, AF2, AF3, AF4, AF5, N135, Z135⟩ := hQ135
    refine OwnGo.pre (fun t k => st135 t k) ?_
    show OwnGo _ _ _ _ (T135.setTop (mkF m 212 #[sJ p0, uS, sJ p1, uS, sJ p2, uS, sJ p3, uS, sJ p4, uS, sJ p5, uS, sI (2 : Int32), sJ q0, uS, sJ q1, uS, sJ q2, uS, sJ q3, uS, sJ q4, uS, sJ q5, uS, sJ q6, uS, sJ q7, uS, sJ q8, uS, sJ q9, uS, sJ q10, uS, sJ q11, uS, sR a99, sR a104, sR a109, sR a114, sR a119, sR a124] []))
    have M135 := Fr.app N128 N135
    refine OwnGo.pre (fun t k => XS.iconst X135.here hx rfl (hb hby at_212) (XS.iload X135.here hx rfl (hb hby at_213) rfl (XS.aload X135.here hx rfl (hb hby at_215) rfl rfl (XS.aload X135.here hx rfl (hb hby at_217) rfl rfl (XS.aload X135.here hx rfl (hb hby at_219) rfl rfl (XS.aload X135.here hx rfl (hb hby at_221) rfl rfl (XS.aload X135.here hx rfl (hb hby at_223) rfl rfl (XS.aload X135.here hx rfl (hb hby at_225) rfl rfl k)))))))) ?_
    show OwnGo _ _ _ _ (T135.setTop (mkF m 227 #[sJ p0, uS, sJ p1, uS, sJ p2, uS, sJ p3, uS, sJ p4, uS, sJ p5, uS, sI (2 : Int32), sJ q0, uS, sJ q1, uS, sJ q2, uS, sJ q3, uS, sJ q4, uS, sJ q5, uS, sJ q6, uS, sJ q7, uS, sJ q8, uS, sJ q9, uS, sJ q10, uS, sJ q11, uS, sR a99, sR a104, sR a109, sR a114, sR a119, sR a124] [(.ref a124), (.ref a119), (.ref a114), (.ref a109), (.ref a104), (.ref a99), (.int (2 : Int32)), (.int (0 : Int32))]))
    refine OwnGo.pre (fun t k => XT.lload X135.here hx rfl (hb hby at_227) rfl (XT.lload X135.here hx rfl (hb hby at_229) rfl (XT.lload X135.here hx rfl (hb hby at_231) rfl (XT.lload X135.here hx rfl (hb hby at_233) rfl (XT.lload X135.here hx rfl (hb hby at_235) rfl (XT.lload X135.here hx rfl (hb hby at_237) rfl k)))))) ?_
    show OwnGo _ _ _ _ (T135.setTop (mkF m 239 #[sJ p0, uS, sJ p1, uS, sJ p2, uS, sJ p3, uS, sJ p4, uS, sJ p5, uS, sI (2 : Int32), sJ q0, uS, sJ q1, uS, sJ q2, uS, sJ q3, uS, sJ q4, uS, sJ q5, uS, sJ q6, uS, sJ q7, uS, sJ q8, uS, sJ q9, uS, sJ q10, uS, sJ q11, uS, sR a99, sR a104, sR a109, sR a114, sR a119, sR a124] [(.long q5), (.long q4), (.long q3), (.long q2), (.long q1), (.long q0), (.ref a124), (.ref a119), (.ref a114), (.ref a109), (.ref a104), (.ref a99), (.int (2 : Int32)), (.int (0 : Int32))]))
    obtain ⟨_, _, ⟨T136, L136, k136, n136⟩, -, X136, ⟨Lc136, hQ136, l136, y136, z136⟩, st136⟩ := Jvm.LawKit.callS X135 hx (y := (⟨"com/example/isochron/isochron/dsp/RowButterfliesForwardPinLaw", "check", "(II[D[D[D[D[D[DJJJJJJ)Z"⟩ : MethodName)) hown (mvT hZ (hw _ (List.mem_of_getElem? (i := 13) rfl))) (mvT hZ (hw _ (List.mem_of_getElem? (i := 14) rfl))) (mvT hZ (hw _ (List.mem_of_getElem? (i := 3) rfl))) (mvT hZ (hw _ (List.mem_of_getElem? (i := 15) rfl))) (by decide) (backOf (W := 0) (rm := ({ frames := 0, cells := 0, slots := 0, locals := 0 } : Room)) (Q := Q_rmC0l Z (2 : Int32) a99 a104 a109 a114 a119 a124 r0_0 r0_1 r1_0 r1_1 r2_0 r2_1 r3_0 r3_1 d120 d122 d125 d127 q0 q1 q2 q3 q4 q5 j1000 j1001 j1002 j1003 j1004 j1005 T135.heap n0) (rmC0l l Z a0 hw [] (2 : Int32) a99 a104 a109 a114 a119 a124 r0_0 r0_1 r1_0 r1_1 r2_0 r2_1 r3_0 r3_1 d120 d122 d125 d127 q0 q1 q2 q3 q4 q5 j1000 j1001 j1002 j1003 j1004 j1005 T135.heap n0 Z135 AF0 AF1 AF2 AF3 AF4 AF5 Hr0_0 Hr1_0 Hr2_0 Hr3_0 D120 D125 F1000 bq0 F1001 bq1 F1002 bq2 F1003 bq3 F1004 bq4 F1005 bq5 (by decide)) hZ (hw _ (List.mem_of_getElem? (i := 15) rfl)) (hw _ (List.mem_of_getElem? (i := 3) rfl)) (by decide) (by decide)) (g := (mkF m 239 #[sJ p0, uS, sJ p1, uS, sJ p2, uS, sJ p3, uS, sJ p4, uS, sJ p5, uS, sI (2 : Int32), sJ q0, uS, sJ q1, uS, sJ q2, uS, sJ q3, uS, sJ q4, uS, sJ q5, uS, sJ q6, uS, sJ q7, uS, sJ q8, uS, sJ q9, uS, sJ q10, uS, sJ q11, uS, sR a99, sR a104, sR a109, sR a114, sR a119, sR a124] [(.long q5), (.long q4), (.long q3), (.long q2), (.long q1), (.long q0), (.ref a124), (.ref a119), (.ref a114), (.ref a109), (.ref a104), (.ref a99), (.int (2 : Int32)), (.int (0 : Int32))])) rfl (by rw [hml]; rfl) (argsL := [(.int (0 : Int32)), (.int (2 : Int32)), (.ref a99), (.ref a104), (.ref a109), (.ref a114), (.ref a119), (.ref a124), (.long q0), (.long q1), (.long q2), (.long q3), (.long q4), (.long q5)]) (rest := []) (lenOf pd_rmC0l rfl) rfl (by show 2 * 0 + _ ≤ _; exact Nat.le_of_eq rfl) (hb hby at_239) (fun _ _ => ⟨rfl, rfl, (by decide : 6 + 0 ≤ _), (by decide : 12 + 0 ≤ _)⟩)
    dsimp only [Pt.U, Pt.locs, Pt.cells, Pt.slots] at X136 l136 y136 z136 st136 hQ136
    replace l136 := l136.symm
    replace y136 := y136.symm
    replace z136 := z136.symm
    subst l136 y136 z136
    obtain ⟨rfl, N136, e136⟩ := hQ136
    refine OwnGo.pre (fun t k => st136 t k) ?_
    show OwnGo _ _ _ _ (T136.setTop (mkF m 242 #[sJ p0, uS, sJ p1, uS, sJ p2, uS, sJ p3, uS, sJ p4, uS, sJ p5, uS, sI (2 : Int32), sJ q0, uS, sJ q1, uS, sJ q2, uS, sJ q3, uS, sJ q4, uS, sJ q5, uS, sJ q6, uS, sJ q7, uS, sJ q8, uS, sJ q9, uS, sJ q10, uS, sJ q11, uS, sR a99, sR a104, sR a109, sR a114, sR a119, sR a124] [(.int (1 : Int32))]))
    have M136 := Fr.app M135 N136
    refine OwnGo.pre (fun t k => XS.ifNo X136.here hx rfl (hb hby at_242) rfl (by decide) (XS.iconst X136.here hx rfl (hb hby at_245) (XS.iload X136.here hx rfl (hb hby at_246) rfl (XS.aload X136.here hx rfl (hb hby at_248) rfl rfl (XS.aload X136.here hx rfl (hb hby at_250) rfl rfl (XS.aload X136.here hx rfl (hb hby at_252) rfl rfl (XS.aload X136.here hx rfl (hb hby at_254) rfl rfl (XS.aload X136.here hx rfl (hb hby at_256) rfl rfl k)))))))) ?_
    show OwnGo _ _ _ _ (T136.setTop (mkF m 258 #[sJ p0, uS, sJ p1, uS, sJ p2, uS, sJ p3, uS, sJ p4, uS, sJ p5, uS, sI (2 : Int32), sJ q0, uS, sJ q1, uS, sJ q2, uS, sJ q3, uS, sJ q4, uS, sJ q5, uS, sJ q6, uS, sJ q7, uS, sJ q8, uS, sJ q9, uS, sJ q10, uS, sJ q11, uS, sR a99, sR a104, sR a109, sR a114, sR a119, sR a124] [(.ref a119), (.ref a114), (.ref a109), (.ref a104), (.ref a99), (.int (2 : Int32)), (.int (1 : Int32))]))
    refine OwnGo.pre (fun t k => XS.aload X136.here hx rfl (hb hby at_258) rfl rfl (XT.lload X136.here hx rfl (hb hby at_260) rfl (XT.lload X136.here hx rfl (hb hby at_262) rfl (XT.lload X136.here hx rfl (hb hby at_264) rfl (XT.lload X136.here hx rfl (hb hby at_266) rfl (XT.lload X136.here hx rfl (hb hby at_268) rfl (XT.lload X136.here hx rfl (hb hby at_270) rfl k))))))) ?_
    show OwnGo _ _ _ _ (T136.setTop (mkF m 272 #[sJ p0, uS, sJ p1, uS, sJ p2, uS, sJ p3, uS, sJ p4, uS, sJ p5, uS, sI (2 : Int32), sJ q0, uS, sJ q1, uS, sJ q2, uS, sJ q3, uS, sJ q4, uS, sJ q5, uS, sJ q6, uS, sJ q7, uS, sJ q8, uS, sJ q9, uS, sJ q10, uS, sJ q11, uS, sR a99, sR a104, sR a109, sR a114, sR a119, sR a124] [(.long q11), (.long q10), (.long q9), (.long q8), (.long q7), (.long q6), (.ref a124), (.ref a119), (.ref a114), (.ref a109), (.ref a104), (.ref a99), (.int (2 : Int32)), (.int (1 : Int32))]))
    obtain ⟨_, _, ⟨T137, L137, k137, n137⟩, -, X137, ⟨Lc137, hQ137, l137, y137, z137⟩, st137⟩ := Jvm.LawKit.callS X136 hx (y := (⟨"com/example/isochron/isochron/dsp/RowButterfliesForwardPinLaw", "check", "(II[D[D[D[D[D[DJJJJJJ)Z"⟩ : MethodName)) hown (mvT hZ (hw _ (List.mem_of_getElem? (i := 13) rfl))) (mvT hZ (hw _ (List.mem_of_getElem? (i := 14) rfl))) (mvT hZ (hw _ (List.mem_of_getElem? (i := 3) rfl))) (mvT hZ (hw _ (List.mem_of_getElem? (i := 15) rfl))) (by decide) (backOf (W := 0) (rm := ({ frames := 0, cells := 0, slots := 0, locals := 0 } : Room)) (Q := Q_rmC1l Z (2 : Int32) a99 a104 a109 a114 a119 a124 r0_0 r0_1 r1_0 r1_1 r2_0 r2_1 r3_0 r3_1 d120 d122 d125 d127 q6 q7 q8 q9 q10 q11 j1006 j1007 j1008 j1009 j1010 j1011 T135.heap n0) (rmC1l l Z a0 hw [] (2 : Int32) a99 a104 a109 a114 a119 a124 r0_0 r0_1 r1_0 r1_1 r2_0 r2_1 r3_0 r3_1 d120 d122 d125 d127 q6 q7 q8 q9 q10 q11 j1006 j1007 j1008 j1009 j1010 j1011 T135.heap n0 Z135 AF0 AF1 AF2 AF3 AF4 AF5 Hr0_1 Hr1_1 Hr2_1 Hr3_1 D122 D127 F1006 bq6 F1007 bq7 F1008 bq8 F1009 bq9 F1010 bq10 F1011 bq11 (by decide)) hZ (hw _ (List.mem_of_getElem? (i := 15) rfl)) (hw _ (List.mem_of_getElem? (i := 3) rfl)) (by decide) (by decide)) (g := (mkF m 272 #[sJ p0, uS, sJ p1, uS, sJ p2, uS, sJ p3, uS, sJ p4, uS, sJ p5, uS, sI (2 : Int32), sJ q0, uS, sJ q1, uS, sJ q2, uS, sJ q3, uS, sJ q4, uS, sJ q5, uS, sJ q6, uS, sJ q7, uS, sJ q8, uS, sJ q9, uS, sJ q10, uS, sJ q11, uS, sR a99, sR a104, sR a109, sR a114, sR a119, sR a124] [(.long q11), (.long q10), (.long q9), (.long q8), (.long q7), (.long q6), (.ref a124), (.ref a119), (.ref a114), (.ref a109), (.ref a104), (.ref a99), (.int (2 : Int32)), (.int (1 : Int32))])) rfl (by rw [hml]; rfl) (argsL := [(.int (1 : Int32)), (.int (2 : Int32)), (.ref a99), (.ref a104), (.ref a109), (.ref a114), (.ref a119), (.ref a124), (.long q6), (.long q7), (.long q8), (.long q9), (.long q10), (.long q11)]) (rest := []) (lenOf pd_rmC1l rfl) rfl (by show 2 * 0 + _ ≤ _; exact Nat.le_of_eq rfl) (hb hby at_272) (fun _ _ => ⟨rfl, e136, (by decide : 6 + 0 ≤ _), (by decide : 12 + 0 ≤ _)⟩)
    dsimp only [Pt.U, Pt.locs, Pt.cells, Pt.slots] at X137 l137 y137 z137 st137 hQ137
    replace l137 := l137.symm
    replace y137 := y137.symm
    replace z137 := z137.symm
    subst l137 y137 z137
    obtain ⟨rfl, N137, e137⟩ := hQ137
    refine OwnGo.pre (fun t k => st137 t k) ?_
    show OwnGo _ _ _ _ (T137.setTop (mkF m 275 #[sJ p0, uS, sJ p1, uS, sJ p2, uS, sJ p3, uS, sJ p4, uS, sJ p5, uS, sI (2 : Int32), sJ q0, uS, sJ q1, uS, sJ q2, uS, sJ q3, uS, sJ q4, uS, sJ q5, uS, sJ q6, uS, sJ q7, uS, sJ q8, uS, sJ q9, uS, sJ q10, uS, sJ q11, uS, sR a99, sR a104, sR a109, sR a114, sR a119, sR a124] [(.int (1 : Int32))]))
    have M137 := Fr.app M136 N137
    refine OwnGo.pre (fun t k => XS.ifNo X137.here hx rfl (hb hby at_275) rfl (by decide) (XS.iconst X137.here hx rfl (hb hby at_278) (XS.goto X137.here hx rfl (pc0 := 279) (pc' := 283) rfl (hb hby at_279) (by decide) (by decide) k))) ?_
    show OwnGo _ _ _ _ (T137.setTop (mkF m 283 #[sJ p0, uS, sJ p1, uS, sJ p2, uS, sJ p3, uS, sJ p4, uS, sJ p5, uS, sI (2 : Int32), sJ q0, uS, sJ q1, uS, sJ q2, uS, sJ q3, uS, sJ q4, uS, sJ q5, uS, sJ q6, uS, sJ q7, uS, sJ q8, uS, sJ q9, uS, sJ q10, uS, sJ q11, uS, sR a99, sR a104, sR a109, sR a114, sR a119, sR a124] [(.int (1 : Int32))]))
    exact own_retZ X137 hx hk hrt (hb hby at_283) ⟨rfl, M137⟩ (by decide) (by decide)
set_option maxRecDepth 65536 in
set_option maxHeartbeats 40000000 in
theorem comes_1 {Post : Tables → Env → Array Value → State → Outcome → State → Prop} (hpost : ∀ tb e args s v u, (limb_1_1.after args s (.returned v) u = true ∧ limb_1_2.after args s (.returned v) u = true ∧ True) → FrameEnd s (.returned v) u (Jvm.fieldLocs frame_1_writes args s ++ Jvm.arrayLocs frame_1_arrays args s ++ Jvm.staticLocs frame_1_statics s) 24 128 → Post tb e args s (.returned v) u) :
    ArmFor flags0 classFile x code maxLocals ret World_1 tables_1 room_1 Calls_1 rest_1 Pre_1 Post := by
  intro l hfl _ _ p e ha hc hk s m args below hf hA hF happ hP
  obtain ⟨hcalls, hrest, hpre⟩ := hP
  obtain ⟨-, -, -, hnamed, -, -, -, hat⟩ := (Spec.applies_iff hf).mp happ
  obtain ⟨hg, hn⟩ := and_e (Cond.before_iff.mp (show (Jvm.Cond.and given_1 narrow_1).before args s = true from hpre))
  obtain ⟨hcnt, q0⟩ := and_e hg
  obtain ⟨b0, q1⟩ := and_e q0
  obtain ⟨b1, q2⟩ := and_e q1
  obtain ⟨b2, q3⟩ := and_e q2
  obtain ⟨b3, q4⟩ := and_e q3
  obtain ⟨b4, q5⟩ := and_e q4
  have b5 := q5
  obtain ⟨w0, w1, w2, w3, w4, w5, rfl⟩ : ∃ w0 w1 w2 w3 w4 w5 : Value, args = #[w0, w1, w2, w3, w4, w5] := by
    have hs : args.size = 6 := by simpa [Cond.value, given_1] using hcnt
    obtain ⟨L⟩ := args
    match L, hs with
    | [w0, w1, w2, w3, w4, w5], _ => exact ⟨w0, w1, w2, w3, w4, w5, rfl⟩
  have hw := fun d (hd : d ∈ tables_1) => atoms_spec (ws := Jvm.Cond.code x code maxLocals ret :: tables_1) hat d (List.mem_cons_of_mem _ hd)
  have hfit : Fit s := fun {y c} hc i hi => by
    obtain ⟨ha, rfl⟩ := Array.getElem?_eq_some_iff.mp hc
    have q := List.all_eq_true.mp ((Array.all_eq_true_iff_forall_mem.mp hF) _ (Array.getElem_mem ha)) i (List.mem_range.mpr hi)
    simpa [Array.getElem?_eq_getElem hi] using q
  obtain ⟨i0, ei0⟩ := isL_v b0
  obtain rfl : w0 = (.long i0) := Option.some.inj ei0
  obtain ⟨i1, ei1⟩ := isL_v b1
  obtain rfl : w1 = (.long i1) := Option.some.inj ei1
  obtain ⟨i2, ei2⟩ := isL_v b2
  obtain rfl : w2 = (.long i2) := Option.some.inj ei2
  obtain ⟨i3, ei3⟩ := isL_v b3
  obtain rfl : w3 = (.long i3) := Option.some.inj ei3
  obtain ⟨i4, ei4⟩ := isL_v b4
  obtain rfl : w4 = (.long i4) := Option.some.inj ei4
  obtain ⟨i5, ei5⟩ := isL_v b5
  obtain rfl : w5 = (.long i5) := Option.some.inj ei5
  obtain ⟨n, o, h1, h2, h3, _, L, rfl, ⟨rfl, N⟩, hq⟩ := rmL l s _ hw tables_1 i0 i1 i2 i3 i4 i5  s.heap s.heap.size (Nat.le_refl _)  p e ha hc hk s m _ below hf ((Spec.applies_iff_loose hf).mp happ).1 ⟨rfl, State.Warmed39.refl s, rfl⟩ trivial
  refine ⟨n, _, h1, h2, h3, hpost _ _ _ _ _ _ ⟨Cond.after_iff.mpr rfl, Cond.after_iff.mpr (eq_i res_at (Term.int_eval (1)) rfl), trivial⟩ ⟨hq.1, hq.2.1, (hq.2.2.sift fun y hy => Or.inr (N y hy)).mono (by decide) (by decide)⟩⟩
theorem main_1_1 : Claimed_1_1 := comes_1 fun _ _ _ _ _ _ h hF => ⟨h.1, hF⟩
theorem main_1_2 : Claimed_1_2 := comes_1 fun _ _ _ _ _ _ h hF => ⟨h.2.1, hF⟩
end Jvm.Pilot.@@N@@
namespace Jvm.Pilot.@@N@@
open Jvm Jvm.ClassFile Sem Op Lib Jvm.Free Jvm.Stand Jvm.Pilot.@@N@@.Jvm.D
/-! MADE BY PROGRAM (witnessworld.py) out of the Statement's table words and the real class files: 11 classes; the members and pool entries that the words name. The judged class is class 1, her method 4. -/
namespace start1
open Jvm.ClassFile
def u (s : String) : CpInfo := .utf8 (stringToUtf16 s)
/-- a pool by its gaps: so many unusable entries, then the entry; so many at the end -/
def gap : Nat → List CpInfo → List CpInfo
  | 0, r => r
  | n + 1, r => .unusable :: gap n r
def poolList (es : List (Nat × CpInfo)) (last : Nat) : List CpInfo := es.foldr (fun e r => gap e.1 (e.2 :: r)) (gap last [])
def pool (es : List (Nat × CpInfo)) (last : Nat) : Array CpInfo := ⟨poolList es last⟩
def fileOf (pool : Array CpInfo) (this : Nat) (attrs : Array Attribute := #[]) (ms : Array MethodInfo := #[]) (fl : Nat := 33) (sup : Nat := 0) (ifs : Array Nat := #[]) (fds : Array FieldInfo := #[]) : ClassFile where
  minorVersion := 0
  majorVersion := 65
  constantPool := pool
  accessFlags := fl
  thisClass := this
  superClass := sup
  interfaces := ifs
  fields := fds
  methods := ms
  attributes := attrs
def plain (name : String) (sup : Option ClassId) : Class where
  name := name
  kind := .ordinary
  loader := none
  accessFlags := 33
  super := sup
  interfaces := #[]
  cf := none
  fields := #[]
  methods := #[]
  instanceTypes := #[]
  staticTypes := #[]
  resolved := #[]
  callSites := []
  init := .initialized
  statics := none
  mirror := none

def pool0 : Array CpInfo := pool [(5, u "<init>"), (0, u "()V"), (1, .class_ 10), (1, u "java/lang/Object")] 113

def k0m0 : Method := { name := "<init>", desc := "()V", sig := { parameters := [], returnType := none }, accessFlags := 1, code := none }
/-- java/lang/Object -/
def k0 : Class := { plain "java/lang/Object" none with
  accessFlags := 33
  interfaces := #[]
  cf := some (fileOf pool0 8 #[] #[{ accessFlags := 1, nameIndex := 5, descriptorIndex := 6, attributes := #[] }] 33 0 #[] #[])
  fields := #[]
  methods := #[k0m0]
  instanceTypes := #[]
  staticTypes := #[]
  resolved := Array.replicate 124 none
  statics := none }

def pool1 : Array CpInfo := pool [(2, .class_ 4), (1, u "java/lang/Object"), (0, u "<init>"), (0, u "()V"), (0, .long 3), (1, .methodref 10 11), (0, .class_ 12), (0, .nameAndType 13 14), (0, u "com/example/isochron/isochron/dsp/RowButterfliesForwardPinLaw"), (0, u "lo"), (0, u "(J)J"), (0, .methodref 10 16), (0, .nameAndType 17 14), (0, u "hi"), (0, .methodref 19 20), (0, .class_ 21), (0, .nameAndType 22 23), (0, u "com/example/isochron/isochron/dsp/RowButterflies"), (0, u "forward"), (0, u "([D[D[D[D[D[DI)V"), (0, .methodref 10 25), (0, .nameAndType 26 27), (0, u "check"), (0, u "(II[D[D[D[D[D[DJJJJJJ)Z"), (3, u "law"), (0, u "(JJJJJJ)Z")] 4

def k1m0 : Method := { name := "<init>", desc := "()V", sig := { parameters := [], returnType := none }, accessFlags := 2, code := none }
def k1c1 : Code := { maxStack := 3, maxLocals := 2, code := method_2_code, exceptionTable := #[], attributes := #[] }
def k1m1 : Method := { name := "lo", desc := "(J)J", sig := { parameters := [.long], returnType := some .long }, accessFlags := 10, code := some k1c1 }
def k1c2 : Code := { maxStack := 3, maxLocals := 2, code := method_3_code, exceptionTable := #[], attributes := #[] }
def k1m2 : Method := { name := "hi", desc := "(J)J", sig := { parameters := [.long], returnType := some .long }, accessFlags := 10, code := some k1c2 }
def k1c3 : Code := { maxStack := 8, maxLocals := 24, code := method_4_code, exceptionTable := #[], attributes := #[] }
def k1m3 : Method := { name := "check", desc := "(II[D[D[D[D[D[DJJJJJJ)Z", sig := { parameters := [.int, .int, (.array .double), (.array .double), (.array .double), (.array .double), (.array .double), (.array .double), .long, .long, .long, .long, .long, .long], returnType := some .boolean }, accessFlags := 10, code := some k1c3 }
def k1c4 : Code := { maxStack := 20, maxLocals := 43, code := code, exceptionTable := #[], attributes := #[] }
def k1m4 : Method := { name := "law", desc := "(JJJJJJ)Z", sig := { parameters := [.long, .long, .long, .long, .long, .long], returnType := some .boolean }, accessFlags := 9, code := some k1c4 }
/-- com/example/isochron/isochron/dsp/RowButterfliesForwardPinLaw -/
def k1 : Class := { plain "com/example/isochron/isochron/dsp/RowButterfliesForwardPinLaw" (some 0) with
  accessFlags := 49
  interfaces := #[]
  cf := some (fileOf pool1 10 #[] #[{ accessFlags := 2, nameIndex := 5, descriptorIndex := 6, attributes := #[] }, { accessFlags := 10, nameIndex := 13, descriptorIndex := 14, attributes := #[] }, { accessFlags := 10, nameIndex := 17, descriptorIndex := 14, attributes := #[] }, { accessFlags := 10, nameIndex := 26, descriptorIndex := 27, attributes := #[] }, { accessFlags := 9, nameIndex := 31, descriptorIndex := 32, attributes := #[] }] 49 2 #[] #[])
  fields := #[]
  methods := #[k1m0, k1m1, k1m2, k1m3, k1m4]
  instanceTypes := #[]
  staticTypes := #[]
  resolved := Array.replicate 37 none
  statics := none }

def pool2 : Array CpInfo := pool [(2, .class_ 4), (1, u "java/lang/Object"), (0, u "<init>"), (0, u "()V"), (9, .class_ 17), (0, u "com/example/isochron/isochron/dsp/RowButterflies"), (2, u "forward"), (0, u "([D[D[D[D[D[DI)V")] 11

def k2m0 : Method := { name := "<init>", desc := "()V", sig := { parameters := [], returnType := none }, accessFlags := 2, code := none }
def k2c1 : Code := { maxStack := 8, maxLocals := 20, code := prog_169_method_2_code, exceptionTable := #[], attributes := #[] }
def k2m1 : Method := { name := "forward", desc := "([D[D[D[D[D[DI)V", sig := { parameters := [(.array .double), (.array .double), (.array .double), (.array .double), (.array .double), (.array .double), .int], returnType := none }, accessFlags := 8, code := some k2c1 }
/-- com/example/isochron/isochron/dsp/RowButterflies -/
def k2 : Class := { plain "com/example/isochron/isochron/dsp/RowButterflies" (some 0) with
  accessFlags := 48
  interfaces := #[]
  cf := some (fileOf pool2 16 #[] #[{ accessFlags := 2, nameIndex := 5, descriptorIndex := 6, attributes := #[] }, { accessFlags := 8, nameIndex := 20, descriptorIndex := 21, attributes := #[] }] 48 2 #[] #[])
  fields := #[]
  methods := #[k2m0, k2m1]
  instanceTypes := #[]
  staticTypes := #[]
  resolved := Array.replicate 33 none
  statics := none }

def pool3 : Array CpInfo := pool [(1, u "java/lang/Cloneable"), (0, .class_ 1), (0, u "java/lang/Object"), (0, .class_ 3)] 3

/-- java/lang/Cloneable -/
def k3 : Class := { plain "java/lang/Cloneable" (some 0) with
  accessFlags := 1537
  interfaces := #[]
  cf := some (fileOf pool3 2 #[] #[] 1537 4 #[] #[])
  fields := #[]
  methods := #[]
  instanceTypes := #[]
  staticTypes := #[]
  resolved := Array.replicate 8 none
  statics := none }

def pool4 : Array CpInfo := pool [(1, u "java/io/Serializable"), (0, .class_ 1), (0, u "java/lang/Object"), (0, .class_ 3)] 3

/-- java/io/Serializable -/
def k4 : Class := { plain "java/io/Serializable" (some 0) with
  accessFlags := 1537
  interfaces := #[]
  cf := some (fileOf pool4 2 #[] #[] 1537 4 #[] #[])
  fields := #[]
  methods := #[]
  instanceTypes := #[]
  staticTypes := #[]
  resolved := Array.replicate 8 none
  statics := none }

/-- the primitive byte -/
def k5 : Class := { plain "byte" none with kind := .primitive 'B', accessFlags := 0x411 }
/-- [B -/
def k6 : Class := { plain "[B" (some 0) with kind := .array 5 .byte, interfaces := #[3, 4], accessFlags := 1041 }

/-- the primitive double -/
def k7 : Class := { plain "double" none with kind := .primitive 'D', accessFlags := 0x411 }
/-- [D -/
def k8 : Class := { plain "[D" (some 0) with kind := .array 7 .double, interfaces := #[3, 4], accessFlags := 1041 }

/-- the primitive int -/
def k9 : Class := { plain "int" none with kind := .primitive 'I', accessFlags := 0x411 }
/-- [I -/
def k10 : Class := { plain "[I" (some 0) with kind := .array 9 .int, interfaces := #[3, 4], accessFlags := 1041 }

def heap : Heap := #[]
def classes : Array Class := #[k0, k1, k2, k3, k4, k5, k6, k7, k8, k9, k10]
def interned : List (Array UInt16 × Addr) := []
def slotsUsed : Nat := 0
def theMethod : MethodId := ⟨1, 4⟩
def args0 : Array Value := #[.long 5, .long 3, .long 7, .long 2, .long 11, .long 4]
def aboutOver (below : List Frame) : State where
  vm := { classes := classes, interned := interned.toArray }
  heap := heap
  slotsUsed := slotsUsed
  threads := #[{ frames := .invoking theMethod args0 :: below }]
def below0 : List Frame := [.native { method := ⟨0, 0⟩, args := #[] }]
def about1 : State := aboutOver below0
def p0 : Program := .bare "" "" ""
def e0 : Env := launch0.env 0 0 0
theorem w_frames : about1.frames = Frame.invoking theMethod args0 :: below0 := rfl
set_option maxRecDepth 65536 in
theorem w_args : argsFit about1.vm theMethod args0 = true := by decide +kernel
set_option maxRecDepth 65536 in
theorem w_heap : heapFits about1 = true := by decide +kernel
set_option maxRecDepth 65536 in
theorem w_runnable : about1.curStatus? = some .runnable := by decide +kernel
set_option maxRecDepth 65536 in
theorem w_alone : about1.alone = true := by decide +kernel
set_option maxRecDepth 65536 in
theorem w_named : about1.methodNamed? x = some theMethod := by decide +kernel
set_option maxRecDepth 65536 in
theorem w_hears : about1.hears theMethod below0 = true := by decide +kernel
set_option maxRecDepth 65536 in
theorem w_ripe : about1.ripe theMethod args0 below0 = true := by decide +kernel
theorem w_running : about1.status = .running := rfl
set_option maxRecDepth 65536 in
theorem w_room : about1.hasRoom e0.platform room_1 = true :=
  launch0.hasRoom_least _ room_1 (by decide +kernel) (by decide +kernel) (by decide +kernel) (by decide +kernel) (by decide +kernel) (by decide +kernel)
theorem allAtoms_all (ts : List Jvm.Cond) (a : Array Jvm.Value) (st : Jvm.State) : (allAtoms ts).before a st = ts.all (fun c => c.before a st) := by
  induction ts with
  | nil => rfl
  | cons c t ih =>
    show (Jvm.Cond.and c (allAtoms t)).before a st = _
    rw [Jvm.Cond.before_and, ih, List.all_cons]
def words1 : List Jvm.Cond := Jvm.Cond.code x code maxLocals ret :: tables_1
/-- a 'code' word, met by the world's own term for the bytes: nothing is compared byte by byte -/
theorem code_word {y : MethodName} {bytes : ByteArray} {mx : Nat} {rt : Option FieldType} {a : Array Value} {s : State} {m : MethodId} {meth : Method} {c : Code} (h1 : s.methodNamed? y = some m) (h2 : s.vm.method? m = some meth) (h3 : meth.code = some c) (h4 : c.code = bytes)
    (h5 : (c.maxLocals == mx && c.exceptionTable.isEmpty && decide (c.maxStack ≤ mostOperands) && decide (meth.sig.returnType = rt) && !meth.locks && decide (parseMethodDescriptor y.desc = some meth.sig)) = true) : (Jvm.Cond.code y bytes mx rt).before a s = true := by
  simp only [Bool.and_eq_true, beq_iff_eq, Bool.not_eq_true', decide_eq_true_eq] at h5
  obtain ⟨⟨⟨⟨⟨g1, g2⟩, g3⟩, g4⟩, g5⟩, g6⟩ := h5
  simp [Cond.before, Cond.holds, Cond.value, h1, h2, h3, h4, g1, g2, g3, g4, g5, g6]
def isCode : Jvm.Cond → Bool
  | .code _ _ _ _ => true
  | _ => false
theorem all_split {L : List Jvm.Cond} {P : Jvm.Cond → Bool} (h1 : L.all (fun c => isCode c || P c) = true) (h2 : ∀ c ∈ L.filter isCode, P c = true) : L.all P = true := by
  refine List.all_eq_true.mpr fun c hc => ?_
  have h := List.all_eq_true.mp h1 c hc
  rcases Bool.eq_false_or_eq_true (isCode c) with hi | hi
  · exact h2 c (List.mem_filter.mpr ⟨hc, hi⟩)
  · simpa [hi] using h
set_option maxRecDepth 65536 in
theorem w_c0 : (Jvm.Cond.code x code maxLocals ret).before args0 about1 = true := code_word (m := ⟨1, 4⟩) (meth := k1m4) (c := k1c4) (by decide +kernel) rfl rfl rfl (by decide +kernel)
set_option maxRecDepth 65536 in
theorem w_c1 : (Jvm.Cond.code ({ cls := "com/example/isochron/isochron/dsp/RowButterfliesForwardPinLaw", name := "lo", desc := "(J)J" } : Jvm.MethodName) method_2_code (2 : Nat) (Option.some Jvm.ClassFile.FieldType.long)).before args0 about1 = true := code_word (m := ⟨1, 1⟩) (meth := k1m1) (c := k1c1) (by decide +kernel) rfl rfl rfl (by decide +kernel)
set_option maxRecDepth 65536 in
theorem w_c2 : (Jvm.Cond.code ({ cls := "com/example/isochron/isochron/dsp/RowButterfliesForwardPinLaw", name := "hi", desc := "(J)J" } : Jvm.MethodName) method_3_code (2 : Nat) (Option.some Jvm.ClassFile.FieldType.long)).before args0 about1 = true := code_word (m := ⟨1, 2⟩) (meth := k1m2) (c := k1c2) (by decide +kernel) rfl rfl rfl (by decide +kernel)
set_option maxRecDepth 65536 in
theorem w_c3 : (Jvm.Cond.code ({ cls := "com/example/isochron/isochron/dsp/RowButterflies", name := "forward", desc := "([D[D[D[D[D[DI)V" } : Jvm.MethodName) prog_169_method_2_code (20 : Nat) (Option.none : Option Jvm.ClassFile.FieldType)).before args0 about1 = true := code_word (m := ⟨2, 1⟩) (meth := k2m1) (c := k2c1) (by decide +kernel) rfl rfl rfl (by decide +kernel)
set_option maxRecDepth 65536 in
theorem w_c4 : (Jvm.Cond.code ({ cls := "com/example/isochron/isochron/dsp/RowButterfliesForwardPinLaw", name := "check", desc := "(II[D[D[D[D[D[DJJJJJJ)Z" } : Jvm.MethodName) method_4_code (24 : Nat) (Option.some Jvm.ClassFile.FieldType.boolean)).before args0 about1 = true := code_word (m := ⟨1, 3⟩) (meth := k1m3) (c := k1c3) (by decide +kernel) rfl rfl rfl (by decide +kernel)
def codes1 : List Jvm.Cond := [Jvm.Cond.code x code maxLocals ret, Jvm.Cond.code ({ cls := "com/example/isochron/isochron/dsp/RowButterfliesForwardPinLaw", name := "lo", desc := "(J)J" } : Jvm.MethodName) method_2_code (2 : Nat) (Option.some Jvm.ClassFile.FieldType.long), Jvm.Cond.code ({ cls := "com/example/isochron/isochron/dsp/RowButterfliesForwardPinLaw", name := "hi", desc := "(J)J" } : Jvm.MethodName) method_3_code (2 : Nat) (Option.some Jvm.ClassFile.FieldType.long), Jvm.Cond.code ({ cls := "com/example/isochron/isochron/dsp/RowButterflies", name := "forward", desc := "([D[D[D[D[D[DI)V" } : Jvm.MethodName) prog_169_method_2_code (20 : Nat) (Option.none : Option Jvm.ClassFile.FieldType), Jvm.Cond.code ({ cls := "com/example/isochron/isochron/dsp/RowButterfliesForwardPinLaw", name := "check", desc := "(II[D[D[D[D[D[DJJJJJJ)Z" } : Jvm.MethodName) method_4_code (24 : Nat) (Option.some Jvm.ClassFile.FieldType.boolean)]
set_option maxRecDepth 65536 in
theorem codes_eq : words1.filter isCode = codes1 := rfl
theorem w_codes : ∀ c ∈ words1.filter isCode, c.before args0 about1 = true := by
  rw [codes_eq]
  intro c hc
  simp only [codes1, List.mem_cons, List.not_mem_nil, or_false] at hc
  rcases hc with rfl | rfl | rfl | rfl | rfl
  · exact w_c0
  · exact w_c1
  · exact w_c2
  · exact w_c3
  · exact w_c4
set_option maxRecDepth 65536 in
theorem w_t1 : words1.all (fun c => isCode c || c.before args0 about1) = true := by decide +kernel
theorem w_tables : (allAtoms (Jvm.Cond.code x code maxLocals ret :: tables_1)).before args0 about1 = true := by
  rw [allAtoms_all]
  show words1.all (fun c => c.before args0 about1) = true
  refine all_split ?_ w_codes
  rw [w_t1]
set_option maxRecDepth 65536 in
theorem w_case : (Jvm.Cond.and given_1 narrow_1).before args0 about1 = true := by decide +kernel
theorem w_applies : (headSpec (Jvm.Cond.code x code maxLocals ret :: tables_1) room_1).applies x e0.platform about1 = true :=
  (Spec.applies_iff w_frames).mpr ⟨w_running, w_runnable, w_alone, w_named, w_hears, w_ripe, w_room, w_tables⟩
theorem atStart : AtStart classFile x code maxLocals ret World_1 tables_1 room_1 Calls_1 rest_1 Pre_1 launch0 p0 e0 about1 theMethod args0 below0 :=
  ⟨lists_1, trivial, launch0.admits_env _ _ _, launch0.least_env, fairChoices_fair.cas, fairChoices_fair.clock, w_frames, w_args, w_heap, w_applies, trivial, trivial, w_case⟩
end start1
theorem witness_1 : WitnessClaimed_1 := ⟨start1.p0, start1.e0, start1.about1, start1.theMethod, start1.args0, start1.below0, start1.atStart⟩
end Jvm.Pilot.@@N@@
