import JvmDerived
import JvmDerived.Pilot.@@N@@Statement
import JvmDerived.Pilot.@@N@@Code
set_option linter.unusedVariables false
set_option linter.unusedSimpArgs false
namespace Jvm.Pilot.@@N@@
/-! 1. THE PLAIN LAW: the rounded quotient of two ints lies in [0, 1) just where the exact one does -/
section Own
open Jvm.FP.Core
theorem own_pow {c N d M a b k A B C D : Nat} (h1 : c * 2 ^ A = N * 2 ^ B) (h2 : d * 2 ^ C = M * 2 ^ D) (e1 : A + D = a + k) (e2 : B + C = b + k) : c * M * 2 ^ a = N * d * 2 ^ b := by
  refine Nat.eq_of_mul_eq_mul_right (Nat.two_pow_pos k) ?_
  have e3 : c * M * 2 ^ a * 2 ^ k = (c * 2 ^ A) * (M * 2 ^ D) := by
    rw [Nat.mul_assoc (c * M), ← Nat.pow_add, ← e1, Nat.pow_add]; ac_rfl
  have e4 : N * d * 2 ^ b * 2 ^ k = (N * 2 ^ B) * (d * 2 ^ C) := by
    rw [Nat.mul_assoc (N * d), ← Nat.pow_add, ← e2, Nat.pow_add]; ac_rfl
  rw [e3, e4, h1, h2]
theorem own_quot {i j : Int} {X Y : Datum} (hi : Whole i X) (hj : Whole j Y) (h0 : j ≠ 0) :
    ∃ s : Bool, quotient b64 X Y = roundRatio b64 s i.natAbs j.natAbs 0 ∧ (i ≠ 0 → s = (decide (i < 0) != decide (j < 0))) := by
  cases X with
  | nan => exact hi.elim
  | inf => exact hi.elim
  | fin s c q =>
  cases Y with
  | nan => exact hj.elim
  | inf => exact hj.elim
  | fin t d r =>
    have hd : d ≠ 0 := fun z => h0 ((whole_zero hj).mp z)
    refine ⟨s != t, ?_, fun hi0 => by rw [whole_sign hi hi0, whole_sign hj h0]⟩
    show (if d = 0 then (if c = 0 then Datum.nan else .inf (s != t)) else roundRatio b64 (s != t) c d (q - r)) = _
    rw [if_neg hd]
    refine roundRatio_congr (by omega) (by omega) ?_
    exact own_pow (k := q.toNat + (-r).toNat - (q - r - 0).toNat) (whole_natAbs hi) (whole_natAbs hj) (by omega) (by omega)
theorem own_div (n m : Int32) (hm : m.toInt ≠ 0) :
    ∃ s : Bool, val64 (FP.ddiv (FP.i2d n) (FP.i2d m)) = roundRatio b64 s n.toInt.natAbs m.toInt.natAbs 0 ∧ (n.toInt ≠ 0 → s = (decide (n.toInt < 0) != decide (m.toInt < 0))) := by
  have h : val64 (FP.ddiv (FP.i2d n) (FP.i2d m)) = quotient b64 (val64 (FP.i2d n)) (val64 (FP.i2d m)) := val64_ddiv _ _
  rw [h]
  exact own_quot (i2d_int n) (i2d_int m) hm
/-- the numbers between which a quotient is held: 1, 1 - 2^-31, 2^-31 -/
def own_V1 : Datum := .fin false (2 ^ 52) (-52)
def own_V2 : Datum := .fin false ((2 ^ 31 - 1) * 2 ^ 22) (-53)
def own_V3 : Datum := .fin false (2 ^ 52) (-83)
theorem own_f1 : FP.Core.fits b64 own_V1 := by unfold own_V1 FP.Core.fits; decide +kernel
theorem own_f2 : FP.Core.fits b64 own_V2 := by unfold own_V2 FP.Core.fits; decide +kernel
theorem own_f3 : FP.Core.fits b64 own_V3 := by unfold own_V3 FP.Core.fits; decide +kernel
theorem own_z1 : zmag b64 own_V1 = 2 ^ 1074 := by decide +kernel
theorem own_z2 : zmag b64 own_V2 = (2 ^ 31 - 1) * 2 ^ 1043 := by decide +kernel
theorem own_z3 : zmag b64 own_V3 = 2 ^ 1043 := by decide +kernel
theorem own_u (N : Nat) : inUnits N 0 b64.qmin = N * 2 ^ 1074 := by
  show N * 2 ^ (0 - b64.qmin).toNat = _
  rw [show (0 - b64.qmin).toNat = 1074 by decide +kernel]
theorem own_q : 2 ^ (b64.qmin - b64.qmin).toNat = 1 := by decide +kernel
theorem own_q0 : b64.qmin ≤ 0 := by decide +kernel
theorem own_p : (2 : Nat) ^ 1074 = 2 ^ 31 * 2 ^ 1043 := by rw [← Nat.pow_add]
theorem own_zero (s : Bool) (M : Nat) : zmag b64 (roundRatio b64 s 0 M 0) = 0 := by
  show inUnits 0 b64.qmin b64.qmin = 0
  show 0 * _ = 0
  omega
theorem own_ge1 (s : Bool) {N M : Nat} (h0 : 0 < M) (h : M ≤ N) : 2 ^ 1074 ≤ zmag b64 (roundRatio b64 s N M 0) := by
  have := zmag_roundRatio_ge good_b64 (s := s) (A := N) (B := M) (e := 0) (e0 := b64.qmin) (V := own_V1) h0 own_f1 (Int.le_refl _) own_q0 (by
    rw [own_q, own_z1, own_u, Nat.mul_one, Nat.mul_comm]; exact Nat.mul_le_mul_right _ h)
  rwa [own_z1] at this
theorem own_lt1 (s : Bool) {N M : Nat} (h : N < M) (hM : M ≤ 2 ^ 31) : zmag b64 (roundRatio b64 s N M 0) < 2 ^ 1074 := by
  have := zmag_roundRatio_le good_b64 (s := s) (A := N) (B := M) (e := 0) (e0 := b64.qmin) (V := own_V2) (by omega) own_f2 (fun z => by cases z) (Int.le_refl _) own_q0 (by
    rw [own_q, own_z2, own_u, Nat.mul_one, own_p, Nat.mul_right_comm, ← Nat.mul_assoc]
    exact Nat.mul_le_mul_right _ (by omega))
  rw [own_z2] at this
  refine Nat.lt_of_le_of_lt this ?_
  rw [own_p]
  exact Nat.mul_lt_mul_of_pos_right (by decide) (Nat.two_pow_pos _)
theorem own_gt0 (s : Bool) {N M : Nat} (h0 : 0 < M) (hN : 0 < N) (hM : M ≤ 2 ^ 31) : 0 < zmag b64 (roundRatio b64 s N M 0) := by
  have := zmag_roundRatio_ge good_b64 (s := s) (A := N) (B := M) (e := 0) (e0 := b64.qmin) (V := own_V3) h0 own_f3 (Int.le_refl _) own_q0 (by
    rw [own_q, own_z3, own_u, Nat.mul_one, own_p, ← Nat.mul_assoc, Nat.mul_comm _ M]
    exact Nat.mul_le_mul_right _ (by omega))
  rw [own_z3] at this
  have := Nat.two_pow_pos 1043
  omega
/-- what isDamping answers: by the ints that dcmpl and dcmpg push -/
def own_damp (d : UInt64) : Int32 := if Op.cmpValue (FP.dcmp d FP.dconst0) .l < 0 then 0 else if Op.cmpValue (FP.dcmp d FP.dconst1) .g < 0 then 1 else 0
/-- what the law expects -/
def own_exp (n m : Int32) : Int32 := if (0 : Int32) < m then (if n < (0 : Int32) then 0 else if n < m then 1 else 0) else (if (0 : Int32) < n then 0 else if m < n then 1 else 0)
theorem own_cl (a b : Int) : Op.cmpValue (some (compare a b)) .l < 0 ↔ a < b := by
  rw [← compare_lt_iff]; cases compare a b <;> decide
theorem own_cg (a b : Int) : Op.cmpValue (some (compare a b)) .g < 0 ↔ a < b := by
  rw [← compare_lt_iff]; cases compare a b <;> decide
theorem own_damp_eq {d : UInt64} (h : val64 d ≠ .nan) : own_damp d = if zval b64 (val64 d) < 0 then 0 else if zval b64 (val64 d) < ((2 ^ 1074 : Nat) : Int) then 1 else 0 := by
  have n0 : val64 FP.dconst0 ≠ .nan := by decide +kernel
  have n1 : val64 FP.dconst1 ≠ .nan := by decide +kernel
  have z0 : zval b64 (val64 FP.dconst0) = 0 := by decide +kernel
  have z1 : zval b64 (val64 FP.dconst1) = ((2 ^ 1074 : Nat) : Int) := by decide +kernel
  have c0 : FP.dcmp d FP.dconst0 = some (compare (zval b64 (val64 d)) 0) := by rw [← z0]; exact dcmp_zval h n0
  have c1 : FP.dcmp d FP.dconst1 = some (compare (zval b64 (val64 d)) ((2 ^ 1074 : Nat) : Int)) := by rw [← z1]; exact dcmp_zval h n1
  unfold own_damp
  rw [c0, c1]
  simp only [own_cl, own_cg]
theorem own_law (n m : Int32) (hm : m ≠ 0) : own_damp (FP.ddiv (FP.i2d n) (FP.i2d m)) = own_exp n m := by
  have hm0 : m.toInt ≠ 0 := fun z => hm (Int32.toInt_inj.mp z)
  obtain ⟨s, hv, hs⟩ := own_div n m hm0
  have hnn : val64 (FP.ddiv (FP.i2d n) (FP.i2d m)) ≠ .nan := by rw [hv]; exact roundRatio_ne_nan _ _ _ _ _
  rw [own_damp_eq hnn]
  have hz : zval b64 (val64 (FP.ddiv (FP.i2d n) (FP.i2d m))) = signed s (zmag b64 (roundRatio b64 s n.toInt.natAbs m.toInt.natAbs 0)) := by
    unfold zval; rw [hv, sgn_roundRatio]
  rw [hz]
  have b1 := n.toInt_lt
  have b2 := n.le_toInt
  have b3 := m.toInt_lt
  have b4 := m.le_toInt
  have f0 : n.toInt = 0 → zmag b64 (roundRatio b64 s n.toInt.natAbs m.toInt.natAbs 0) = 0 := fun z => by rw [z]; exact own_zero s _
  have f1 := own_ge1 s (N := n.toInt.natAbs) (M := m.toInt.natAbs) (by omega)
  have f2 := fun h => own_lt1 s (N := n.toInt.natAbs) (M := m.toInt.natAbs) h (by omega)
  have f3 := fun h => own_gt0 s (N := n.toInt.natAbs) (M := m.toInt.natAbs) (by omega) h (by omega)
  have hp : 0 < 2 ^ 1074 := Nat.two_pow_pos 1074
  generalize zmag b64 (roundRatio b64 s n.toInt.natAbs m.toInt.natAbs 0) = z at *
  generalize (2 : Nat) ^ 1074 = P at *
  unfold own_exp
  simp only [Int32.lt_iff_toInt_lt, show (0 : Int32).toInt = 0 from rfl]
  generalize n.toInt = a at *
  generalize m.toInt = b at *
  by_cases ha : a = 0
  · have hz0 := f0 ha
    subst hz0
    rw [signed_zero, if_neg (by omega), if_pos (by omega)]
    by_cases hb : 0 < b
    · rw [if_pos hb, if_neg (by omega), if_pos (by omega)]
    · rw [if_neg hb, if_neg (by omega), if_pos (by omega)]
  · have hs' := hs ha
    have hz1 := f3 (by omega)
    by_cases hb : 0 < b
    · rw [if_pos hb]
      have db : decide (b < 0) = false := decide_eq_false (by omega)
      by_cases ha1 : a < 0
      · have da : decide (a < 0) = true := decide_eq_true ha1
        rw [da, db] at hs'
        subst hs'
        rw [if_pos ha1, if_pos (show signed (true != false) z < 0 by show -(z : Int) < 0; omega)]
      · have da : decide (a < 0) = false := decide_eq_false ha1
        rw [da, db] at hs'
        subst hs'
        have e : signed (false != false) z = (z : Int) := rfl
        rw [if_neg ha1, e, if_neg (by omega)]
        by_cases hab : a < b
        · have := f2 (by omega)
          rw [if_pos hab, if_pos (by omega)]
        · have := f1 (by omega)
          rw [if_neg hab, if_neg (by omega)]
    · rw [if_neg hb]
      have db : decide (b < 0) = true := decide_eq_true (by omega)
      by_cases ha1 : a < 0
      · have da : decide (a < 0) = true := decide_eq_true ha1
        rw [da, db] at hs'
        subst hs'
        have e : signed (true != true) z = (z : Int) := rfl
        rw [if_neg (show ¬ 0 < a by omega), e, if_neg (by omega)]
        by_cases hab : b < a
        · have := f2 (by omega)
          rw [if_pos hab, if_pos (by omega)]
        · have := f1 (by omega)
          rw [if_neg hab, if_neg (by omega)]
      · have da : decide (a < 0) = false := decide_eq_false ha1
        rw [da, db] at hs'
        subst hs'
        rw [if_pos (show 0 < a by omega), if_pos (show signed (false != true) z < 0 by show -(z : Int) < 0; omega)]
end Own
/-! 2. THE WALKS -/
open Jvm Jvm.ClassFile Sem Op Lib Jvm.Free Jvm.Stand Jvm.LawKit Jvm.RoadKit Bundle Jvm.Pilot.@@N@@.Jvm.D

theorem d1_0 : decode prog_45_method_2_code 0 = .ok (.dload_n 0, 1) := by decide +kernel
theorem d1_1 : decode prog_45_method_2_code 1 = .ok (.dconst 0, 1) := by decide +kernel
theorem d1_2 : decode prog_45_method_2_code 2 = .ok (.dcmp .l, 1) := by decide +kernel
theorem d1_3 : decode prog_45_method_2_code 3 = .ok (.ifCond .lt 13, 3) := by decide +kernel
theorem d1_6 : decode prog_45_method_2_code 6 = .ok (.dload_n 0, 1) := by decide +kernel
theorem d1_7 : decode prog_45_method_2_code 7 = .ok (.dconst 1, 1) := by decide +kernel
theorem d1_8 : decode prog_45_method_2_code 8 = .ok (.dcmp .g, 1) := by decide +kernel
theorem d1_9 : decode prog_45_method_2_code 9 = .ok (.ifCond .ge 7, 3) := by decide +kernel
theorem d1_12 : decode prog_45_method_2_code 12 = .ok (.iconst 1, 1) := by decide +kernel
theorem d1_13 : decode prog_45_method_2_code 13 = .ok (.goto 4, 3) := by decide +kernel
theorem d1_16 : decode prog_45_method_2_code 16 = .ok (.iconst 0, 1) := by decide +kernel
theorem d1_17 : decode prog_45_method_2_code 17 = .ok (.ireturn, 1) := by decide +kernel
theorem pn_0 : plainName "com/example/kereso/kereso/service/PageRankIsDampingPinLaw" = true := by first | (simp [plainName, overriddenIn]; done) | decide +kernel
theorem pn_1 : plainName "com/example/kereso/kereso/service/PageRank" = true := by first | (simp [plainName, overriddenIn]; done) | decide +kernel
theorem pd_1 : parseMethodDescriptor "(D)Z" = some ⟨[.double], some .boolean⟩ := by decide +kernel
theorem ef_0 (m : MethodId) (x0 : Int32) (x1 : Int32) : entryFrame m #[(.int x0), (.int x1)] maxLocals = mkF m 0 #[.val (.int x0), .val (.int x1), .unset, .unset, .unset] [] := by first | (simp [entryFrame, mkF, argsToLocals, Value.category, maxLocals]; done) | rfl
theorem ef_1 (m : MethodId) (x0 : UInt64) : entryFrame m #[(.double x0)] 2 = mkF m 0 #[.val (.double x0), .second] [] := by first | (simp [entryFrame, mkF, argsToLocals, Value.category]; done) | rfl
def Q1 (p1 : UInt64) (h0 : Heap) (n0 : Nat) (v : Option Value) (h : Heap) (L : List Loc) : Prop := v = some (.int (own_damp p1)) ∧ Fr n0 L ∧ h = h0
set_option maxRecDepth 65536 in
set_option maxHeartbeats 40000000 in
theorem rm1 (l : Launch) (Z : State) (a0 : Array Value) (hw : ∀ d ∈ tables_1, d.before a0 Z = true) (ws : List Jvm.Cond) (p1 : UInt64) (h0 : Heap) (n0 : Nat) (Z0 : n0 ≤ h0.size) :
    MetFree l (⟨"com/example/kereso/kereso/service/PageRank", "isDamping", "(D)Z"⟩ : MethodName) (head1 (Jvm.Cond.code (⟨"com/example/kereso/kereso/service/PageRank", "isDamping", "(D)Z"⟩ : MethodName) prog_45_method_2_code 2 (some .boolean) :: ws) ({ frames := 0, cells := 0, slots := 0, locals := 0 } : Room)) (fun a U => a = #[(.double p1)] ∧ Z.Warmed39 U.vm ∧ U.heap = h0) (fun _ _ _ _ _ => True) (fun _ U o U' => ∃ v L, o = .returned v ∧ Q1 p1 h0 n0 v U'.heap L ∧ FrameEnd U o U' L ({ frames := 0, cells := 0, slots := 0, locals := 0 } : Room).cells ({ frames := 0, cells := 0, slots := 0, locals := 0 } : Room).slots) := by
  refine MetFree.of_bodySF (plainFor_of_name pn_1) hisR ?_
  intro p e s m args below meth c s₁ Bd hml0 hP hK
  obtain ⟨rfl, hZ, hh⟩ := hP
  have hx := Bd.exec
  have hby := Bd.bytes
  have hml : c.maxLocals = 2 := hml0
  have X0 : Stand p l e ({ frames := 0, cells := 0, slots := 0, locals := 0 } : Room) s m #[(.double p1)] below meth c s₁ [] 0 0 := Stand.of_body Bd
  have e0 : s₁.heap = h0 := by rw [← hh, Bd.state]; rfl
  have N0 := Fr.nil n0
  have pre0 : ∀ t, Steps p.tables e below (s₁.setTop (mkF m 0 #[.val (.double p1), .second] [])) t → Steps p.tables e below (s₁.setTop (entryFrame m #[(.double p1)] 2)) t := fun t k => castTop (ef_1 m p1) k
  obtain ⟨fs, hr, hrun, hended, hW, hsame⟩ := X0.leave (v := some (.int (own_damp p1))) (fun h => by rw [Bd.returns] at h; cases h)
  refine ⟨_, _, pre0 _ ?_, hrun, hended, _, _, rfl, ?_, ⟨_, rfl⟩, hW, hsame.mono (by decide) (by decide)⟩
  · show Steps p.tables e below (s₁.setTop (mkF m 0 #[.val (.double p1), .second] [])) _
    refine XS.dloadN X0.here hx rfl (hb hby d1_0) rfl ?_
    show Steps p.tables e below (s₁.setTop (mkF m 1 #[.val (.double p1), .second] [(.double p1)])) _
    refine XS.dconst0 X0.here hx rfl (hb hby d1_1) rfl ?_
    show Steps p.tables e below (s₁.setTop (mkF m 2 #[.val (.double p1), .second] [(.double FP.dconst0), (.double p1)])) _
    refine XS.dcmpS X0.here hx rfl (hb hby d1_2) rfl rfl ?_
    show Steps p.tables e below (s₁.setTop (mkF m 3 #[.val (.double p1), .second] [(.int (cmpValue (FP.dcmp p1 FP.dconst0) .l))])) _
    by_cases h1 : cmpValue (FP.dcmp p1 FP.dconst0) .l < 0
    · have hv : own_damp p1 = nar .boolean 0 := by unfold own_damp; rw [if_pos h1]; rfl
      rw [hv] at hr
      refine XS.ifYes X0.here hx rfl (pc0 := 3) (pc' := 16) rfl (hb hby d1_3) rfl ((if0 _ _).trans (tlt h1).1) (by decide) (by decide) ?_
      show Steps p.tables e below (s₁.setTop (mkF m 16 #[.val (.double p1), .second] [])) _
      refine XS.iconst X0.here hx rfl (hb hby d1_16) ?_
      show Steps p.tables e below (s₁.setTop (mkF m 17 #[.val (.double p1), .second] [(.int (0 : Int32))])) _
      exact retN X0 hx (t := .boolean) Bd.returns (by simp) (hb hby d1_17) hr
    · refine XS.ifNo X0.here hx rfl (hb hby d1_3) rfl ((if0 _ _).trans (flt h1).1) ?_
      show Steps p.tables e below (s₁.setTop (mkF m 6 #[.val (.double p1), .second] [])) _
      refine XS.dloadN X0.here hx rfl (hb hby d1_6) rfl ?_
      show Steps p.tables e below (s₁.setTop (mkF m 7 #[.val (.double p1), .second] [(.double p1)])) _
      refine XS.dconst1 X0.here hx rfl (hb hby d1_7) rfl ?_
      show Steps p.tables e below (s₁.setTop (mkF m 8 #[.val (.double p1), .second] [(.double FP.dconst1), (.double p1)])) _
      refine XS.dcmpS X0.here hx rfl (hb hby d1_8) rfl rfl ?_
      show Steps p.tables e below (s₁.setTop (mkF m 9 #[.val (.double p1), .second] [(.int (cmpValue (FP.dcmp p1 FP.dconst1) .g))])) _
      by_cases h2 : cmpValue (FP.dcmp p1 FP.dconst1) .g < 0
      · have hv : own_damp p1 = nar .boolean 1 := by unfold own_damp; rw [if_neg h1, if_pos h2]; rfl
        rw [hv] at hr
        refine XS.ifNo X0.here hx rfl (hb hby d1_9) rfl ((if0 _ _).trans (tlt h2).2.1) ?_
        show Steps p.tables e below (s₁.setTop (mkF m 12 #[.val (.double p1), .second] [])) _
        refine XS.iconst X0.here hx rfl (hb hby d1_12) ?_
        show Steps p.tables e below (s₁.setTop (mkF m 13 #[.val (.double p1), .second] [(.int (1 : Int32))])) _
        refine XS.goto X0.here hx rfl (pc0 := 13) (pc' := 17) rfl (hb hby d1_13) (by decide) (by decide) ?_
        show Steps p.tables e below (s₁.setTop (mkF m 17 #[.val (.double p1), .second] [(.int (1 : Int32))])) _
        exact retN X0 hx (t := .boolean) Bd.returns (by simp) (hb hby d1_17) hr
      · have hv : own_damp p1 = nar .boolean 0 := by unfold own_damp; rw [if_neg h1, if_neg h2]; rfl
        rw [hv] at hr
        refine XS.ifYes X0.here hx rfl (pc0 := 9) (pc' := 16) rfl (hb hby d1_9) rfl ((if0 _ _).trans (flt h2).2.1) (by decide) (by decide) ?_
        show Steps p.tables e below (s₁.setTop (mkF m 16 #[.val (.double p1), .second] [])) _
        refine XS.iconst X0.here hx rfl (hb hby d1_16) ?_
        show Steps p.tables e below (s₁.setTop (mkF m 17 #[.val (.double p1), .second] [(.int (0 : Int32))])) _
        exact retN X0 hx (t := .boolean) Bd.returns (by simp) (hb hby d1_17) hr
  · show Q1 p1 h0 n0 _ s₁.heap _
    rw [e0]
    exact ⟨rfl, N0, rfl⟩
def Q0 (h0 : Heap) (n0 : Nat) (v : Option Value) (h : Heap) (L : List Loc) : Prop := v = some (.int (1 : Int32)) ∧ Fr n0 L ∧ h = h0
set_option maxRecDepth 65536 in
set_option maxHeartbeats 40000000 in
theorem rm0 (l : Launch) (Z : State) (a0 : Array Value) (hw : ∀ d ∈ tables_1, d.before a0 Z = true) (ws : List Jvm.Cond) (p1 : Int32) (p2 : Int32) (h0 : Heap) (n0 : Nat) (Z0 : n0 ≤ h0.size) :
    MetFree l x (head1 (Jvm.Cond.code x code maxLocals ret :: ws) room_1) (fun a U => a = #[(.int p1), (.int p2)] ∧ Z.Warmed39 U.vm ∧ U.heap = h0) (fun _ _ _ _ _ => True) (fun _ U o U' => ∃ v L, o = .returned v ∧ Q0 h0 n0 v U'.heap L ∧ FrameEnd U o U' L room_1.cells room_1.slots) := by
  refine MetFree.of_bodySF (plainFor_of_name pn_0) hisR ?_
  intro p e s m args below meth c s₁ Bd hml0 hP hK
  obtain ⟨rfl, hZ, hh⟩ := hP
  have hx := Bd.exec
  have hby := Bd.bytes
  have hml : c.maxLocals = 5 := hml0
  have hown : s.vm.findClass "com/example/kereso/kereso/service/PageRankIsDampingPinLaw" = some m.cls := findClass_of_methodNamed Bd.named
  have X0 : Stand p l e room_1 s m #[(.int p1), (.int p2)] below meth c s₁ [] 0 0 := Stand.of_body Bd
  have e0 : s₁.heap = h0 := by rw [← hh, Bd.state]; rfl
  have N0 := Fr.nil n0
  have pre0 : ∀ t, Steps p.tables e below (s₁.setTop (mkF m 0 #[.val (.int p1), .val (.int p2), .unset, .unset, .unset] [])) t → Steps p.tables e below (s₁.setTop (entryFrame m #[(.int p1), (.int p2)] maxLocals)) t := fun t k => castTop (ef_0 m p1 p2) k
  by_cases hm : p2 = 0
  · obtain ⟨fs, hr, hrun, hended, hW, hsame⟩ := X0.leave (v := some (.int (1 : Int32))) (fun h => by rw [Bd.returns] at h; cases h)
    refine ⟨_, _, pre0 _ ?_, hrun, hended, _, _, rfl, ?_, ⟨_, rfl⟩, hW, hsame.mono (by decide) (by decide)⟩
    · show Steps p.tables e below (s₁.setTop (mkF m 0 #[.val (.int p1), .val (.int p2), .unset, .unset, .unset] [])) _
      refine XS.iloadN X0.here hx rfl (hb hby at_0) rfl ?_
      show Steps p.tables e below (s₁.setTop (mkF m 1 #[.val (.int p1), .val (.int p2), .unset, .unset, .unset] [(.int p2)])) _
      refine XS.ifNo X0.here hx rfl (hb hby at_1) rfl ((if0 _ _).trans (teq hm).2) ?_
      show Steps p.tables e below (s₁.setTop (mkF m 4 #[.val (.int p1), .val (.int p2), .unset, .unset, .unset] [])) _
      refine XS.iconst X0.here hx rfl (hb hby at_4) ?_
      show Steps p.tables e below (s₁.setTop (mkF m 5 #[.val (.int p1), .val (.int p2), .unset, .unset, .unset] [(.int (1 : Int32))])) _
      exact retN X0 hx (t := .boolean) Bd.returns (by simp) (hb hby at_5) hr
    · show Q0 h0 n0 _ s₁.heap _
      rw [e0]
      exact ⟨rfl, N0, rfl⟩
  · have hnn : Jvm.Free.Fl.NoNaN64 (FP.ddiv (FP.i2d p1) (FP.i2d p2)) := Jvm.Free.Fl.ddiv_out (Jvm.Free.Fl.i2d_fin p1).noNaN (Jvm.Free.Fl.i2d_fin p2) (Jvm.Free.Fl.i2d_nz hm)
    have hlaw0 : own_damp (FP.ddiv (FP.i2d p1) (FP.i2d p2)) = own_exp p1 p2 := own_law p1 p2 hm
    obtain ⟨q, hq⟩ : ∃ q, (FP.ddiv (FP.i2d p1) (FP.i2d p2)) = q := ⟨_, rfl⟩
    rw [hq] at hlaw0
    have hmid : ∀ t, Steps p.tables e below (s₁.setTop (mkF m 51 #[.val (.int p1), .val (.int p2), .val (.double q), .second, .val (.int (own_exp p1 p2))] [])) t → Steps p.tables e below (s₁.setTop (mkF m 12 #[.val (.int p1), .val (.int p2), .val (.double q), .second, .unset] [])) t := by
      intro t hk
      refine XS.iloadN X0.here hx rfl (hb hby at_12) rfl ?_
      show Steps p.tables e below (s₁.setTop (mkF m 13 #[.val (.int p1), .val (.int p2), .val (.double q), .second, .unset] [(.int p2)])) _
      by_cases g1 : (0 : Int32) < p2
      · have q1 := (tlt g1).2.2.2
        refine XS.ifNo X0.here hx rfl (hb hby at_13) rfl ((if0 _ _).trans q1) ?_
        show Steps p.tables e below (s₁.setTop (mkF m 16 #[.val (.int p1), .val (.int p2), .val (.double q), .second, .unset] [])) _
        refine XS.iloadN X0.here hx rfl (hb hby at_16) rfl ?_
        show Steps p.tables e below (s₁.setTop (mkF m 17 #[.val (.int p1), .val (.int p2), .val (.double q), .second, .unset] [(.int p1)])) _
        by_cases g2 : p1 < (0 : Int32)
        · skip
          have hv : own_exp p1 p2 = 0 := by unfold own_exp; rw [if_pos g1, if_pos g2]
          rw [hv] at hk
          refine XS.ifYes X0.here hx rfl (pc0 := 17) (pc' := 29) rfl (hb hby at_17) rfl ((if0 _ _).trans (tlt g2).1) (by decide) (by decide) ?_
          show Steps p.tables e below (s₁.setTop (mkF m 29 #[.val (.int p1), .val (.int p2), .val (.double q), .second, .unset] [])) _
          refine XS.iconst X0.here hx rfl (hb hby at_29) ?_
          show Steps p.tables e below (s₁.setTop (mkF m 30 #[.val (.int p1), .val (.int p2), .val (.double q), .second, .unset] [(.int (0 : Int32))])) _
          refine XS.istore X0.here hx rfl (hb hby at_30) rfl (l' := #[.val (.int p1), .val (.int p2), .val (.double q), .second, .val (.int (0 : Int32))]) rfl ?_
          show Steps p.tables e below (s₁.setTop (mkF m 32 #[.val (.int p1), .val (.int p2), .val (.double q), .second, .val (.int (0 : Int32))] [])) _
          refine XS.goto X0.here hx rfl (pc0 := 32) (pc' := 51) rfl (hb hby at_32) (by decide) (by decide) ?_
          show Steps p.tables e below (s₁.setTop (mkF m 51 #[.val (.int p1), .val (.int p2), .val (.double q), .second, .val (.int (0 : Int32))] [])) _
          exact hk
        · skip
          refine XS.ifNo X0.here hx rfl (hb hby at_17) rfl ((if0 _ _).trans (flt g2).1) ?_
          show Steps p.tables e below (s₁.setTop (mkF m 20 #[.val (.int p1), .val (.int p2), .val (.double q), .second, .unset] [])) _
          refine XS.iloadN X0.here hx rfl (hb hby at_20) rfl ?_
          show Steps p.tables e below (s₁.setTop (mkF m 21 #[.val (.int p1), .val (.int p2), .val (.double q), .second, .unset] [(.int p1)])) _
          refine XS.iloadN X0.here hx rfl (hb hby at_21) rfl ?_
          show Steps p.tables e below (s₁.setTop (mkF m 22 #[.val (.int p1), .val (.int p2), .val (.double q), .second, .unset] [(.int p2), (.int p1)])) _
          by_cases g3 : p1 < p2
          · skip
            have hv : own_exp p1 p2 = 1 := by unfold own_exp; rw [if_pos g1, if_neg g2, if_pos g3]
            rw [hv] at hk
            refine XS.icmpNo X0.here hx rfl (hb hby at_22) rfl (tlt g3).2.1 ?_
            show Steps p.tables e below (s₁.setTop (mkF m 25 #[.val (.int p1), .val (.int p2), .val (.double q), .second, .unset] [])) _
            refine XS.iconst X0.here hx rfl (hb hby at_25) ?_
            show Steps p.tables e below (s₁.setTop (mkF m 26 #[.val (.int p1), .val (.int p2), .val (.double q), .second, .unset] [(.int (1 : Int32))])) _
            refine XS.goto X0.here hx rfl (pc0 := 26) (pc' := 30) rfl (hb hby at_26) (by decide) (by decide) ?_
            show Steps p.tables e below (s₁.setTop (mkF m 30 #[.val (.int p1), .val (.int p2), .val (.double q), .second, .unset] [(.int (1 : Int32))])) _
            refine XS.istore X0.here hx rfl (hb hby at_30) rfl (l' := #[.val (.int p1), .val (.int p2), .val (.double q), .second, .val (.int (1 : Int32))]) rfl ?_
            show Steps p.tables e below (s₁.setTop (mkF m 32 #[.val (.int p1), .val (.int p2), .val (.double q), .second, .val (.int (1 : Int32))] [])) _
            refine XS.goto X0.here hx rfl (pc0 := 32) (pc' := 51) rfl (hb hby at_32) (by decide) (by decide) ?_
            show Steps p.tables e below (s₁.setTop (mkF m 51 #[.val (.int p1), .val (.int p2), .val (.double q), .second, .val (.int (1 : Int32))] [])) _
            exact hk
          · skip
            have hv : own_exp p1 p2 = 0 := by unfold own_exp; rw [if_pos g1, if_neg g2, if_neg g3]
            rw [hv] at hk
            refine XS.icmpYes X0.here hx rfl (pc0 := 22) (pc' := 29) rfl (hb hby at_22) rfl (flt g3).2.1 (by decide) (by decide) ?_
            show Steps p.tables e below (s₁.setTop (mkF m 29 #[.val (.int p1), .val (.int p2), .val (.double q), .second, .unset] [])) _
            refine XS.iconst X0.here hx rfl (hb hby at_29) ?_
            show Steps p.tables e below (s₁.setTop (mkF m 30 #[.val (.int p1), .val (.int p2), .val (.double q), .second, .unset] [(.int (0 : Int32))])) _
            refine XS.istore X0.here hx rfl (hb hby at_30) rfl (l' := #[.val (.int p1), .val (.int p2), .val (.double q), .second, .val (.int (0 : Int32))]) rfl ?_
            show Steps p.tables e below (s₁.setTop (mkF m 32 #[.val (.int p1), .val (.int p2), .val (.double q), .second, .val (.int (0 : Int32))] [])) _
            refine XS.goto X0.here hx rfl (pc0 := 32) (pc' := 51) rfl (hb hby at_32) (by decide) (by decide) ?_
            show Steps p.tables e below (s₁.setTop (mkF m 51 #[.val (.int p1), .val (.int p2), .val (.double q), .second, .val (.int (0 : Int32))] [])) _
            exact hk
      · have q1 := (flt g1).2.2.2
        refine XS.ifYes X0.here hx rfl (pc0 := 13) (pc' := 35) rfl (hb hby at_13) rfl ((if0 _ _).trans q1) (by decide) (by decide) ?_
        show Steps p.tables e below (s₁.setTop (mkF m 35 #[.val (.int p1), .val (.int p2), .val (.double q), .second, .unset] [])) _
        refine XS.iloadN X0.here hx rfl (hb hby at_35) rfl ?_
        show Steps p.tables e below (s₁.setTop (mkF m 36 #[.val (.int p1), .val (.int p2), .val (.double q), .second, .unset] [(.int p1)])) _
        by_cases g2 : (0 : Int32) < p1
        · skip
          have hv : own_exp p1 p2 = 0 := by unfold own_exp; rw [if_neg g1, if_pos g2]
          rw [hv] at hk
          refine XS.ifYes X0.here hx rfl (pc0 := 36) (pc' := 48) rfl (hb hby at_36) rfl ((if0 _ _).trans (tlt g2).2.2.1) (by decide) (by decide) ?_
          show Steps p.tables e below (s₁.setTop (mkF m 48 #[.val (.int p1), .val (.int p2), .val (.double q), .second, .unset] [])) _
          refine XS.iconst X0.here hx rfl (hb hby at_48) ?_
          show Steps p.tables e below (s₁.setTop (mkF m 49 #[.val (.int p1), .val (.int p2), .val (.double q), .second, .unset] [(.int (0 : Int32))])) _
          refine XS.istore X0.here hx rfl (hb hby at_49) rfl (l' := #[.val (.int p1), .val (.int p2), .val (.double q), .second, .val (.int (0 : Int32))]) rfl ?_
          show Steps p.tables e below (s₁.setTop (mkF m 51 #[.val (.int p1), .val (.int p2), .val (.double q), .second, .val (.int (0 : Int32))] [])) _
          exact hk
        · skip
          refine XS.ifNo X0.here hx rfl (hb hby at_36) rfl ((if0 _ _).trans (flt g2).2.2.1) ?_
          show Steps p.tables e below (s₁.setTop (mkF m 39 #[.val (.int p1), .val (.int p2), .val (.double q), .second, .unset] [])) _
          refine XS.iloadN X0.here hx rfl (hb hby at_39) rfl ?_
          show Steps p.tables e below (s₁.setTop (mkF m 40 #[.val (.int p1), .val (.int p2), .val (.double q), .second, .unset] [(.int p1)])) _
          refine XS.iloadN X0.here hx rfl (hb hby at_40) rfl ?_
          show Steps p.tables e below (s₁.setTop (mkF m 41 #[.val (.int p1), .val (.int p2), .val (.double q), .second, .unset] [(.int p2), (.int p1)])) _
          by_cases g3 : p2 < p1
          · skip
            have hv : own_exp p1 p2 = 1 := by unfold own_exp; rw [if_neg g1, if_neg g2, if_pos g3]
            rw [hv] at hk
            refine XS.icmpNo X0.here hx rfl (hb hby at_41) rfl (tlt g3).2.2.2 ?_
            show Steps p.tables e below (s₁.setTop (mkF m 44 #[.val (.int p1), .val (.int p2), .val (.double q), .second, .unset] [])) _
            refine XS.iconst X0.here hx rfl (hb hby at_44) ?_
            show Steps p.tables e below (s₁.setTop (mkF m 45 #[.val (.int p1), .val (.int p2), .val (.double q), .second, .unset] [(.int (1 : Int32))])) _
            refine XS.goto X0.here hx rfl (pc0 := 45) (pc' := 49) rfl (hb hby at_45) (by decide) (by decide) ?_
            show Steps p.tables e below (s₁.setTop (mkF m 49 #[.val (.int p1), .val (.int p2), .val (.double q), .second, .unset] [(.int (1 : Int32))])) _
            refine XS.istore X0.here hx rfl (hb hby at_49) rfl (l' := #[.val (.int p1), .val (.int p2), .val (.double q), .second, .val (.int (1 : Int32))]) rfl ?_
            show Steps p.tables e below (s₁.setTop (mkF m 51 #[.val (.int p1), .val (.int p2), .val (.double q), .second, .val (.int (1 : Int32))] [])) _
            exact hk
          · skip
            have hv : own_exp p1 p2 = 0 := by unfold own_exp; rw [if_neg g1, if_neg g2, if_neg g3]
            rw [hv] at hk
            refine XS.icmpYes X0.here hx rfl (pc0 := 41) (pc' := 48) rfl (hb hby at_41) rfl (flt g3).2.2.2 (by decide) (by decide) ?_
            show Steps p.tables e below (s₁.setTop (mkF m 48 #[.val (.int p1), .val (.int p2), .val (.double q), .second, .unset] [])) _
            refine XS.iconst X0.here hx rfl (hb hby at_48) ?_
            show Steps p.tables e below (s₁.setTop (mkF m 49 #[.val (.int p1), .val (.int p2), .val (.double q), .second, .unset] [(.int (0 : Int32))])) _
            refine XS.istore X0.here hx rfl (hb hby at_49) rfl (l' := #[.val (.int p1), .val (.int p2), .val (.double q), .second, .val (.int (0 : Int32))]) rfl ?_
            show Steps p.tables e below (s₁.setTop (mkF m 51 #[.val (.int p1), .val (.int p2), .val (.double q), .second, .val (.int (0 : Int32))] [])) _
            exact hk
    obtain ⟨_, _, ⟨T1, L1, k1, n1⟩, -, X1, ⟨Lc1, hQ1, l1, y1, z1⟩, st1⟩ := Jvm.LawKit.callS X0 hx (y := (⟨"com/example/kereso/kereso/service/PageRank", "isDamping", "(D)Z"⟩ : MethodName)) hown (mvT hZ (hw _ (List.mem_of_getElem? (i := 0) rfl))) (mvT hZ (hw _ (List.mem_of_getElem? (i := 1) rfl))) (mvT hZ (hw _ (List.mem_of_getElem? (i := 2) rfl))) (mvT hZ (hw _ (List.mem_of_getElem? (i := 3) rfl))) (by decide) (backOf (W := 0) (rm1 l Z a0 hw [] q h0 n0 Z0) hZ (hw _ (List.mem_of_getElem? (i := 3) rfl)) (hw _ (List.mem_of_getElem? (i := 2) rfl)) (by decide) (by decide)) (g := (mkF m 52 #[.val (.int p1), .val (.int p2), .val (.double q), .second, .val (.int (own_exp p1 p2))] [(.double q)])) rfl (by rw [hml]; rfl) (argsL := [(.double q)]) (rest := []) (lenOf pd_1 rfl) rfl (by show 2 * 0 + _ ≤ _; exact Nat.le_of_eq rfl) (hb hby at_52) (fun _ _ => ⟨rfl, e0, (by decide : 0 + 0 ≤ _), (by decide : 0 + 0 ≤ _)⟩)
    dsimp only [Pt.U, Pt.locs, Pt.cells, Pt.slots] at X1 l1 y1 z1 st1 hQ1
    subst l1 y1 z1
    obtain ⟨rfl, N1, e1⟩ := hQ1
    have N2 := Fr.app N0 N1
    have hlaw : own_damp q = own_exp p1 p2 := hlaw0
    obtain ⟨fs, hr, hrun, hended, hW, hsame⟩ := X1.leave (v := some (.int (1 : Int32))) (fun h => by rw [Bd.returns] at h; cases h)
    refine ⟨_, _, pre0 _ ?_, hrun, hended, _, _, rfl, ?_, ⟨_, rfl⟩, hW, hsame.mono (by decide) (by decide)⟩
    · show Steps p.tables e below (s₁.setTop (mkF m 0 #[.val (.int p1), .val (.int p2), .unset, .unset, .unset] [])) _
      refine XS.iloadN X0.here hx rfl (hb hby at_0) rfl ?_
      show Steps p.tables e below (s₁.setTop (mkF m 1 #[.val (.int p1), .val (.int p2), .unset, .unset, .unset] [(.int p2)])) _
      refine XS.ifYes X0.here hx rfl (pc0 := 1) (pc' := 6) rfl (hb hby at_1) rfl ((if0 _ _).trans (feq hm).2) (by decide) (by decide) ?_
      show Steps p.tables e below (s₁.setTop (mkF m 6 #[.val (.int p1), .val (.int p2), .unset, .unset, .unset] [])) _
      refine XS.iloadN X0.here hx rfl (hb hby at_6) rfl ?_
      show Steps p.tables e below (s₁.setTop (mkF m 7 #[.val (.int p1), .val (.int p2), .unset, .unset, .unset] [(.int p1)])) _
      refine XS.i2dS X0.here hx rfl (hb hby at_7) rfl rfl ?_
      show Steps p.tables e below (s₁.setTop (mkF m 8 #[.val (.int p1), .val (.int p2), .unset, .unset, .unset] [(.double (FP.i2d p1))])) _
      refine XS.iloadN X0.here hx rfl (hb hby at_8) rfl ?_
      show Steps p.tables e below (s₁.setTop (mkF m 9 #[.val (.int p1), .val (.int p2), .unset, .unset, .unset] [(.int p2), (.double (FP.i2d p1))])) _
      refine XS.i2dS X0.here hx rfl (hb hby at_9) rfl rfl ?_
      show Steps p.tables e below (s₁.setTop (mkF m 10 #[.val (.int p1), .val (.int p2), .unset, .unset, .unset] [(.double (FP.i2d p2)), (.double (FP.i2d p1))])) _
      refine XS.ddivS X0.here hx rfl (hb hby at_10) rfl hnn hq ?_
      show Steps p.tables e below (s₁.setTop (mkF m 11 #[.val (.int p1), .val (.int p2), .unset, .unset, .unset] [(.double q)])) _
      refine XS.dstoreN X0.here hx rfl (hb hby at_11) rfl (l' := #[.val (.int p1), .val (.int p2), .val (.double q), .second, .unset]) rfl ?_
      show Steps p.tables e below (s₁.setTop (mkF m 12 #[.val (.int p1), .val (.int p2), .val (.double q), .second, .unset] [])) _
      refine hmid _ ?_
      show Steps p.tables e below (s₁.setTop (mkF m 51 #[.val (.int p1), .val (.int p2), .val (.double q), .second, .val (.int (own_exp p1 p2))] [])) _
      refine XS.dloadN X0.here hx rfl (hb hby at_51) rfl ?_
      show Steps p.tables e below (s₁.setTop (mkF m 52 #[.val (.int p1), .val (.int p2), .val (.double q), .second, .val (.int (own_exp p1 p2))] [(.double q)])) _
      refine st1 _ ?_
      show Steps p.tables e below (T1.setTop (mkF m 55 #[.val (.int p1), .val (.int p2), .val (.double q), .second, .val (.int (own_exp p1 p2))] [(.int (own_damp q))])) _
      refine XS.iload X1.here hx rfl (hb hby at_55) rfl ?_
      show Steps p.tables e below (T1.setTop (mkF m 57 #[.val (.int p1), .val (.int p2), .val (.double q), .second, .val (.int (own_exp p1 p2))] [(.int (own_exp p1 p2)), (.int (own_damp q))])) _
      refine XS.icmpNo X1.here hx rfl (hb hby at_57) rfl (teq hlaw).2 ?_
      show Steps p.tables e below (T1.setTop (mkF m 60 #[.val (.int p1), .val (.int p2), .val (.double q), .second, .val (.int (own_exp p1 p2))] [])) _
      refine XS.iconst X1.here hx rfl (hb hby at_60) ?_
      show Steps p.tables e below (T1.setTop (mkF m 61 #[.val (.int p1), .val (.int p2), .val (.double q), .second, .val (.int (own_exp p1 p2))] [(.int (1 : Int32))])) _
      refine XS.goto X1.here hx rfl (pc0 := 61) (pc' := 65) rfl (hb hby at_61) (by decide) (by decide) ?_
      show Steps p.tables e below (T1.setTop (mkF m 65 #[.val (.int p1), .val (.int p2), .val (.double q), .second, .val (.int (own_exp p1 p2))] [(.int (1 : Int32))])) _
      exact retN X1 hx (t := .boolean) Bd.returns (by simp) (hb hby at_65) hr
    · show Q0 h0 n0 _ T1.heap _
      rw [e1]
      exact ⟨rfl, N2, rfl⟩
set_option maxRecDepth 65536 in
set_option maxHeartbeats 40000000 in
theorem comes_1 {Post : Tables → Env → Array Value → State → Outcome → State → Prop} (hpost : ∀ tb e args s v u, (limb_1_1.after args s (.returned v) u = true ∧ limb_1_2.after args s (.returned v) u = true ∧ True) → FrameEnd s (.returned v) u (Jvm.fieldLocs frame_1_writes args s ++ Jvm.arrayLocs frame_1_arrays args s ++ Jvm.staticLocs frame_1_statics s) 0 0 → Post tb e args s (.returned v) u) :
    ArmFor flags0 classFile x code maxLocals ret World_1 tables_1 room_1 Calls_1 rest_1 Pre_1 Post := by
  intro l hfl _ _ p e ha hc hk s m args below hf hA hF happ hP
  obtain ⟨hcalls, hrest, hpre⟩ := hP
  obtain ⟨-, -, -, hnamed, -, -, -, hat⟩ := (Spec.applies_iff hf).mp happ
  obtain ⟨hg, hn⟩ := and_e (Cond.before_iff.mp (show (Jvm.Cond.and given_1 narrow_1).before args s = true from hpre))
  obtain ⟨h1, h2⟩ := and_e hg
  obtain ⟨h3, h4⟩ := and_e h2
  obtain ⟨w0, w1, rfl⟩ : ∃ w0 w1 : Value, args = #[w0, w1] := by
    have hs : args.size = 2 := by simpa [Cond.value, given_1] using h1
    obtain ⟨L⟩ := args
    match L, hs with
    | [w0, w1], _ => exact ⟨w0, w1, rfl⟩
  have hw := fun d (hd : d ∈ tables_1) => atoms_spec (ws := Jvm.Cond.code x code maxLocals ret :: tables_1) hat d (List.mem_cons_of_mem _ hd)
  obtain ⟨i7, e6⟩ := is_v h3
  obtain rfl : w0 = (.int i7) := Option.some.inj e6
  obtain ⟨i9, e8⟩ := is_v h4
  obtain rfl : w1 = (.int i9) := Option.some.inj e8
  obtain ⟨n, o, h1, h2, h3, _, L, rfl, ⟨rfl, N, -⟩, hq⟩ := rm0 l s _ hw tables_1 i7 i9 s.heap s.heap.size (Nat.le_refl _) p e ha hc hk s m _ below hf ((Spec.applies_iff_loose hf).mp happ).1 ⟨rfl, State.Warmed39.refl s, rfl⟩ trivial
  refine ⟨n, _, h1, h2, h3, hpost _ _ _ _ _ _ ⟨Cond.after_iff.mpr rfl, Cond.after_iff.mpr (eq_i res_at (Term.int_eval (1)) rfl), trivial⟩ ⟨hq.1, hq.2.1, (hq.2.2.sift fun y hy => Or.inr (N y hy)).mono (by decide) (by decide)⟩⟩
theorem main_1_1 : Claimed_1_1 := comes_1 fun _ _ _ _ _ _ h hF => ⟨h.1, hF⟩
theorem main_1_2 : Claimed_1_2 := comes_1 fun _ _ _ _ _ _ h hF => ⟨h.2.1, hF⟩
end Jvm.Pilot.@@N@@
namespace Jvm.Pilot.@@N@@
open Jvm Jvm.ClassFile Sem Op Lib Jvm.Free Jvm.Stand Jvm.Pilot.@@N@@.Jvm.D
/-! MADE BY PROGRAM (witnessworld.py) out of the Statement's table words and the real class files: 9 classes; the members and pool entries that the words name. The judged class is class 1, her method 1. -/
namespace start1
open Jvm.ClassFile
def u (s : String) : CpInfo := .utf8 (stringToUtf16 s)
/-- a pool by its gaps: so many unusable entries, then the entry; so many at the end -/
def gap : Nat → List CpInfo → List CpInfo
  | 0, r => r
  | n + 1, r => .unusable :: gap n r
def poolList (es : List (Nat × CpInfo)) (last : Nat) : List CpInfo := es.foldr (fun e r => gap e.1 (e.2 :: r)) (gap last [])
def pool (es : List (Nat × CpInfo)) (last : Nat) : Array CpInfo := ⟨poolList es last⟩
def fileOf (pool : Array CpInfo) (this : Nat) (attrs : Array Attribute := #[]) (ms : Array MethodInfo := #[]) (fl : Nat := 33) (sup : Nat := 0) (ifs : Array Nat := #[]) (fds : Array FieldInfo := #[]) : ClassFile where
  minorVersion := 0
  majorVersion := 65
  constantPool := pool
  accessFlags := fl
  thisClass := this
  superClass := sup
  interfaces := ifs
  fields := fds
  methods := ms
  attributes := attrs
def plain (name : String) (sup : Option ClassId) : Class where
  name := name
  kind := .ordinary
  loader := none
  accessFlags := 33
  super := sup
  interfaces := #[]
  cf := none
  fields := #[]
  methods := #[]
  instanceTypes := #[]
  staticTypes := #[]
  resolved := #[]
  callSites := []
  init := .initialized
  statics := none
  mirror := none

def pool0 : Array CpInfo := pool [(5, u "<init>"), (0, u "()V"), (1, .class_ 10), (1, u "java/lang/Object")] 113

def k0m0 : Method := { name := "<init>", desc := "()V", sig := { parameters := [], returnType := none }, accessFlags := 1, code := none }
/-- java/lang/Object -/
def k0 : Class := { plain "java/lang/Object" none with
  accessFlags := 33
  interfaces := #[]
  cf := some (fileOf pool0 8 #[] #[{ accessFlags := 1, nameIndex := 5, descriptorIndex := 6, attributes := #[] }] 33 0 #[] #[])
  fields := #[]
  methods := #[k0m0]
  instanceTypes := #[]
  staticTypes := #[]
  resolved := Array.replicate 124 none
  statics := none }

def pool1 : Array CpInfo := pool [(2, .class_ 4), (1, u "java/lang/Object"), (0, u "<init>"), (0, u "()V"), (0, .methodref 8 9), (0, .class_ 10), (0, .nameAndType 11 12), (0, u "com/example/kereso/kereso/service/PageRank"), (0, u "isDamping"), (0, u "(D)Z"), (0, .class_ 14), (0, u "com/example/kereso/kereso/service/PageRankIsDampingPinLaw"), (2, u "law"), (0, u "(II)Z")] 3

def k1m0 : Method := { name := "<init>", desc := "()V", sig := { parameters := [], returnType := none }, accessFlags := 2, code := none }
def k1c1 : Code := { maxStack := 4, maxLocals := 5, code := code, exceptionTable := #[], attributes := #[] }
def k1m1 : Method := { name := "law", desc := "(II)Z", sig := { parameters := [.int, .int], returnType := some .boolean }, accessFlags := 9, code := some k1c1 }
/-- com/example/kereso/kereso/service/PageRankIsDampingPinLaw -/
def k1 : Class := { plain "com/example/kereso/kereso/service/PageRankIsDampingPinLaw" (some 0) with
  accessFlags := 49
  interfaces := #[]
  cf := some (fileOf pool1 13 #[] #[{ accessFlags := 2, nameIndex := 5, descriptorIndex := 6, attributes := #[] }, { accessFlags := 9, nameIndex := 17, descriptorIndex := 18, attributes := #[] }] 49 2 #[] #[])
  fields := #[]
  methods := #[k1m0, k1m1]
  instanceTypes := #[]
  staticTypes := #[]
  resolved := Array.replicate 22 none
  statics := none }

def pool2 : Array CpInfo := pool [(2, .class_ 4), (1, u "java/lang/Object"), (0, u "<init>"), (0, u "()V"), (1, .class_ 10), (1, u "com/example/kereso/kereso/service/PageRank"), (0, u "isDamping"), (0, u "(D)Z"), (108, u "DEFAULT_DAMPING"), (0, u "D"), (3, u "TOLERANCE")] 43

def k2m0 : Method := { name := "<init>", desc := "()V", sig := { parameters := [], returnType := none }, accessFlags := 2, code := none }
def k2c1 : Code := { maxStack := 4, maxLocals := 2, code := prog_45_method_2_code, exceptionTable := #[], attributes := #[] }
def k2m1 : Method := { name := "isDamping", desc := "(D)Z", sig := { parameters := [.double], returnType := some .boolean }, accessFlags := 9, code := some k2c1 }
/-- com/example/kereso/kereso/service/PageRank -/
def k2 : Class := { plain "com/example/kereso/kereso/service/PageRank" (some 0) with
  accessFlags := 49
  interfaces := #[]
  cf := some (fileOf pool2 8 #[] #[{ accessFlags := 2, nameIndex := 5, descriptorIndex := 6, attributes := #[] }, { accessFlags := 9, nameIndex := 11, descriptorIndex := 12, attributes := #[] }] 49 2 #[] #[{ accessFlags := 25, nameIndex := 121, descriptorIndex := 122, attributes := #[] }, { accessFlags := 25, nameIndex := 126, descriptorIndex := 122, attributes := #[] }])
  fields := #[{ name := "DEFAULT_DAMPING", type := .double, accessFlags := 25, slot := 0, constantValue := 0 }, { name := "TOLERANCE", type := .double, accessFlags := 25, slot := 1, constantValue := 0 }]
  methods := #[k2m0, k2m1]
  instanceTypes := #[]
  staticTypes := #[.double, .double]
  resolved := Array.replicate 170 none
  statics := none }

def pool3 : Array CpInfo := pool [(1, u "java/lang/Cloneable"), (0, .class_ 1), (0, u "java/lang/Object"), (0, .class_ 3)] 3

/-- java/lang/Cloneable -/
def k3 : Class := { plain "java/lang/Cloneable" (some 0) with
  accessFlags := 1537
  interfaces := #[]
  cf := some (fileOf pool3 2 #[] #[] 1537 4 #[] #[])
  fields := #[]
  methods := #[]
  instanceTypes := #[]
  staticTypes := #[]
  resolved := Array.replicate 8 none
  statics := none }

def pool4 : Array CpInfo := pool [(1, u "java/io/Serializable"), (0, .class_ 1), (0, u "java/lang/Object"), (0, .class_ 3)] 3

/-- java/io/Serializable -/
def k4 : Class := { plain "java/io/Serializable" (some 0) with
  accessFlags := 1537
  interfaces := #[]
  cf := some (fileOf pool4 2 #[] #[] 1537 4 #[] #[])
  fields := #[]
  methods := #[]
  instanceTypes := #[]
  staticTypes := #[]
  resolved := Array.replicate 8 none
  statics := none }

/-- the primitive byte -/
def k5 : Class := { plain "byte" none with kind := .primitive 'B', accessFlags := 0x411 }
/-- [B -/
def k6 : Class := { plain "[B" (some 0) with kind := .array 5 .byte, interfaces := #[3, 4], accessFlags := 1041 }

/-- the primitive int -/
def k7 : Class := { plain "int" none with kind := .primitive 'I', accessFlags := 0x411 }
/-- [I -/
def k8 : Class := { plain "[I" (some 0) with kind := .array 7 .int, interfaces := #[3, 4], accessFlags := 1041 }

def heap : Heap := #[]
def classes : Array Class := #[k0, k1, k2, k3, k4, k5, k6, k7, k8]
def interned : List (Array UInt16 × Addr) := []
def slotsUsed : Nat := 0
def theMethod : MethodId := ⟨1, 1⟩
def args0 : Array Value := #[.int 5, .int 7]
def aboutOver (below : List Frame) : State where
  vm := { classes := classes, interned := interned.toArray }
  heap := heap
  slotsUsed := slotsUsed
  threads := #[{ frames := .invoking theMethod args0 :: below }]
def below0 : List Frame := [.native { method := ⟨0, 0⟩, args := #[] }]
def about1 : State := aboutOver below0
def p0 : Program := .bare "" "" ""
def e0 : Env := launch0.env 0 0 0
theorem w_frames : about1.frames = Frame.invoking theMethod args0 :: below0 := rfl
set_option maxRecDepth 65536 in
theorem w_args : argsFit about1.vm theMethod args0 = true := by decide +kernel
set_option maxRecDepth 65536 in
theorem w_heap : heapFits about1 = true := by decide +kernel
set_option maxRecDepth 65536 in
theorem w_runnable : about1.curStatus? = some .runnable := by decide +kernel
set_option maxRecDepth 65536 in
theorem w_alone : about1.alone = true := by decide +kernel
set_option maxRecDepth 65536 in
theorem w_named : about1.methodNamed? x = some theMethod := by decide +kernel
set_option maxRecDepth 65536 in
theorem w_hears : about1.hears theMethod below0 = true := by decide +kernel
set_option maxRecDepth 65536 in
theorem w_ripe : about1.ripe theMethod args0 below0 = true := by decide +kernel
theorem w_running : about1.status = .running := rfl
set_option maxRecDepth 65536 in
theorem w_room : about1.hasRoom e0.platform room_1 = true :=
  launch0.hasRoom_least _ room_1 (by decide +kernel) (by decide +kernel) (by decide +kernel) (by decide +kernel) (by decide +kernel) (by decide +kernel)
theorem allAtoms_all (ts : List Jvm.Cond) (a : Array Jvm.Value) (st : Jvm.State) : (allAtoms ts).before a st = ts.all (fun c => c.before a st) := by
  induction ts with
  | nil => rfl
  | cons c t ih =>
    show (Jvm.Cond.and c (allAtoms t)).before a st = _
    rw [Jvm.Cond.before_and, ih, List.all_cons]
def words1 : List Jvm.Cond := Jvm.Cond.code x code maxLocals ret :: tables_1
/-- a 'code' word, met by the world's own term for the bytes: nothing is compared byte by byte -/
theorem code_word {y : MethodName} {bytes : ByteArray} {mx : Nat} {rt : Option FieldType} {a : Array Value} {s : State} {m : MethodId} {meth : Method} {c : Code} (h1 : s.methodNamed? y = some m) (h2 : s.vm.method? m = some meth) (h3 : meth.code = some c) (h4 : c.code = bytes)
    (h5 : (c.maxLocals == mx && c.exceptionTable.isEmpty && decide (c.maxStack ≤ mostOperands) && decide (meth.sig.returnType = rt) && !meth.locks && decide (parseMethodDescriptor y.desc = some meth.sig)) = true) : (Jvm.Cond.code y bytes mx rt).before a s = true := by
  simp only [Bool.and_eq_true, beq_iff_eq, Bool.not_eq_true', decide_eq_true_eq] at h5
  obtain ⟨⟨⟨⟨⟨g1, g2⟩, g3⟩, g4⟩, g5⟩, g6⟩ := h5
  simp [Cond.before, Cond.holds, Cond.value, h1, h2, h3, h4, g1, g2, g3, g4, g5, g6]
def isCode : Jvm.Cond → Bool
  | .code _ _ _ _ => true
  | _ => false
theorem all_split {L : List Jvm.Cond} {P : Jvm.Cond → Bool} (h1 : L.all (fun c => isCode c || P c) = true) (h2 : ∀ c ∈ L.filter isCode, P c = true) : L.all P = true := by
  refine List.all_eq_true.mpr fun c hc => ?_
  have h := List.all_eq_true.mp h1 c hc
  rcases Bool.eq_false_or_eq_true (isCode c) with hi | hi
  · exact h2 c (List.mem_filter.mpr ⟨hc, hi⟩)
  · simpa [hi] using h
set_option maxRecDepth 65536 in
theorem w_c0 : (Jvm.Cond.code x code maxLocals ret).before args0 about1 = true := code_word (m := ⟨1, 1⟩) (meth := k1m1) (c := k1c1) (by decide +kernel) rfl rfl rfl (by decide +kernel)
set_option maxRecDepth 65536 in
theorem w_c1 : (Jvm.Cond.code ({ cls := "com/example/kereso/kereso/service/PageRank", name := "isDamping", desc := "(D)Z" } : Jvm.MethodName) prog_45_method_2_code (2 : Nat) (Option.some Jvm.ClassFile.FieldType.boolean)).before args0 about1 = true := code_word (m := ⟨2, 1⟩) (meth := k2m1) (c := k2c1) (by decide +kernel) rfl rfl rfl (by decide +kernel)
def codes1 : List Jvm.Cond := [Jvm.Cond.code x code maxLocals ret, Jvm.Cond.code ({ cls := "com/example/kereso/kereso/service/PageRank", name := "isDamping", desc := "(D)Z" } : Jvm.MethodName) prog_45_method_2_code (2 : Nat) (Option.some Jvm.ClassFile.FieldType.boolean)]
set_option maxRecDepth 65536 in
theorem codes_eq : words1.filter isCode = codes1 := rfl
theorem w_codes : ∀ c ∈ words1.filter isCode, c.before args0 about1 = true := by
  rw [codes_eq]
  intro c hc
  simp only [codes1, List.mem_cons, List.not_mem_nil, or_false] at hc
  rcases hc with rfl | rfl
  · exact w_c0
  · exact w_c1
set_option maxRecDepth 65536 in
theorem w_t1 : words1.all (fun c => isCode c || c.before args0 about1) = true := by decide +kernel
theorem w_tables : (allAtoms (Jvm.Cond.code x code maxLocals ret :: tables_1)).before args0 about1 = true := by
  rw [allAtoms_all]
  show words1.all (fun c => c.before args0 about1) = true
  refine all_split ?_ w_codes
  rw [w_t1]
set_option maxRecDepth 65536 in
theorem w_case : (Jvm.Cond.and given_1 narrow_1).before args0 about1 = true := by decide +kernel
theorem w_applies : (headSpec (Jvm.Cond.code x code maxLocals ret :: tables_1) room_1).applies x e0.platform about1 = true :=
  (Spec.applies_iff w_frames).mpr ⟨w_running, w_runnable, w_alone, w_named, w_hears, w_ripe, w_room, w_tables⟩
theorem atStart : AtStart classFile x code maxLocals ret World_1 tables_1 room_1 Calls_1 rest_1 Pre_1 launch0 p0 e0 about1 theMethod args0 below0 :=
  ⟨lists_1, trivial, launch0.admits_env _ _ _, launch0.least_env, fairChoices_fair.cas, fairChoices_fair.clock, w_frames, w_args, w_heap, w_applies, trivial, trivial, w_case⟩
end start1
theorem witness_1 : WitnessClaimed_1 := ⟨start1.p0, start1.e0, start1.about1, start1.theMethod, start1.args0, start1.below0, start1.atStart⟩
end Jvm.Pilot.@@N@@
