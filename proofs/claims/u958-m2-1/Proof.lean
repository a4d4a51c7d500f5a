import JvmDerived
import JvmDerived.Pilot.@@N@@Statement
import JvmDerived.Pilot.@@N@@Code
set_option linter.unusedVariables false
set_option linter.unusedSimpArgs false
namespace Jvm.Pilot.@@N@@
/-! 1. THE PLAIN LAW: where the rounded differences lie -/
section Own
open Jvm.FP.Core
/-- 1e-9, 5e-10, 2e-9, by their bits -/
def own_t : UInt64 := 4472406533629990549
def own_k1 : UInt64 := 4467902934002620053
def own_k2 : UInt64 := 4476910133257361045
theorem own_tfin : DFin own_t := ⟨false, 4835703278458517, -82, by decide +kernel⟩
theorem own_k1fin : DFin own_k1 := ⟨false, 4835703278458517, -83, by decide +kernel⟩
theorem own_k2fin : DFin own_k2 := ⟨false, 4835703278458517, -81, by decide +kernel⟩
/-- 2^-32, in units; the constants' worth is held between multiples of it -/
def own_P : Int := ((2 ^ 1042 : Nat) : Int)
theorem own_pos : 0 < own_P := by decide +kernel
theorem own_tlo : 3 * own_P ≤ zval b64 (val64 own_t) := by decide +kernel
theorem own_thi : zval b64 (val64 own_t) ≤ 6 * own_P := by decide +kernel
theorem own_k1hi : zval b64 (val64 own_k1) ≤ 3 * own_P := by decide +kernel
theorem own_k2lo : 7 * own_P ≤ zval b64 (val64 own_k2) := by decide +kernel
theorem own_one : (one64 : Int) = 4294967296 * own_P := by decide +kernel
theorem own_31 : ((2 ^ (1074 - 1) : Nat) : Int) = 2147483648 * own_P := by decide +kernel
theorem own_0 : ((2 ^ (1074 - 32) : Nat) : Int) = own_P := rfl
/-- K / 2^k is a double -/
theorem own_V (K : Int) (k : Nat) (hK : K.natAbs < 2 ^ 53) (hk : k ≤ 1074) : ∃ V, FP.Core.fits b64 V ∧ V ≠ .nan ∧ zval b64 V = K * ((2 ^ (1074 - k) : Nat) : Int) := by
  have hq : b64.qmin = -1074 := qmin_b64
  have hx : (0 : Int) ≤ b64.qmax := by decide +kernel
  obtain ⟨c', q', h1, h2⟩ := round_exact good_b64 (decide (K < 0)) (c := K.natAbs) (q := -(k : Int)) hK (by omega) (by omega)
  refine ⟨round b64 (.fin (decide (K < 0)) K.natAbs (-(k : Int))), round_fits good_b64 _, by rw [h1]; exact Datum.noConfusion, ?_⟩
  rw [h1]
  show signed (decide (K < 0)) (inUnits c' q' b64.qmin) = _
  rw [h2]
  show signed (decide (K < 0)) (K.natAbs * 2 ^ (-(k : Int) - b64.qmin).toNat) = _
  rw [show (-(k : Int) - b64.qmin).toNat = 1074 - k by omega, signed_mul]
  congr 1
  unfold signed
  by_cases h : K < 0 <;> simp [h] <;> omega
theorem own_sub_nn {a K : UInt64} (ha : DFin a) (hK : DFin K) : val64 (FP.dsub a K) ≠ .nan := by
  have := dsub_out ha.notNaN hK
  exact (notNaN_iff _).mp this
theorem own_sub_le {a K : UInt64} {V : Datum} (ha : DFin a) (hK : DFin K) (fV : FP.Core.fits b64 V) (nV : V ≠ .nan) (h : zval b64 (val64 a) - zval b64 (val64 K) ≤ zval b64 V) : zval b64 (val64 (FP.dsub a K)) ≤ zval b64 V := by
  rw [show val64 (FP.dsub a K) = _ from val64_dsub a K]
  obtain ⟨s, c, q, e⟩ := hK
  refine sum_le good_b64 ha ⟨!s, c, q, by rw [e]; rfl⟩ (val64_fits a) (negate_fits (val64_fits K)) fV nV ?_
  rw [zval_negate]; omega
theorem own_sub_ge {a K : UInt64} {V : Datum} (ha : DFin a) (hK : DFin K) (fV : FP.Core.fits b64 V) (nV : V ≠ .nan) (h : zval b64 V ≤ zval b64 (val64 a) - zval b64 (val64 K)) : zval b64 V ≤ zval b64 (val64 (FP.dsub a K)) := by
  rw [show val64 (FP.dsub a K) = _ from val64_dsub a K]
  obtain ⟨s, c, q, e⟩ := hK
  refine sum_ge good_b64 ha ⟨!s, c, q, by rw [e]; rfl⟩ (val64_fits a) (negate_fits (val64_fits K)) fV nV ?_
  rw [zval_negate]; omega
/-- what belowMinimum answers: by the int that dcmpg pushes -/
def own_below (x y : UInt64) : Int32 := if Op.cmpValue (FP.dcmp x (FP.dsub y own_t)) .g < 0 then 1 else 0
theorem own_cg (a b : Int) : Op.cmpValue (some (compare a b)) .g < 0 ↔ a < b := by
  rw [← compare_lt_iff]; cases compare a b <;> decide
theorem own_below_eq {x y : UInt64} (hx : val64 x ≠ .nan) (hy : DFin y) : own_below x y = if zval b64 (val64 x) < zval b64 (val64 (FP.dsub y own_t)) then 1 else 0 := by
  unfold own_below
  rw [show FP.dcmp x (FP.dsub y own_t) = _ from dcmp_zval hx (own_sub_nn hy own_tfin)]
  simp only [own_cg]
theorem own_iz (b : Int32) : zval b64 (val64 (FP.i2d b)) = 4294967296 * (b.toInt * own_P) := by
  rw [show zval b64 (val64 (FP.i2d b)) = _ from DInt_zval (i2d_int b), own_one, Int.mul_left_comm]
/-- whole bids -/
theorem own_law0 (a b : Int32) : own_below (FP.i2d a) (FP.i2d b) = if a < b then 1 else 0 := by
  rw [own_below_eq (x := FP.i2d a) (y := FP.i2d b) (DInt_ne_nan (i2d_int a)) (i2d_fin b)]
  have b1 := b.toInt_lt
  have b2 := b.le_toInt
  have t1 := own_tlo
  have t2 := own_thi
  have hp := own_pos
  have za := own_iz a
  have zb := own_iz b
  by_cases h : a < b
  · rw [if_pos h, if_pos]
    rw [Int32.lt_iff_toInt_lt] at h
    obtain ⟨V, fV, nV, zV⟩ := own_V (2 * b.toInt - 1) 1 (by omega) (by omega)
    have e1 : (2 * b.toInt - 1) * (2147483648 * own_P) = 4294967296 * (b.toInt * own_P) - 2147483648 * own_P := by
      rw [Int.sub_mul, Int.one_mul, Int.mul_assoc, Int.mul_left_comm b.toInt, ← Int.mul_assoc 2]
      generalize b.toInt * own_P = bP
      generalize own_P = P
      omega
    rw [own_31, e1] at zV
    have h2 : a.toInt * own_P ≤ (b.toInt - 1) * own_P := Int.mul_le_mul_of_nonneg_right (by omega) (by omega)
    rw [Int.sub_mul, Int.one_mul] at h2
    have hge := own_sub_ge (a := FP.i2d b) (i2d_fin b) own_tfin fV nV (by rw [zV, zb]; generalize b.toInt * own_P = bP at *; generalize own_P = P at *; omega)
    rw [zV] at hge
    rw [za]
    generalize b.toInt * own_P = bP at *
    generalize a.toInt * own_P = aP at *
    generalize own_P = P at *
    omega
  · rw [if_neg h, if_neg]
    rw [Int32.lt_iff_toInt_lt] at h
    have hle := own_sub_le (a := FP.i2d b) (i2d_fin b) own_tfin (val64_fits (FP.i2d b)) (DInt_ne_nan (i2d_int b)) (by generalize own_P = P at *; omega)
    have h2 : b.toInt * own_P ≤ a.toInt * own_P := Int.mul_le_mul_of_nonneg_right (by omega) (by omega)
    rw [zb] at hle
    rw [za]
    generalize b.toInt * own_P = bP at *
    generalize a.toInt * own_P = aP at *
    omega
/-- m less j units of 2^-32 is a double -/
theorem own_V32 (m : Int32) (j : Int) (h1 : -1001 < m.toInt) (h2 : m.toInt < 1001) (h3 : 0 ≤ j) (h4 : j < 8) : ∃ V, FP.Core.fits b64 V ∧ V ≠ .nan ∧ zval b64 V = 4294967296 * (m.toInt * own_P) - j * own_P := by
  obtain ⟨V, fV, nV, zV⟩ := own_V (4294967296 * m.toInt - j) 32 (by omega) (by omega)
  refine ⟨V, fV, nV, ?_⟩
  rw [zV, own_0, Int.sub_mul, Int.mul_assoc]
theorem own_law1 (m : Int32) (h1 : -1001 < m.toInt) (h2 : m.toInt < 1001) : own_below (FP.dsub (FP.i2d m) own_k1) (FP.i2d m) = 0 := by
  rw [own_below_eq (x := FP.dsub (FP.i2d m) own_k1) (y := FP.i2d m) (own_sub_nn (i2d_fin m) own_k1fin) (i2d_fin m), if_neg]
  obtain ⟨V, fV, nV, zV⟩ := own_V32 m 3 h1 h2 (by decide) (by decide)
  have t1 := own_tlo
  have t2 := own_k1hi
  have zm := own_iz m
  have g1 := own_sub_ge (a := FP.i2d m) (i2d_fin m) own_k1fin fV nV (by rw [zV, zm]; generalize m.toInt * own_P = mP at *; generalize own_P = P at *; omega)
  have g2 := own_sub_le (a := FP.i2d m) (i2d_fin m) own_tfin fV nV (by rw [zV, zm]; generalize m.toInt * own_P = mP at *; generalize own_P = P at *; omega)
  omega
theorem own_law2 (m : Int32) (h1 : -1001 < m.toInt) (h2 : m.toInt < 1001) : own_below (FP.dsub (FP.i2d m) own_k2) (FP.i2d m) = 1 := by
  rw [own_below_eq (x := FP.dsub (FP.i2d m) own_k2) (y := FP.i2d m) (own_sub_nn (i2d_fin m) own_k2fin) (i2d_fin m), if_pos]
  obtain ⟨V, fV, nV, zV⟩ := own_V32 m 7 h1 h2 (by decide) (by decide)
  obtain ⟨V', fV', nV', zV'⟩ := own_V32 m 6 h1 h2 (by decide) (by decide)
  have t1 := own_thi
  have t2 := own_k2lo
  have zm := own_iz m
  have hp := own_pos
  have g1 := own_sub_le (a := FP.i2d m) (i2d_fin m) own_k2fin fV nV (by rw [zV, zm]; generalize m.toInt * own_P = mP at *; generalize own_P = P at *; omega)
  have g2 := own_sub_ge (a := FP.i2d m) (i2d_fin m) own_tfin fV' nV' (by rw [zV', zm]; generalize m.toInt * own_P = mP at *; generalize own_P = P at *; omega)
  generalize m.toInt * own_P = mP at *
  generalize own_P = P at *
  omega
theorem own_law3 (m : Int32) : own_below (FP.dsub (FP.i2d m) own_t) (FP.i2d m) = 0 := by
  rw [own_below_eq (x := FP.dsub (FP.i2d m) own_t) (y := FP.i2d m) (own_sub_nn (i2d_fin m) own_tfin) (i2d_fin m), if_neg (Int.lt_irrefl _)]
theorem own_mod (b : Int32) : -1001 < (b % 1001).toInt ∧ (b % 1001).toInt < 1001 := by
  have h := Jvm.RoadKit.c_iremV b 1001
  have e : (1001 : Int32).toInt = 1001 := rfl
  rw [e] at h
  omega
end Own
/-! 2. THE WALKS -/
open Jvm Jvm.ClassFile Sem Op Lib Jvm.Free Jvm.Stand Jvm.LawKit Jvm.RoadKit Bundle Jvm.Pilot.@@N@@.Jvm.D

theorem d1_0 : decode prog_46_method_4_code 0 = .ok (.dload_n 0, 1) := by decide +kernel
theorem d1_1 : decode prog_46_method_4_code 1 = .ok (.dload_n 2, 1) := by decide +kernel
theorem d1_2 : decode prog_46_method_4_code 2 = .ok (.ldc2_w 38, 3) := by decide +kernel
theorem d1_5 : decode prog_46_method_4_code 5 = .ok (.dsub, 1) := by decide +kernel
theorem d1_6 : decode prog_46_method_4_code 6 = .ok (.dcmp .g, 1) := by decide +kernel
theorem d1_7 : decode prog_46_method_4_code 7 = .ok (.ifCond .ge 7, 3) := by decide +kernel
theorem d1_10 : decode prog_46_method_4_code 10 = .ok (.iconst 1, 1) := by decide +kernel
theorem d1_11 : decode prog_46_method_4_code 11 = .ok (.goto 4, 3) := by decide +kernel
theorem d1_14 : decode prog_46_method_4_code 14 = .ok (.iconst 0, 1) := by decide +kernel
theorem d1_15 : decode prog_46_method_4_code 15 = .ok (.ireturn, 1) := by decide +kernel
theorem pn_0 : plainName "com/example/keyslot/keyslot/model/BidderBelowMinimumPinLaw" = true := by first | (simp [plainName, overriddenIn]; done) | decide +kernel
theorem pn_1 : plainName "com/example/keyslot/keyslot/model/Bidder" = true := by first | (simp [plainName, overriddenIn]; done) | decide +kernel
theorem pd_1 : parseMethodDescriptor "(DD)Z" = some ⟨[.double, .double], some .boolean⟩ := by decide +kernel
theorem ef_0 (m : MethodId) (p1 p2 p3 : Int32) : entryFrame m #[(.int p1), (.int p2), (.int p3)] maxLocals = mkF m 0 #[.val (.int p1), .val (.int p2), .val (.int p3), .unset, .unset, .unset, .unset, .unset, .unset] [] := by first | (simp [entryFrame, mkF, argsToLocals, Value.category, maxLocals]; done) | rfl
theorem ef_1 (m : MethodId) (p1 p2 : UInt64) : entryFrame m #[(.double p1), (.double p2)] 4 = mkF m 0 #[.val (.double p1), .second, .val (.double p2), .second] [] := by first | (simp [entryFrame, mkF, argsToLocals, Value.category]; done) | rfl
def Q1 (p1 p2 : UInt64) (h0 : Heap) (n0 : Nat) (v : Option Value) (h : Heap) (L : List Loc) : Prop := v = some (.int (own_below p1 p2)) ∧ Fr n0 L ∧ h = h0
set_option maxRecDepth 65536 in
set_option maxHeartbeats 40000000 in
theorem rm1 (l : Launch) (Z : State) (a0 : Array Value) (hw : ∀ d ∈ tables_1, d.before a0 Z = true) (ws : List Jvm.Cond) (p1 p2 : UInt64) (hnn : Jvm.Free.Fl.NoNaN64 (FP.dsub p2 own_t)) (h0 : Heap) (n0 : Nat) (Z0 : n0 ≤ h0.size) :
    MetFree l (⟨"com/example/keyslot/keyslot/model/Bidder", "belowMinimum", "(DD)Z"⟩ : MethodName) (head1 (Jvm.Cond.code (⟨"com/example/keyslot/keyslot/model/Bidder", "belowMinimum", "(DD)Z"⟩ : MethodName) prog_46_method_4_code 4 (some .boolean) :: ws) ({ frames := 0, cells := 0, slots := 0, locals := 0 } : Room)) (fun a U => a = #[(.double p1), (.double p2)] ∧ Z.Warmed39 U.vm ∧ U.heap = h0) (fun _ _ _ _ _ => True) (fun _ U o U' => ∃ v L, o = .returned v ∧ Q1 p1 p2 h0 n0 v U'.heap L ∧ FrameEnd U o U' L ({ frames := 0, cells := 0, slots := 0, locals := 0 } : Room).cells ({ frames := 0, cells := 0, slots := 0, locals := 0 } : Room).slots) := by
  refine MetFree.of_bodySF (plainFor_of_name pn_1) hisR ?_
  intro p e s m args below meth c s₁ Bd hml0 hP hK
  obtain ⟨rfl, hZ, hh⟩ := hP
  have hx := Bd.exec
  have hby := Bd.bytes
  have hml : c.maxLocals = 4 := hml0
  have hown : s.vm.findClass "com/example/keyslot/keyslot/model/Bidder" = some m.cls := findClass_of_methodNamed Bd.named
  have X0 : Stand p l e ({ frames := 0, cells := 0, slots := 0, locals := 0 } : Room) s m #[(.double p1), (.double p2)] below meth c s₁ [] 0 0 := Stand.of_body Bd
  have e0 : s₁.heap = h0 := by rw [← hh, Bd.state]; rfl
  have N0 := Fr.nil n0
  have pre0 : ∀ t, Steps p.tables e below (s₁.setTop (mkF m 0 #[.val (.double p1), .second, .val (.double p2), .second] [])) t → Steps p.tables e below (s₁.setTop (entryFrame m #[(.double p1), (.double p2)] 4)) t := fun t k => castTop (ef_1 m p1 p2) k
  obtain ⟨fs, hr, hrun, hended, hW, hsame⟩ := X0.leave (v := some (.int (own_below p1 p2))) (fun h => by rw [Bd.returns] at h; cases h)
  refine ⟨_, _, pre0 _ ?_, hrun, hended, _, _, rfl, ?_, ⟨_, rfl⟩, hW, hsame.mono (by decide) (by decide)⟩
  · show Steps p.tables e below (s₁.setTop (mkF m 0 #[.val (.double p1), .second, .val (.double p2), .second] [])) _
    obtain ⟨q, hq⟩ : ∃ q, FP.dsub p2 own_t = q := ⟨_, rfl⟩
    refine XS.dloadN X0.here hx rfl (hb hby d1_0) rfl ?_
    show Steps p.tables e below (s₁.setTop (mkF m 1 #[.val (.double p1), .second, .val (.double p2), .second] [(.double p1)])) _
    refine XS.dloadN X0.here hx rfl (hb hby d1_1) rfl ?_
    show Steps p.tables e below (s₁.setTop (mkF m 2 #[.val (.double p1), .second, .val (.double p2), .second] [(.double p2), (.double p1)])) _
    refine X0.ldc2DoubleC hx hown (mvT hZ (hw _ (List.mem_of_getElem? (i := 5) rfl))) (g := (mkF m 2 #[.val (.double p1), .second, .val (.double p2), .second] [(.double p2), (.double p1)])) rfl (hb hby d1_2) _ ?_
    show Steps p.tables e below (s₁.setTop (mkF m 5 #[.val (.double p1), .second, .val (.double p2), .second] [(.double own_t), (.double p2), (.double p1)])) _
    refine XS.dsubS X0.here hx rfl (hb hby d1_5) rfl hnn hq ?_
    show Steps p.tables e below (s₁.setTop (mkF m 6 #[.val (.double p1), .second, .val (.double p2), .second] [(.double q), (.double p1)])) _
    refine XS.dcmpS X0.here hx rfl (hb hby d1_6) rfl rfl ?_
    show Steps p.tables e below (s₁.setTop (mkF m 7 #[.val (.double p1), .second, .val (.double p2), .second] [(.int (cmpValue (FP.dcmp p1 q) .g))])) _
    by_cases h1 : cmpValue (FP.dcmp p1 q) .g < 0
    · have hv : own_below p1 p2 = nar .boolean 1 := by unfold own_below; rw [hq, if_pos h1]; rfl
      rw [hv] at hr
      refine XS.ifNo X0.here hx rfl (hb hby d1_7) rfl ((if0 _ _).trans (tlt h1).2.1) ?_
      show Steps p.tables e below (s₁.setTop (mkF m 10 #[.val (.double p1), .second, .val (.double p2), .second] [])) _
      refine XS.iconst X0.here hx rfl (hb hby d1_10) ?_
      show Steps p.tables e below (s₁.setTop (mkF m 11 #[.val (.double p1), .second, .val (.double p2), .second] [(.int (1 : Int32))])) _
      refine XS.goto X0.here hx rfl (pc0 := 11) (pc' := 15) rfl (hb hby d1_11) (by decide) (by decide) ?_
      show Steps p.tables e below (s₁.setTop (mkF m 15 #[.val (.double p1), .second, .val (.double p2), .second] [(.int (1 : Int32))])) _
      exact retN X0 hx (t := .boolean) Bd.returns (by simp) (hb hby d1_15) hr
    · have hv : own_below p1 p2 = nar .boolean 0 := by unfold own_below; rw [hq, if_neg h1]; rfl
      rw [hv] at hr
      refine XS.ifYes X0.here hx rfl (pc0 := 7) (pc' := 14) rfl (hb hby d1_7) rfl ((if0 _ _).trans (flt h1).2.1) (by decide) (by decide) ?_
      show Steps p.tables e below (s₁.setTop (mkF m 14 #[.val (.double p1), .second, .val (.double p2), .second] [])) _
      refine XS.iconst X0.here hx rfl (hb hby d1_14) ?_
      show Steps p.tables e below (s₁.setTop (mkF m 15 #[.val (.double p1), .second, .val (.double p2), .second] [(.int (0 : Int32))])) _
      exact retN X0 hx (t := .boolean) Bd.returns (by simp) (hb hby d1_15) hr
  · show Q1 p1 p2 h0 n0 _ s₁.heap _
    rw [e0]
    exact ⟨rfl, N0, rfl⟩
def Q0 (h0 : Heap) (n0 : Nat) (v : Option Value) (h : Heap) (L : List Loc) : Prop := v = some (.int (1 : Int32)) ∧ Fr n0 L ∧ h = h0
set_option maxRecDepth 65536 in
set_option maxHeartbeats 40000000 in
theorem rm0 (l : Launch) (Z : State) (a0 : Array Value) (hw : ∀ d ∈ tables_1, d.before a0 Z = true) (ws : List Jvm.Cond) (p1 p2 p3 : Int32) (h0 : Heap) (n0 : Nat) (Z0 : n0 ≤ h0.size) :
    MetFree l x (head1 (Jvm.Cond.code x code maxLocals ret :: ws) room_1) (fun a U => a = #[(.int p1), (.int p2), (.int p3)] ∧ Z.Warmed39 U.vm ∧ U.heap = h0) (fun _ _ _ _ _ => True) (fun _ U o U' => ∃ v L, o = .returned v ∧ Q0 h0 n0 v U'.heap L ∧ FrameEnd U o U' L room_1.cells room_1.slots) := by
  refine MetFree.of_bodySF (plainFor_of_name pn_0) hisR ?_
  intro p e s m args below meth c s₁ Bd hml0 hP hK
  obtain ⟨rfl, hZ, hh⟩ := hP
  have hx := Bd.exec
  have hby := Bd.bytes
  have hml : c.maxLocals = 9 := hml0
  have hown : s.vm.findClass "com/example/keyslot/keyslot/model/BidderBelowMinimumPinLaw" = some m.cls := findClass_of_methodNamed Bd.named
  have X0 : Stand p l e room_1 s m #[(.int p1), (.int p2), (.int p3)] below meth c s₁ [] 0 0 := Stand.of_body Bd
  have e0 : s₁.heap = h0 := by rw [← hh, Bd.state]; rfl
  have N0 := Fr.nil n0
  have pre0 : ∀ t, Steps p.tables e below (s₁.setTop (mkF m 0 #[.val (.int p1), .val (.int p2), .val (.int p3), .unset, .unset, .unset, .unset, .unset, .unset] [])) t → Steps p.tables e below (s₁.setTop (entryFrame m #[(.int p1), (.int p2), (.int p3)] maxLocals)) t := fun t k => castTop (ef_0 m p1 p2 p3) k
  have n1 : ∀ z : Int32, Jvm.Free.Fl.NoNaN64 (FP.dsub (FP.i2d z) own_t) := fun z => Jvm.Free.Fl.dsub_out (Jvm.Free.Fl.i2d_fin z).noNaN (by unfold Jvm.Free.Fl.Fin64 own_t; decide)
  have n2 : ∀ z : Int32, Jvm.Free.Fl.NoNaN64 (FP.dsub (FP.i2d z) own_k1) := fun z => Jvm.Free.Fl.dsub_out (Jvm.Free.Fl.i2d_fin z).noNaN (by unfold Jvm.Free.Fl.Fin64 own_k1; decide)
  have n3 : ∀ z : Int32, Jvm.Free.Fl.NoNaN64 (FP.dsub (FP.i2d z) own_k2) := fun z => Jvm.Free.Fl.dsub_out (Jvm.Free.Fl.i2d_fin z).noNaN (by unfold Jvm.Free.Fl.Fin64 own_k2; decide)
  by_cases hk0 : (p3 &&& (3 : Int32)) = 0
  · have hlaw : own_below (FP.i2d p1) (FP.i2d p2) = if p1 < p2 then 1 else 0 := own_law0 p1 p2
    have hn := n1 p2
    obtain ⟨qa, ha⟩ : ∃ q, FP.i2d p1 = q := ⟨_, rfl⟩
    obtain ⟨qb, hqb⟩ : ∃ q, FP.i2d p2 = q := ⟨_, rfl⟩
    rw [hqb] at hn
    rw [ha, hqb] at hlaw
    obtain ⟨_, _, ⟨T1, L1, k1, n1'⟩, -, X1, ⟨Lc1, hQ1, l1, y1, z1⟩, st1⟩ := Jvm.LawKit.callS X0 hx (y := (⟨"com/example/keyslot/keyslot/model/Bidder", "belowMinimum", "(DD)Z"⟩ : MethodName)) hown (mvT hZ (hw _ (List.mem_of_getElem? (i := 1) rfl))) (mvT hZ (hw _ (List.mem_of_getElem? (i := 2) rfl))) (mvT hZ (hw _ (List.mem_of_getElem? (i := 3) rfl))) (mvT hZ (hw _ (List.mem_of_getElem? (i := 4) rfl))) (by decide) (backOf (W := 0) (rm1 l Z a0 hw [] qa qb hn h0 n0 Z0) hZ (hw _ (List.mem_of_getElem? (i := 4) rfl)) (hw _ (List.mem_of_getElem? (i := 3) rfl)) (by decide) (by decide)) (g := (mkF m 12 #[.val (.int p1), .val (.int p2), .val (.int p3), .val (.int (p3 &&& (3 : Int32))), .unset, .unset, .unset, .unset, .unset] [(.double qb), (.double qa)])) rfl (by rw [hml]; rfl) (argsL := [(.double qa), (.double qb)]) (rest := []) (lenOf pd_1 rfl) rfl (by show 2 * 0 + _ ≤ _; exact Nat.le_of_eq rfl) (hb hby at_12) (fun _ _ => ⟨rfl, e0, (by decide : 0 + 0 ≤ _), (by decide : 0 + 0 ≤ _)⟩)
    dsimp only [Pt.U, Pt.locs, Pt.cells, Pt.slots] at X1 l1 y1 z1 st1 hQ1
    subst l1 y1 z1
    obtain ⟨rfl, N1, e1⟩ := hQ1
    have N2 := Fr.app N0 N1
    obtain ⟨fs, hr, hrun, hended, hW, hsame⟩ := X1.leave (v := some (.int (1 : Int32))) (fun h => by rw [Bd.returns] at h; cases h)
    refine ⟨_, _, pre0 _ ?_, hrun, hended, _, _, rfl, ?_, ⟨_, rfl⟩, hW, hsame.mono (by decide) (by decide)⟩
    · show Steps p.tables e below (s₁.setTop (mkF m 0 #[.val (.int p1), .val (.int p2), .val (.int p3), .unset, .unset, .unset, .unset, .unset, .unset] [])) _
      refine XS.iloadN X0.here hx rfl (hb hby at_0) rfl ?_
      show Steps p.tables e below (s₁.setTop (mkF m 1 #[.val (.int p1), .val (.int p2), .val (.int p3), .unset, .unset, .unset, .unset, .unset, .unset] [(.int p3)])) _
      refine XS.iconst X0.here hx rfl (hb hby at_1) ?_
      show Steps p.tables e below (s₁.setTop (mkF m 2 #[.val (.int p1), .val (.int p2), .val (.int p3), .unset, .unset, .unset, .unset, .unset, .unset] [(.int (3 : Int32)), (.int p3)])) _
      refine XS.iand X0.here hx rfl (hb hby at_2) rfl ?_
      show Steps p.tables e below (s₁.setTop (mkF m 3 #[.val (.int p1), .val (.int p2), .val (.int p3), .unset, .unset, .unset, .unset, .unset, .unset] [(.int (p3 &&& (3 : Int32)))])) _
      refine XS.istoreN X0.here hx rfl (hb hby at_3) rfl (l' := #[.val (.int p1), .val (.int p2), .val (.int p3), .val (.int (p3 &&& (3 : Int32))), .unset, .unset, .unset, .unset, .unset]) rfl ?_
      show Steps p.tables e below (s₁.setTop (mkF m 4 #[.val (.int p1), .val (.int p2), .val (.int p3), .val (.int (p3 &&& (3 : Int32))), .unset, .unset, .unset, .unset, .unset] [])) _
      refine XS.iloadN X0.here hx rfl (hb hby at_4) rfl ?_
      show Steps p.tables e below (s₁.setTop (mkF m 5 #[.val (.int p1), .val (.int p2), .val (.int p3), .val (.int (p3 &&& (3 : Int32))), .unset, .unset, .unset, .unset, .unset] [(.int (p3 &&& (3 : Int32)))])) _
      refine XS.ifNo X0.here hx rfl (hb hby at_5) rfl ((if0 _ _).trans (teq hk0).2) ?_
      show Steps p.tables e below (s₁.setTop (mkF m 8 #[.val (.int p1), .val (.int p2), .val (.int p3), .val (.int (p3 &&& (3 : Int32))), .unset, .unset, .unset, .unset, .unset] [])) _
      refine XS.iloadN X0.here hx rfl (hb hby at_8) rfl ?_
      show Steps p.tables e below (s₁.setTop (mkF m 9 #[.val (.int p1), .val (.int p2), .val (.int p3), .val (.int (p3 &&& (3 : Int32))), .unset, .unset, .unset, .unset, .unset] [(.int p1)])) _
      refine XS.i2dS X0.here hx rfl (hb hby at_9) rfl ha ?_
      show Steps p.tables e below (s₁.setTop (mkF m 10 #[.val (.int p1), .val (.int p2), .val (.int p3), .val (.int (p3 &&& (3 : Int32))), .unset, .unset, .unset, .unset, .unset] [(.double qa)])) _
      refine XS.iloadN X0.here hx rfl (hb hby at_10) rfl ?_
      show Steps p.tables e below (s₁.setTop (mkF m 11 #[.val (.int p1), .val (.int p2), .val (.int p3), .val (.int (p3 &&& (3 : Int32))), .unset, .unset, .unset, .unset, .unset] [(.int p2), (.double qa)])) _
      refine XS.i2dS X0.here hx rfl (hb hby at_11) rfl hqb ?_
      show Steps p.tables e below (s₁.setTop (mkF m 12 #[.val (.int p1), .val (.int p2), .val (.int p3), .val (.int (p3 &&& (3 : Int32))), .unset, .unset, .unset, .unset, .unset] [(.double qb), (.double qa)])) _
      refine st1 _ ?_
      show Steps p.tables e below (T1.setTop (mkF m 15 #[.val (.int p1), .val (.int p2), .val (.int p3), .val (.int (p3 &&& (3 : Int32))), .unset, .unset, .unset, .unset, .unset] [(.int (own_below qa qb))])) _
      refine XS.iloadN X1.here hx rfl (hb hby at_15) rfl ?_
      show Steps p.tables e below (T1.setTop (mkF m 16 #[.val (.int p1), .val (.int p2), .val (.int p3), .val (.int (p3 &&& (3 : Int32))), .unset, .unset, .unset, .unset, .unset] [(.int p1), (.int (own_below qa qb))])) _
      refine XS.iloadN X1.here hx rfl (hb hby at_16) rfl ?_
      show Steps p.tables e below (T1.setTop (mkF m 17 #[.val (.int p1), .val (.int p2), .val (.int p3), .val (.int (p3 &&& (3 : Int32))), .unset, .unset, .unset, .unset, .unset] [(.int p2), (.int p1), (.int (own_below qa qb))])) _
      by_cases hab : p1 < p2
      · have hlaw1 : own_below qa qb = 1 := by rw [hlaw, if_pos hab]
        refine XS.icmpNo X1.here hx rfl (hb hby at_17) rfl (tlt hab).2.1 ?_
        show Steps p.tables e below (T1.setTop (mkF m 20 #[.val (.int p1), .val (.int p2), .val (.int p3), .val (.int (p3 &&& (3 : Int32))), .unset, .unset, .unset, .unset, .unset] [(.int (own_below qa qb))])) _
        refine XS.iconst X1.here hx rfl (hb hby at_20) ?_
        show Steps p.tables e below (T1.setTop (mkF m 21 #[.val (.int p1), .val (.int p2), .val (.int p3), .val (.int (p3 &&& (3 : Int32))), .unset, .unset, .unset, .unset, .unset] [(.int (1 : Int32)), (.int (own_below qa qb))])) _
        refine XS.goto X1.here hx rfl (pc0 := 21) (pc' := 25) rfl (hb hby at_21) (by decide) (by decide) ?_
        show Steps p.tables e below (T1.setTop (mkF m 25 #[.val (.int p1), .val (.int p2), .val (.int p3), .val (.int (p3 &&& (3 : Int32))), .unset, .unset, .unset, .unset, .unset] [(.int (1 : Int32)), (.int (own_below qa qb))])) _
        refine XS.icmpNo X1.here hx rfl (hb hby at_25) rfl (teq hlaw1).2 ?_
        show Steps p.tables e below (T1.setTop (mkF m 28 #[.val (.int p1), .val (.int p2), .val (.int p3), .val (.int (p3 &&& (3 : Int32))), .unset, .unset, .unset, .unset, .unset] [])) _
        refine XS.iconst X1.here hx rfl (hb hby at_28) ?_
        show Steps p.tables e below (T1.setTop (mkF m 29 #[.val (.int p1), .val (.int p2), .val (.int p3), .val (.int (p3 &&& (3 : Int32))), .unset, .unset, .unset, .unset, .unset] [(.int (1 : Int32))])) _
        refine XS.goto X1.here hx rfl (pc0 := 29) (pc' := 33) rfl (hb hby at_29) (by decide) (by decide) ?_
        show Steps p.tables e below (T1.setTop (mkF m 33 #[.val (.int p1), .val (.int p2), .val (.int p3), .val (.int (p3 &&& (3 : Int32))), .unset, .unset, .unset, .unset, .unset] [(.int (1 : Int32))])) _
        exact retN X1 hx (t := .boolean) Bd.returns (by simp) (hb hby at_33) hr
      · have hlaw1 : own_below qa qb = 0 := by rw [hlaw, if_neg hab]
        refine XS.icmpYes X1.here hx rfl (pc0 := 17) (pc' := 24) rfl (hb hby at_17) rfl (flt hab).2.1 (by decide) (by decide) ?_
        show Steps p.tables e below (T1.setTop (mkF m 24 #[.val (.int p1), .val (.int p2), .val (.int p3), .val (.int (p3 &&& (3 : Int32))), .unset, .unset, .unset, .unset, .unset] [(.int (own_below qa qb))])) _
        refine XS.iconst X1.here hx rfl (hb hby at_24) ?_
        show Steps p.tables e below (T1.setTop (mkF m 25 #[.val (.int p1), .val (.int p2), .val (.int p3), .val (.int (p3 &&& (3 : Int32))), .unset, .unset, .unset, .unset, .unset] [(.int (0 : Int32)), (.int (own_below qa qb))])) _
        refine XS.icmpNo X1.here hx rfl (hb hby at_25) rfl (teq hlaw1).2 ?_
        show Steps p.tables e below (T1.setTop (mkF m 28 #[.val (.int p1), .val (.int p2), .val (.int p3), .val (.int (p3 &&& (3 : Int32))), .unset, .unset, .unset, .unset, .unset] [])) _
        refine XS.iconst X1.here hx rfl (hb hby at_28) ?_
        show Steps p.tables e below (T1.setTop (mkF m 29 #[.val (.int p1), .val (.int p2), .val (.int p3), .val (.int (p3 &&& (3 : Int32))), .unset, .unset, .unset, .unset, .unset] [(.int (1 : Int32))])) _
        refine XS.goto X1.here hx rfl (pc0 := 29) (pc' := 33) rfl (hb hby at_29) (by decide) (by decide) ?_
        show Steps p.tables e below (T1.setTop (mkF m 33 #[.val (.int p1), .val (.int p2), .val (.int p3), .val (.int (p3 &&& (3 : Int32))), .unset, .unset, .unset, .unset, .unset] [(.int (1 : Int32))])) _
        exact retN X1 hx (t := .boolean) Bd.returns (by simp) (hb hby at_33) hr
    · show Q0 h0 n0 _ T1.heap _
      rw [e1]
      exact ⟨rfl, N2, rfl⟩
  · have hmod := own_mod p2
    have hl1 := own_law1 (p2 % 1001) hmod.1 hmod.2
    have hl2 := own_law2 (p2 % 1001) hmod.1 hmod.2
    have hl3 := own_law3 (p2 % 1001)
    have hnt := n1 (p2 % 1001)
    have hnk1 := n2 (p2 % 1001)
    have hnk2 := n3 (p2 % 1001)
    obtain ⟨r, hrm⟩ : ∃ r, p2 % (1001 : Int32) = r := ⟨_, rfl⟩
    rw [hrm] at hl1 hl2 hl3 hnt hnk1 hnk2
    obtain ⟨qm, hqm⟩ : ∃ q, FP.i2d r = q := ⟨_, rfl⟩
    rw [hqm] at hl1 hl2 hl3 hnt hnk1 hnk2
    by_cases hk1 : (p3 &&& (3 : Int32)) = 1
    · skip
      obtain ⟨qd, hqd⟩ : ∃ q, FP.dsub qm own_k1 = q := ⟨_, rfl⟩
      rw [hqd] at hl1
      obtain ⟨_, _, ⟨T1, L1, k1, n1'⟩, -, X1, ⟨Lc1, hQ1, l1, y1, z1⟩, st1⟩ := Jvm.LawKit.callS X0 hx (y := (⟨"com/example/keyslot/keyslot/model/Bidder", "belowMinimum", "(DD)Z"⟩ : MethodName)) hown (mvT hZ (hw _ (List.mem_of_getElem? (i := 1) rfl))) (mvT hZ (hw _ (List.mem_of_getElem? (i := 2) rfl))) (mvT hZ (hw _ (List.mem_of_getElem? (i := 3) rfl))) (mvT hZ (hw _ (List.mem_of_getElem? (i := 4) rfl))) (by decide) (backOf (W := 0) (rm1 l Z a0 hw [] qd qm hnt h0 n0 Z0) hZ (hw _ (List.mem_of_getElem? (i := 4) rfl)) (hw _ (List.mem_of_getElem? (i := 3) rfl)) (by decide) (by decide)) (g := (mkF m 63 #[.val (.int p1), .val (.int p2), .val (.int p3), .val (.int (p3 &&& (3 : Int32))), .val (.int r), .val (.double qm), .second, .val (.double qd), .second] [(.double qm), (.double qd)])) rfl (by rw [hml]; rfl) (argsL := [(.double qd), (.double qm)]) (rest := []) (lenOf pd_1 rfl) rfl (by show 2 * 0 + _ ≤ _; exact Nat.le_of_eq rfl) (hb hby at_63) (fun _ _ => ⟨rfl, e0, (by decide : 0 + 0 ≤ _), (by decide : 0 + 0 ≤ _)⟩)
      dsimp only [Pt.U, Pt.locs, Pt.cells, Pt.slots] at X1 l1 y1 z1 st1 hQ1
      subst l1 y1 z1
      obtain ⟨rfl, N1, e1⟩ := hQ1
      have N2 := Fr.app N0 N1
      obtain ⟨fs, hr, hrun, hended, hW, hsame⟩ := X1.leave (v := some (.int (1 : Int32))) (fun h => by rw [Bd.returns] at h; cases h)
      refine ⟨_, _, pre0 _ ?_, hrun, hended, _, _, rfl, ?_, ⟨_, rfl⟩, hW, hsame.mono (by decide) (by decide)⟩
      · show Steps p.tables e below (s₁.setTop (mkF m 0 #[.val (.int p1), .val (.int p2), .val (.int p3), .unset, .unset, .unset, .unset, .unset, .unset] [])) _
        refine XS.iloadN X0.here hx rfl (hb hby at_0) rfl ?_
        show Steps p.tables e below (s₁.setTop (mkF m 1 #[.val (.int p1), .val (.int p2), .val (.int p3), .unset, .unset, .unset, .unset, .unset, .unset] [(.int p3)])) _
        refine XS.iconst X0.here hx rfl (hb hby at_1) ?_
        show Steps p.tables e below (s₁.setTop (mkF m 2 #[.val (.int p1), .val (.int p2), .val (.int p3), .unset, .unset, .unset, .unset, .unset, .unset] [(.int (3 : Int32)), (.int p3)])) _
        refine XS.iand X0.here hx rfl (hb hby at_2) rfl ?_
        show Steps p.tables e below (s₁.setTop (mkF m 3 #[.val (.int p1), .val (.int p2), .val (.int p3), .unset, .unset, .unset, .unset, .unset, .unset] [(.int (p3 &&& (3 : Int32)))])) _
        refine XS.istoreN X0.here hx rfl (hb hby at_3) rfl (l' := #[.val (.int p1), .val (.int p2), .val (.int p3), .val (.int (p3 &&& (3 : Int32))), .unset, .unset, .unset, .unset, .unset]) rfl ?_
        show Steps p.tables e below (s₁.setTop (mkF m 4 #[.val (.int p1), .val (.int p2), .val (.int p3), .val (.int (p3 &&& (3 : Int32))), .unset, .unset, .unset, .unset, .unset] [])) _
        refine XS.iloadN X0.here hx rfl (hb hby at_4) rfl ?_
        show Steps p.tables e below (s₁.setTop (mkF m 5 #[.val (.int p1), .val (.int p2), .val (.int p3), .val (.int (p3 &&& (3 : Int32))), .unset, .unset, .unset, .unset, .unset] [(.int (p3 &&& (3 : Int32)))])) _
        refine XS.ifYes X0.here hx rfl (pc0 := 5) (pc' := 34) rfl (hb hby at_5) rfl ((if0 _ _).trans (feq hk0).2) (by decide) (by decide) ?_
        show Steps p.tables e below (s₁.setTop (mkF m 34 #[.val (.int p1), .val (.int p2), .val (.int p3), .val (.int (p3 &&& (3 : Int32))), .unset, .unset, .unset, .unset, .unset] [])) _
        refine XS.iloadN X0.here hx rfl (hb hby at_34) rfl ?_
        show Steps p.tables e below (s₁.setTop (mkF m 35 #[.val (.int p1), .val (.int p2), .val (.int p3), .val (.int (p3 &&& (3 : Int32))), .unset, .unset, .unset, .unset, .unset] [(.int p2)])) _
        refine XS.sipush X0.here hx rfl (hb hby at_35) ?_
        show Steps p.tables e below (s₁.setTop (mkF m 38 #[.val (.int p1), .val (.int p2), .val (.int p3), .val (.int (p3 &&& (3 : Int32))), .unset, .unset, .unset, .unset, .unset] [(.int (1001 : Int32)), (.int p2)])) _
        refine iremM X0 hx rfl (hb hby at_38) rfl (by decide) ?_
        rw [hrm]
        show Steps p.tables e below (s₁.setTop (mkF m 39 #[.val (.int p1), .val (.int p2), .val (.int p3), .val (.int (p3 &&& (3 : Int32))), .unset, .unset, .unset, .unset, .unset] [(.int r)])) _
        refine XS.istore X0.here hx rfl (hb hby at_39) rfl (l' := #[.val (.int p1), .val (.int p2), .val (.int p3), .val (.int (p3 &&& (3 : Int32))), .val (.int r), .unset, .unset, .unset, .unset]) rfl ?_
        show Steps p.tables e below (s₁.setTop (mkF m 41 #[.val (.int p1), .val (.int p2), .val (.int p3), .val (.int (p3 &&& (3 : Int32))), .val (.int r), .unset, .unset, .unset, .unset] [])) _
        refine XS.iload X0.here hx rfl (hb hby at_41) rfl ?_
        show Steps p.tables e below (s₁.setTop (mkF m 43 #[.val (.int p1), .val (.int p2), .val (.int p3), .val (.int (p3 &&& (3 : Int32))), .val (.int r), .unset, .unset, .unset, .unset] [(.int r)])) _
        refine XS.i2dS X0.here hx rfl (hb hby at_43) rfl hqm ?_
        show Steps p.tables e below (s₁.setTop (mkF m 44 #[.val (.int p1), .val (.int p2), .val (.int p3), .val (.int (p3 &&& (3 : Int32))), .val (.int r), .unset, .unset, .unset, .unset] [(.double qm)])) _
        refine XS.dstore X0.here hx rfl (hb hby at_44) rfl (l' := #[.val (.int p1), .val (.int p2), .val (.int p3), .val (.int (p3 &&& (3 : Int32))), .val (.int r), .val (.double qm), .second, .unset, .unset]) rfl ?_
        show Steps p.tables e below (s₁.setTop (mkF m 46 #[.val (.int p1), .val (.int p2), .val (.int p3), .val (.int (p3 &&& (3 : Int32))), .val (.int r), .val (.double qm), .second, .unset, .unset] [])) _
        refine XS.iloadN X0.here hx rfl (hb hby at_46) rfl ?_
        show Steps p.tables e below (s₁.setTop (mkF m 47 #[.val (.int p1), .val (.int p2), .val (.int p3), .val (.int (p3 &&& (3 : Int32))), .val (.int r), .val (.double qm), .second, .unset, .unset] [(.int (p3 &&& (3 : Int32)))])) _
        refine XS.iconst X0.here hx rfl (hb hby at_47) ?_
        show Steps p.tables e below (s₁.setTop (mkF m 48 #[.val (.int p1), .val (.int p2), .val (.int p3), .val (.int (p3 &&& (3 : Int32))), .val (.int r), .val (.double qm), .second, .unset, .unset] [(.int (1 : Int32)), (.int (p3 &&& (3 : Int32)))])) _
        refine XS.icmpNo X0.here hx rfl (hb hby at_48) rfl (teq hk1).2 ?_
        show Steps p.tables e below (s₁.setTop (mkF m 51 #[.val (.int p1), .val (.int p2), .val (.int p3), .val (.int (p3 &&& (3 : Int32))), .val (.int r), .val (.double qm), .second, .unset, .unset] [])) _
        refine XS.dload X0.here hx rfl (hb hby at_51) rfl ?_
        show Steps p.tables e below (s₁.setTop (mkF m 53 #[.val (.int p1), .val (.int p2), .val (.int p3), .val (.int (p3 &&& (3 : Int32))), .val (.int r), .val (.double qm), .second, .unset, .unset] [(.double qm)])) _
        refine X0.ldc2DoubleC hx hown (mvT hZ (hw _ (List.mem_of_getElem? (i := 7) rfl))) (g := (mkF m 53 #[.val (.int p1), .val (.int p2), .val (.int p3), .val (.int (p3 &&& (3 : Int32))), .val (.int r), .val (.double qm), .second, .unset, .unset] [(.double qm)])) rfl (hb hby at_53) _ ?_
        show Steps p.tables e below (s₁.setTop (mkF m 56 #[.val (.int p1), .val (.int p2), .val (.int p3), .val (.int (p3 &&& (3 : Int32))), .val (.int r), .val (.double qm), .second, .unset, .unset] [(.double own_k1), (.double qm)])) _
        refine XS.dsubS X0.here hx rfl (hb hby at_56) rfl hnk1 hqd ?_
        show Steps p.tables e below (s₁.setTop (mkF m 57 #[.val (.int p1), .val (.int p2), .val (.int p3), .val (.int (p3 &&& (3 : Int32))), .val (.int r), .val (.double qm), .second, .unset, .unset] [(.double qd)])) _
        refine XS.dstore X0.here hx rfl (hb hby at_57) rfl (l' := #[.val (.int p1), .val (.int p2), .val (.int p3), .val (.int (p3 &&& (3 : Int32))), .val (.int r), .val (.double qm), .second, .val (.double qd), .second]) rfl ?_
        show Steps p.tables e below (s₁.setTop (mkF m 59 #[.val (.int p1), .val (.int p2), .val (.int p3), .val (.int (p3 &&& (3 : Int32))), .val (.int r), .val (.double qm), .second, .val (.double qd), .second] [])) _
        refine XS.dload X0.here hx rfl (hb hby at_59) rfl ?_
        show Steps p.tables e below (s₁.setTop (mkF m 61 #[.val (.int p1), .val (.int p2), .val (.int p3), .val (.int (p3 &&& (3 : Int32))), .val (.int r), .val (.double qm), .second, .val (.double qd), .second] [(.double qd)])) _
        refine XS.dload X0.here hx rfl (hb hby at_61) rfl ?_
        show Steps p.tables e below (s₁.setTop (mkF m 63 #[.val (.int p1), .val (.int p2), .val (.int p3), .val (.int (p3 &&& (3 : Int32))), .val (.int r), .val (.double qm), .second, .val (.double qd), .second] [(.double qm), (.double qd)])) _
        refine st1 _ ?_
        show Steps p.tables e below (T1.setTop (mkF m 66 #[.val (.int p1), .val (.int p2), .val (.int p3), .val (.int (p3 &&& (3 : Int32))), .val (.int r), .val (.double qm), .second, .val (.double qd), .second] [(.int (own_below qd qm))])) _
        refine XS.ifNo X1.here hx rfl (hb hby at_66) rfl ((if0 _ _).trans (teq hl1).2) ?_
        show Steps p.tables e below (T1.setTop (mkF m 69 #[.val (.int p1), .val (.int p2), .val (.int p3), .val (.int (p3 &&& (3 : Int32))), .val (.int r), .val (.double qm), .second, .val (.double qd), .second] [])) _
        refine XS.iconst X1.here hx rfl (hb hby at_69) ?_
        show Steps p.tables e below (T1.setTop (mkF m 70 #[.val (.int p1), .val (.int p2), .val (.int p3), .val (.int (p3 &&& (3 : Int32))), .val (.int r), .val (.double qm), .second, .val (.double qd), .second] [(.int (1 : Int32))])) _
        refine XS.goto X1.here hx rfl (pc0 := 70) (pc' := 74) rfl (hb hby at_70) (by decide) (by decide) ?_
        show Steps p.tables e below (T1.setTop (mkF m 74 #[.val (.int p1), .val (.int p2), .val (.int p3), .val (.int (p3 &&& (3 : Int32))), .val (.int r), .val (.double qm), .second, .val (.double qd), .second] [(.int (1 : Int32))])) _
        exact retN X1 hx (t := .boolean) Bd.returns (by simp) (hb hby at_74) hr
      · show Q0 h0 n0 _ T1.heap _
        rw [e1]
        exact ⟨rfl, N2, rfl⟩
    · by_cases hk2 : (p3 &&& (3 : Int32)) = 2
      · skip
        obtain ⟨qd, hqd⟩ : ∃ q, FP.dsub qm own_k2 = q := ⟨_, rfl⟩
        rw [hqd] at hl2
        obtain ⟨_, _, ⟨T1, L1, k1, n1'⟩, -, X1, ⟨Lc1, hQ1, l1, y1, z1⟩, st1⟩ := Jvm.LawKit.callS X0 hx (y := (⟨"com/example/keyslot/keyslot/model/Bidder", "belowMinimum", "(DD)Z"⟩ : MethodName)) hown (mvT hZ (hw _ (List.mem_of_getElem? (i := 1) rfl))) (mvT hZ (hw _ (List.mem_of_getElem? (i := 2) rfl))) (mvT hZ (hw _ (List.mem_of_getElem? (i := 3) rfl))) (mvT hZ (hw _ (List.mem_of_getElem? (i := 4) rfl))) (by decide) (backOf (W := 0) (rm1 l Z a0 hw [] qd qm hnt h0 n0 Z0) hZ (hw _ (List.mem_of_getElem? (i := 4) rfl)) (hw _ (List.mem_of_getElem? (i := 3) rfl)) (by decide) (by decide)) (g := (mkF m 92 #[.val (.int p1), .val (.int p2), .val (.int p3), .val (.int (p3 &&& (3 : Int32))), .val (.int r), .val (.double qm), .second, .val (.double qd), .second] [(.double qm), (.double qd)])) rfl (by rw [hml]; rfl) (argsL := [(.double qd), (.double qm)]) (rest := []) (lenOf pd_1 rfl) rfl (by show 2 * 0 + _ ≤ _; exact Nat.le_of_eq rfl) (hb hby at_92) (fun _ _ => ⟨rfl, e0, (by decide : 0 + 0 ≤ _), (by decide : 0 + 0 ≤ _)⟩)
        dsimp only [Pt.U, Pt.locs, Pt.cells, Pt.slots] at X1 l1 y1 z1 st1 hQ1
        subst l1 y1 z1
        obtain ⟨rfl, N1, e1⟩ := hQ1
        have N2 := Fr.app N0 N1
        obtain ⟨fs, hr, hrun, hended, hW, hsame⟩ := X1.leave (v := some (.int (1 : Int32))) (fun h => by rw [Bd.returns] at h; cases h)
        refine ⟨_, _, pre0 _ ?_, hrun, hended, _, _, rfl, ?_, ⟨_, rfl⟩, hW, hsame.mono (by decide) (by decide)⟩
        · show Steps p.tables e below (s₁.setTop (mkF m 0 #[.val (.int p1), .val (.int p2), .val (.int p3), .unset, .unset, .unset, .unset, .unset, .unset] [])) _
          refine XS.iloadN X0.here hx rfl (hb hby at_0) rfl ?_
          show Steps p.tables e below (s₁.setTop (mkF m 1 #[.val (.int p1), .val (.int p2), .val (.int p3), .unset, .unset, .unset, .unset, .unset, .unset] [(.int p3)])) _
          refine XS.iconst X0.here hx rfl (hb hby at_1) ?_
          show Steps p.tables e below (s₁.setTop (mkF m 2 #[.val (.int p1), .val (.int p2), .val (.int p3), .unset, .unset, .unset, .unset, .unset, .unset] [(.int (3 : Int32)), (.int p3)])) _
          refine XS.iand X0.here hx rfl (hb hby at_2) rfl ?_
          show Steps p.tables e below (s₁.setTop (mkF m 3 #[.val (.int p1), .val (.int p2), .val (.int p3), .unset, .unset, .unset, .unset, .unset, .unset] [(.int (p3 &&& (3 : Int32)))])) _
          refine XS.istoreN X0.here hx rfl (hb hby at_3) rfl (l' := #[.val (.int p1), .val (.int p2), .val (.int p3), .val (.int (p3 &&& (3 : Int32))), .unset, .unset, .unset, .unset, .unset]) rfl ?_
          show Steps p.tables e below (s₁.setTop (mkF m 4 #[.val (.int p1), .val (.int p2), .val (.int p3), .val (.int (p3 &&& (3 : Int32))), .unset, .unset, .unset, .unset, .unset] [])) _
          refine XS.iloadN X0.here hx rfl (hb hby at_4) rfl ?_
          show Steps p.tables e below (s₁.setTop (mkF m 5 #[.val (.int p1), .val (.int p2), .val (.int p3), .val (.int (p3 &&& (3 : Int32))), .unset, .unset, .unset, .unset, .unset] [(.int (p3 &&& (3 : Int32)))])) _
          refine XS.ifYes X0.here hx rfl (pc0 := 5) (pc' := 34) rfl (hb hby at_5) rfl ((if0 _ _).trans (feq hk0).2) (by decide) (by decide) ?_
          show Steps p.tables e below (s₁.setTop (mkF m 34 #[.val (.int p1), .val (.int p2), .val (.int p3), .val (.int (p3 &&& (3 : Int32))), .unset, .unset, .unset, .unset, .unset] [])) _
          refine XS.iloadN X0.here hx rfl (hb hby at_34) rfl ?_
          show Steps p.tables e below (s₁.setTop (mkF m 35 #[.val (.int p1), .val (.int p2), .val (.int p3), .val (.int (p3 &&& (3 : Int32))), .unset, .unset, .unset, .unset, .unset] [(.int p2)])) _
          refine XS.sipush X0.here hx rfl (hb hby at_35) ?_
          show Steps p.tables e below (s₁.setTop (mkF m 38 #[.val (.int p1), .val (.int p2), .val (.int p3), .val (.int (p3 &&& (3 : Int32))), .unset, .unset, .unset, .unset, .unset] [(.int (1001 : Int32)), (.int p2)])) _
          refine iremM X0 hx rfl (hb hby at_38) rfl (by decide) ?_
          rw [hrm]
          show Steps p.tables e below (s₁.setTop (mkF m 39 #[.val (.int p1), .val (.int p2), .val (.int p3), .val (.int (p3 &&& (3 : Int32))), .unset, .unset, .unset, .unset, .unset] [(.int r)])) _
          refine XS.istore X0.here hx rfl (hb hby at_39) rfl (l' := #[.val (.int p1), .val (.int p2), .val (.int p3), .val (.int (p3 &&& (3 : Int32))), .val (.int r), .unset, .unset, .unset, .unset]) rfl ?_
          show Steps p.tables e below (s₁.setTop (mkF m 41 #[.val (.int p1), .val (.int p2), .val (.int p3), .val (.int (p3 &&& (3 : Int32))), .val (.int r), .unset, .unset, .unset, .unset] [])) _
          refine XS.iload X0.here hx rfl (hb hby at_41) rfl ?_
          show Steps p.tables e below (s₁.setTop (mkF m 43 #[.val (.int p1), .val (.int p2), .val (.int p3), .val (.int (p3 &&& (3 : Int32))), .val (.int r), .unset, .unset, .unset, .unset] [(.int r)])) _
          refine XS.i2dS X0.here hx rfl (hb hby at_43) rfl hqm ?_
          show Steps p.tables e below (s₁.setTop (mkF m 44 #[.val (.int p1), .val (.int p2), .val (.int p3), .val (.int (p3 &&& (3 : Int32))), .val (.int r), .unset, .unset, .unset, .unset] [(.double qm)])) _
          refine XS.dstore X0.here hx rfl (hb hby at_44) rfl (l' := #[.val (.int p1), .val (.int p2), .val (.int p3), .val (.int (p3 &&& (3 : Int32))), .val (.int r), .val (.double qm), .second, .unset, .unset]) rfl ?_
          show Steps p.tables e below (s₁.setTop (mkF m 46 #[.val (.int p1), .val (.int p2), .val (.int p3), .val (.int (p3 &&& (3 : Int32))), .val (.int r), .val (.double qm), .second, .unset, .unset] [])) _
          refine XS.iloadN X0.here hx rfl (hb hby at_46) rfl ?_
          show Steps p.tables e below (s₁.setTop (mkF m 47 #[.val (.int p1), .val (.int p2), .val (.int p3), .val (.int (p3 &&& (3 : Int32))), .val (.int r), .val (.double qm), .second, .unset, .unset] [(.int (p3 &&& (3 : Int32)))])) _
          refine XS.iconst X0.here hx rfl (hb hby at_47) ?_
          show Steps p.tables e below (s₁.setTop (mkF m 48 #[.val (.int p1), .val (.int p2), .val (.int p3), .val (.int (p3 &&& (3 : Int32))), .val (.int r), .val (.double qm), .second, .unset, .unset] [(.int (1 : Int32)), (.int (p3 &&& (3 : Int32)))])) _
          refine XS.icmpYes X0.here hx rfl (pc0 := 48) (pc' := 75) rfl (hb hby at_48) rfl (feq hk1).2 (by decide) (by decide) ?_
          show Steps p.tables e below (s₁.setTop (mkF m 75 #[.val (.int p1), .val (.int p2), .val (.int p3), .val (.int (p3 &&& (3 : Int32))), .val (.int r), .val (.double qm), .second, .unset, .unset] [])) _
          refine XS.iloadN X0.here hx rfl (hb hby at_75) rfl ?_
          show Steps p.tables e below (s₁.setTop (mkF m 76 #[.val (.int p1), .val (.int p2), .val (.int p3), .val (.int (p3 &&& (3 : Int32))), .val (.int r), .val (.double qm), .second, .unset, .unset] [(.int (p3 &&& (3 : Int32)))])) _
          refine XS.iconst X0.here hx rfl (hb hby at_76) ?_
          show Steps p.tables e below (s₁.setTop (mkF m 77 #[.val (.int p1), .val (.int p2), .val (.int p3), .val (.int (p3 &&& (3 : Int32))), .val (.int r), .val (.double qm), .second, .unset, .unset] [(.int (2 : Int32)), (.int (p3 &&& (3 : Int32)))])) _
          refine XS.icmpNo X0.here hx rfl (hb hby at_77) rfl (teq hk2).2 ?_
          show Steps p.tables e below (s₁.setTop (mkF m 80 #[.val (.int p1), .val (.int p2), .val (.int p3), .val (.int (p3 &&& (3 : Int32))), .val (.int r), .val (.double qm), .second, .unset, .unset] [])) _
          refine XS.dload X0.here hx rfl (hb hby at_80) rfl ?_
          show Steps p.tables e below (s₁.setTop (mkF m 82 #[.val (.int p1), .val (.int p2), .val (.int p3), .val (.int (p3 &&& (3 : Int32))), .val (.int r), .val (.double qm), .second, .unset, .unset] [(.double qm)])) _
          refine X0.ldc2DoubleC hx hown (mvT hZ (hw _ (List.mem_of_getElem? (i := 0) rfl))) (g := (mkF m 82 #[.val (.int p1), .val (.int p2), .val (.int p3), .val (.int (p3 &&& (3 : Int32))), .val (.int r), .val (.double qm), .second, .unset, .unset] [(.double qm)])) rfl (hb hby at_82) _ ?_
          show Steps p.tables e below (s₁.setTop (mkF m 85 #[.val (.int p1), .val (.int p2), .val (.int p3), .val (.int (p3 &&& (3 : Int32))), .val (.int r), .val (.double qm), .second, .unset, .unset] [(.double own_k2), (.double qm)])) _
          refine XS.dsubS X0.here hx rfl (hb hby at_85) rfl hnk2 hqd ?_
          show Steps p.tables e below (s₁.setTop (mkF m 86 #[.val (.int p1), .val (.int p2), .val (.int p3), .val (.int (p3 &&& (3 : Int32))), .val (.int r), .val (.double qm), .second, .unset, .unset] [(.double qd)])) _
          refine XS.dstore X0.here hx rfl (hb hby at_86) rfl (l' := #[.val (.int p1), .val (.int p2), .val (.int p3), .val (.int (p3 &&& (3 : Int32))), .val (.int r), .val (.double qm), .second, .val (.double qd), .second]) rfl ?_
          show Steps p.tables e below (s₁.setTop (mkF m 88 #[.val (.int p1), .val (.int p2), .val (.int p3), .val (.int (p3 &&& (3 : Int32))), .val (.int r), .val (.double qm), .second, .val (.double qd), .second] [])) _
          refine XS.dload X0.here hx rfl (hb hby at_88) rfl ?_
          show Steps p.tables e below (s₁.setTop (mkF m 90 #[.val (.int p1), .val (.int p2), .val (.int p3), .val (.int (p3 &&& (3 : Int32))), .val (.int r), .val (.double qm), .second, .val (.double qd), .second] [(.double qd)])) _
          refine XS.dload X0.here hx rfl (hb hby at_90) rfl ?_
          show Steps p.tables e below (s₁.setTop (mkF m 92 #[.val (.int p1), .val (.int p2), .val (.int p3), .val (.int (p3 &&& (3 : Int32))), .val (.int r), .val (.double qm), .second, .val (.double qd), .second] [(.double qm), (.double qd)])) _
          refine st1 _ ?_
          show Steps p.tables e below (T1.setTop (mkF m 95 #[.val (.int p1), .val (.int p2), .val (.int p3), .val (.int (p3 &&& (3 : Int32))), .val (.int r), .val (.double qm), .second, .val (.double qd), .second] [(.int (own_below qd qm))])) _
          rw [hl2]
          show Steps p.tables e below (T1.setTop (mkF m 95 #[.val (.int p1), .val (.int p2), .val (.int p3), .val (.int (p3 &&& (3 : Int32))), .val (.int r), .val (.double qm), .second, .val (.double qd), .second] [(.int (1 : Int32))])) _
          exact retN X1 hx (t := .boolean) Bd.returns (by simp) (hb hby at_95) hr
        · show Q0 h0 n0 _ T1.heap _
          rw [e1]
          exact ⟨rfl, N2, rfl⟩
      · skip
        obtain ⟨qd, hqd⟩ : ∃ q, FP.dsub qm own_t = q := ⟨_, rfl⟩
        rw [hqd] at hl3
        obtain ⟨_, _, ⟨T1, L1, k1, n1'⟩, -, X1, ⟨Lc1, hQ1, l1, y1, z1⟩, st1⟩ := Jvm.LawKit.callS X0 hx (y := (⟨"com/example/keyslot/keyslot/model/Bidder", "belowMinimum", "(DD)Z"⟩ : MethodName)) hown (mvT hZ (hw _ (List.mem_of_getElem? (i := 1) rfl))) (mvT hZ (hw _ (List.mem_of_getElem? (i := 2) rfl))) (mvT hZ (hw _ (List.mem_of_getElem? (i := 3) rfl))) (mvT hZ (hw _ (List.mem_of_getElem? (i := 4) rfl))) (by decide) (backOf (W := 0) (rm1 l Z a0 hw [] qd qm hnt h0 n0 Z0) hZ (hw _ (List.mem_of_getElem? (i := 4) rfl)) (hw _ (List.mem_of_getElem? (i := 3) rfl)) (by decide) (by decide)) (g := (mkF m 108 #[.val (.int p1), .val (.int p2), .val (.int p3), .val (.int (p3 &&& (3 : Int32))), .val (.int r), .val (.double qm), .second, .val (.double qd), .second] [(.double qm), (.double qd)])) rfl (by rw [hml]; rfl) (argsL := [(.double qd), (.double qm)]) (rest := []) (lenOf pd_1 rfl) rfl (by show 2 * 0 + _ ≤ _; exact Nat.le_of_eq rfl) (hb hby at_108) (fun _ _ => ⟨rfl, e0, (by decide : 0 + 0 ≤ _), (by decide : 0 + 0 ≤ _)⟩)
        dsimp only [Pt.U, Pt.locs, Pt.cells, Pt.slots] at X1 l1 y1 z1 st1 hQ1
        subst l1 y1 z1
        obtain ⟨rfl, N1, e1⟩ := hQ1
        have N2 := Fr.app N0 N1
        obtain ⟨fs, hr, hrun, hended, hW, hsame⟩ := X1.leave (v := some (.int (1 : Int32))) (fun h => by rw [Bd.returns] at h; cases h)
        refine ⟨_, _, pre0 _ ?_, hrun, hended, _, _, rfl, ?_, ⟨_, rfl⟩, hW, hsame.mono (by decide) (by decide)⟩
        · show Steps p.tables e below (s₁.setTop (mkF m 0 #[.val (.int p1), .val (.int p2), .val (.int p3), .unset, .unset, .unset, .unset, .unset, .unset] [])) _
          refine XS.iloadN X0.here hx rfl (hb hby at_0) rfl ?_
          show Steps p.tables e below (s₁.setTop (mkF m 1 #[.val (.int p1), .val (.int p2), .val (.int p3), .unset, .unset, .unset, .unset, .unset, .unset] [(.int p3)])) _
          refine XS.iconst X0.here hx rfl (hb hby at_1) ?_
          show Steps p.tables e below (s₁.setTop (mkF m 2 #[.val (.int p1), .val (.int p2), .val (.int p3), .unset, .unset, .unset, .unset, .unset, .unset] [(.int (3 : Int32)), (.int p3)])) _
          refine XS.iand X0.here hx rfl (hb hby at_2) rfl ?_
          show Steps p.tables e below (s₁.setTop (mkF m 3 #[.val (.int p1), .val (.int p2), .val (.int p3), .unset, .unset, .unset, .unset, .unset, .unset] [(.int (p3 &&& (3 : Int32)))])) _
          refine XS.istoreN X0.here hx rfl (hb hby at_3) rfl (l' := #[.val (.int p1), .val (.int p2), .val (.int p3), .val (.int (p3 &&& (3 : Int32))), .unset, .unset, .unset, .unset, .unset]) rfl ?_
          show Steps p.tables e below (s₁.setTop (mkF m 4 #[.val (.int p1), .val (.int p2), .val (.int p3), .val (.int (p3 &&& (3 : Int32))), .unset, .unset, .unset, .unset, .unset] [])) _
          refine XS.iloadN X0.here hx rfl (hb hby at_4) rfl ?_
          show Steps p.tables e below (s₁.setTop (mkF m 5 #[.val (.int p1), .val (.int p2), .val (.int p3), .val (.int (p3 &&& (3 : Int32))), .unset, .unset, .unset, .unset, .unset] [(.int (p3 &&& (3 : Int32)))])) _
          refine XS.ifYes X0.here hx rfl (pc0 := 5) (pc' := 34) rfl (hb hby at_5) rfl ((if0 _ _).trans (feq hk0).2) (by decide) (by decide) ?_
          show Steps p.tables e below (s₁.setTop (mkF m 34 #[.val (.int p1), .val (.int p2), .val (.int p3), .val (.int (p3 &&& (3 : Int32))), .unset, .unset, .unset, .unset, .unset] [])) _
          refine XS.iloadN X0.here hx rfl (hb hby at_34) rfl ?_
          show Steps p.tables e below (s₁.setTop (mkF m 35 #[.val (.int p1), .val (.int p2), .val (.int p3), .val (.int (p3 &&& (3 : Int32))), .unset, .unset, .unset, .unset, .unset] [(.int p2)])) _
          refine XS.sipush X0.here hx rfl (hb hby at_35) ?_
          show Steps p.tables e below (s₁.setTop (mkF m 38 #[.val (.int p1), .val (.int p2), .val (.int p3), .val (.int (p3 &&& (3 : Int32))), .unset, .unset, .unset, .unset, .unset] [(.int (1001 : Int32)), (.int p2)])) _
          refine iremM X0 hx rfl (hb hby at_38) rfl (by decide) ?_
          rw [hrm]
          show Steps p.tables e below (s₁.setTop (mkF m 39 #[.val (.int p1), .val (.int p2), .val (.int p3), .val (.int (p3 &&& (3 : Int32))), .unset, .unset, .unset, .unset, .unset] [(.int r)])) _
          refine XS.istore X0.here hx rfl (hb hby at_39) rfl (l' := #[.val (.int p1), .val (.int p2), .val (.int p3), .val (.int (p3 &&& (3 : Int32))), .val (.int r), .unset, .unset, .unset, .unset]) rfl ?_
          show Steps p.tables e below (s₁.setTop (mkF m 41 #[.val (.int p1), .val (.int p2), .val (.int p3), .val (.int (p3 &&& (3 : Int32))), .val (.int r), .unset, .unset, .unset, .unset] [])) _
          refine XS.iload X0.here hx rfl (hb hby at_41) rfl ?_
          show Steps p.tables e below (s₁.setTop (mkF m 43 #[.val (.int p1), .val (.int p2), .val (.int p3), .val (.int (p3 &&& (3 : Int32))), .val (.int r), .unset, .unset, .unset, .unset] [(.int r)])) _
          refine XS.i2dS X0.here hx rfl (hb hby at_43) rfl hqm ?_
          show Steps p.tables e below (s₁.setTop (mkF m 44 #[.val (.int p1), .val (.int p2), .val (.int p3), .val (.int (p3 &&& (3 : Int32))), .val (.int r), .unset, .unset, .unset, .unset] [(.double qm)])) _
          refine XS.dstore X0.here hx rfl (hb hby at_44) rfl (l' := #[.val (.int p1), .val (.int p2), .val (.int p3), .val (.int (p3 &&& (3 : Int32))), .val (.int r), .val (.double qm), .second, .unset, .unset]) rfl ?_
          show Steps p.tables e below (s₁.setTop (mkF m 46 #[.val (.int p1), .val (.int p2), .val (.int p3), .val (.int (p3 &&& (3 : Int32))), .val (.int r), .val (.double qm), .second, .unset, .unset] [])) _
          refine XS.iloadN X0.here hx rfl (hb hby at_46) rfl ?_
          show Steps p.tables e below (s₁.setTop (mkF m 47 #[.val (.int p1), .val (.int p2), .val (.int p3), .val (.int (p3 &&& (3 : Int32))), .val (.int r), .val (.double qm), .second, .unset, .unset] [(.int (p3 &&& (3 : Int32)))])) _
          refine XS.iconst X0.here hx rfl (hb hby at_47) ?_
          show Steps p.tables e below (s₁.setTop (mkF m 48 #[.val (.int p1), .val (.int p2), .val (.int p3), .val (.int (p3 &&& (3 : Int32))), .val (.int r), .val (.double qm), .second, .unset, .unset] [(.int (1 : Int32)), (.int (p3 &&& (3 : Int32)))])) _
          refine XS.icmpYes X0.here hx rfl (pc0 := 48) (pc' := 75) rfl (hb hby at_48) rfl (feq hk1).2 (by decide) (by decide) ?_
          show Steps p.tables e below (s₁.setTop (mkF m 75 #[.val (.int p1), .val (.int p2), .val (.int p3), .val (.int (p3 &&& (3 : Int32))), .val (.int r), .val (.double qm), .second, .unset, .unset] [])) _
          refine XS.iloadN X0.here hx rfl (hb hby at_75) rfl ?_
          show Steps p.tables e below (s₁.setTop (mkF m 76 #[.val (.int p1), .val (.int p2), .val (.int p3), .val (.int (p3 &&& (3 : Int32))), .val (.int r), .val (.double qm), .second, .unset, .unset] [(.int (p3 &&& (3 : Int32)))])) _
          refine XS.iconst X0.here hx rfl (hb hby at_76) ?_
          show Steps p.tables e below (s₁.setTop (mkF m 77 #[.val (.int p1), .val (.int p2), .val (.int p3), .val (.int (p3 &&& (3 : Int32))), .val (.int r), .val (.double qm), .second, .unset, .unset] [(.int (2 : Int32)), (.int (p3 &&& (3 : Int32)))])) _
          refine XS.icmpYes X0.here hx rfl (pc0 := 77) (pc' := 96) rfl (hb hby at_77) rfl (feq hk2).2 (by decide) (by decide) ?_
          show Steps p.tables e below (s₁.setTop (mkF m 96 #[.val (.int p1), .val (.int p2), .val (.int p3), .val (.int (p3 &&& (3 : Int32))), .val (.int r), .val (.double qm), .second, .unset, .unset] [])) _
          refine XS.dload X0.here hx rfl (hb hby at_96) rfl ?_
          show Steps p.tables e below (s₁.setTop (mkF m 98 #[.val (.int p1), .val (.int p2), .val (.int p3), .val (.int (p3 &&& (3 : Int32))), .val (.int r), .val (.double qm), .second, .unset, .unset] [(.double qm)])) _
          refine X0.ldc2DoubleC hx hown (mvT hZ (hw _ (List.mem_of_getElem? (i := 6) rfl))) (g := (mkF m 98 #[.val (.int p1), .val (.int p2), .val (.int p3), .val (.int (p3 &&& (3 : Int32))), .val (.int r), .val (.double qm), .second, .unset, .unset] [(.double qm)])) rfl (hb hby at_98) _ ?_
          show Steps p.tables e below (s₁.setTop (mkF m 101 #[.val (.int p1), .val (.int p2), .val (.int p3), .val (.int (p3 &&& (3 : Int32))), .val (.int r), .val (.double qm), .second, .unset, .unset] [(.double own_t), (.double qm)])) _
          refine XS.dsubS X0.here hx rfl (hb hby at_101) rfl hnt hqd ?_
          show Steps p.tables e below (s₁.setTop (mkF m 102 #[.val (.int p1), .val (.int p2), .val (.int p3), .val (.int (p3 &&& (3 : Int32))), .val (.int r), .val (.double qm), .second, .unset, .unset] [(.double qd)])) _
          refine XS.dstore X0.here hx rfl (hb hby at_102) rfl (l' := #[.val (.int p1), .val (.int p2), .val (.int p3), .val (.int (p3 &&& (3 : Int32))), .val (.int r), .val (.double qm), .second, .val (.double qd), .second]) rfl ?_
          show Steps p.tables e below (s₁.setTop (mkF m 104 #[.val (.int p1), .val (.int p2), .val (.int p3), .val (.int (p3 &&& (3 : Int32))), .val (.int r), .val (.double qm), .second, .val (.double qd), .second] [])) _
          refine XS.dload X0.here hx rfl (hb hby at_104) rfl ?_
          show Steps p.tables e below (s₁.setTop (mkF m 106 #[.val (.int p1), .val (.int p2), .val (.int p3), .val (.int (p3 &&& (3 : Int32))), .val (.int r), .val (.double qm), .second, .val (.double qd), .second] [(.double qd)])) _
          refine XS.dload X0.here hx rfl (hb hby at_106) rfl ?_
          show Steps p.tables e below (s₁.setTop (mkF m 108 #[.val (.int p1), .val (.int p2), .val (.int p3), .val (.int (p3 &&& (3 : Int32))), .val (.int r), .val (.double qm), .second, .val (.double qd), .second] [(.double qm), (.double qd)])) _
          refine st1 _ ?_
          show Steps p.tables e below (T1.setTop (mkF m 111 #[.val (.int p1), .val (.int p2), .val (.int p3), .val (.int (p3 &&& (3 : Int32))), .val (.int r), .val (.double qm), .second, .val (.double qd), .second] [(.int (own_below qd qm))])) _
          refine XS.ifNo X1.here hx rfl (hb hby at_111) rfl ((if0 _ _).trans (teq hl3).2) ?_
          show Steps p.tables e below (T1.setTop (mkF m 114 #[.val (.int p1), .val (.int p2), .val (.int p3), .val (.int (p3 &&& (3 : Int32))), .val (.int r), .val (.double qm), .second, .val (.double qd), .second] [])) _
          refine XS.iconst X1.here hx rfl (hb hby at_114) ?_
          show Steps p.tables e below (T1.setTop (mkF m 115 #[.val (.int p1), .val (.int p2), .val (.int p3), .val (.int (p3 &&& (3 : Int32))), .val (.int r), .val (.double qm), .second, .val (.double qd), .second] [(.int (1 : Int32))])) _
          refine XS.goto X1.here hx rfl (pc0 := 115) (pc' := 119) rfl (hb hby at_115) (by decide) (by decide) ?_
          show Steps p.tables e below (T1.setTop (mkF m 119 #[.val (.int p1), .val (.int p2), .val (.int p3), .val (.int (p3 &&& (3 : Int32))), .val (.int r), .val (.double qm), .second, .val (.double qd), .second] [(.int (1 : Int32))])) _
          exact retN X1 hx (t := .boolean) Bd.returns (by simp) (hb hby at_119) hr
        · show Q0 h0 n0 _ T1.heap _
          rw [e1]
          exact ⟨rfl, N2, rfl⟩
set_option maxRecDepth 65536 in
set_option maxHeartbeats 40000000 in
theorem comes_1 {Post : Tables → Env → Array Value → State → Outcome → State → Prop} (hpost : ∀ tb e args s v u, (limb_1_1.after args s (.returned v) u = true ∧ limb_1_2.after args s (.returned v) u = true ∧ True) → FrameEnd s (.returned v) u (Jvm.fieldLocs frame_1_writes args s ++ Jvm.arrayLocs frame_1_arrays args s ++ Jvm.staticLocs frame_1_statics s) 0 0 → Post tb e args s (.returned v) u) :
    ArmFor flags0 classFile x code maxLocals ret World_1 tables_1 room_1 Calls_1 rest_1 Pre_1 Post := by
  intro l hfl _ _ p e ha hc hk s m args below hf hA hF happ hP
  obtain ⟨hcalls, hrest, hpre⟩ := hP
  obtain ⟨-, -, -, hnamed, -, -, -, hat⟩ := (Spec.applies_iff hf).mp happ
  obtain ⟨hg, hn⟩ := and_e (Cond.before_iff.mp (show (Jvm.Cond.and given_1 narrow_1).before args s = true from hpre))
  obtain ⟨h1, h2⟩ := and_e hg
  obtain ⟨h3, h4⟩ := and_e h2
  obtain ⟨h4, h5⟩ := and_e h4
  obtain ⟨w0, w1, w2, rfl⟩ : ∃ w0 w1 w2 : Value, args = #[w0, w1, w2] := by
    have hs : args.size = 3 := by simpa [Cond.value, given_1] using h1
    obtain ⟨L⟩ := args
    match L, hs with
    | [w0, w1, w2], _ => exact ⟨w0, w1, w2, rfl⟩
  have hw := fun d (hd : d ∈ tables_1) => atoms_spec (ws := Jvm.Cond.code x code maxLocals ret :: tables_1) hat d (List.mem_cons_of_mem _ hd)
  obtain ⟨i7, e6⟩ := is_v h3
  obtain rfl : w0 = (.int i7) := Option.some.inj e6
  obtain ⟨i9, e8⟩ := is_v h4
  obtain rfl : w1 = (.int i9) := Option.some.inj e8
  obtain ⟨i11, e10⟩ := is_v h5
  obtain rfl : w2 = (.int i11) := Option.some.inj e10
  obtain ⟨n, o, h1, h2, h3, _, L, rfl, ⟨rfl, N, -⟩, hq⟩ := rm0 l s _ hw tables_1 i7 i9 i11 s.heap s.heap.size (Nat.le_refl _) p e ha hc hk s m _ below hf ((Spec.applies_iff_loose hf).mp happ).1 ⟨rfl, State.Warmed39.refl s, rfl⟩ trivial
  refine ⟨n, _, h1, h2, h3, hpost _ _ _ _ _ _ ⟨Cond.after_iff.mpr rfl, Cond.after_iff.mpr (eq_i res_at (Term.int_eval (1)) rfl), trivial⟩ ⟨hq.1, hq.2.1, (hq.2.2.sift fun y hy => Or.inr (N y hy)).mono (by decide) (by decide)⟩⟩
theorem main_1_1 : Claimed_1_1 := comes_1 fun _ _ _ _ _ _ h hF => ⟨h.1, hF⟩
theorem main_1_2 : Claimed_1_2 := comes_1 fun _ _ _ _ _ _ h hF => ⟨h.2.1, hF⟩
end Jvm.Pilot.@@N@@
namespace Jvm.Pilot.@@N@@
open Jvm Jvm.ClassFile Sem Op Lib Jvm.Free Jvm.Stand Jvm.Pilot.@@N@@.Jvm.D
/-! MADE BY PROGRAM (witnessworld.py) out of the Statement's table words and the real class files: 10 classes; the members and pool entries that the words name. The judged class is class 1, her method 1. -/
namespace start1
open Jvm.ClassFile
def u (s : String) : CpInfo := .utf8 (stringToUtf16 s)
/-- a pool by its gaps: so many unusable entries, then the entry; so many at the end -/
def gap : Nat → List CpInfo → List CpInfo
  | 0, r => r
  | n + 1, r => .unusable :: gap n r
def poolList (es : List (Nat × CpInfo)) (last : Nat) : List CpInfo := es.foldr (fun e r => gap e.1 (e.2 :: r)) (gap last [])
def pool (es : List (Nat × CpInfo)) (last : Nat) : Array CpInfo := ⟨poolList es last⟩
def fileOf (pool : Array CpInfo) (this : Nat) (attrs : Array Attribute := #[]) (ms : Array MethodInfo := #[]) (fl : Nat := 33) (sup : Nat := 0) (ifs : Array Nat := #[]) (fds : Array FieldInfo := #[]) : ClassFile where
  minorVersion := 0
  majorVersion := 65
  constantPool := pool
  accessFlags := fl
  thisClass := this
  superClass := sup
  interfaces := ifs
  fields := fds
  methods := ms
  attributes := attrs
def plain (name : String) (sup : Option ClassId) : Class where
  name := name
  kind := .ordinary
  loader := none
  accessFlags := 33
  super := sup
  interfaces := #[]
  cf := none
  fields := #[]
  methods := #[]
  instanceTypes := #[]
  staticTypes := #[]
  resolved := #[]
  callSites := []
  init := .initialized
  statics := none
  mirror := none

def pool0 : Array CpInfo := pool [(5, u "<init>"), (0, u "()V"), (1, .class_ 10), (1, u "java/lang/Object")] 113

def k0m0 : Method := { name := "<init>", desc := "()V", sig := { parameters := [], returnType := none }, accessFlags := 1, code := none }
/-- java/lang/Object -/
def k0 : Class := { plain "java/lang/Object" none with
  accessFlags := 33
  interfaces := #[]
  cf := some (fileOf pool0 8 #[] #[{ accessFlags := 1, nameIndex := 5, descriptorIndex := 6, attributes := #[] }] 33 0 #[] #[])
  fields := #[]
  methods := #[k0m0]
  instanceTypes := #[]
  staticTypes := #[]
  resolved := Array.replicate 124 none
  statics := none }

def pool1 : Array CpInfo := pool [(2, .class_ 4), (1, u "java/lang/Object"), (0, u "<init>"), (0, u "()V"), (0, .methodref 8 9), (0, .class_ 10), (0, .nameAndType 11 12), (0, u "com/example/keyslot/keyslot/model/Bidder"), (0, u "belowMinimum"), (0, u "(DD)Z"), (0, .double 4467902934002620053), (1, .double 4476910133257361045), (1, .double 4472406533629990549), (1, .class_ 20), (0, u "com/example/keyslot/keyslot/model/BidderBelowMinimumPinLaw"), (2, u "law"), (0, u "(III)Z")] 3

def k1m0 : Method := { name := "<init>", desc := "()V", sig := { parameters := [], returnType := none }, accessFlags := 2, code := none }
def k1c1 : Code := { maxStack := 4, maxLocals := 9, code := code, exceptionTable := #[], attributes := #[] }
def k1m1 : Method := { name := "law", desc := "(III)Z", sig := { parameters := [.int, .int, .int], returnType := some .boolean }, accessFlags := 9, code := some k1c1 }
/-- com/example/keyslot/keyslot/model/BidderBelowMinimumPinLaw -/
def k1 : Class := { plain "com/example/keyslot/keyslot/model/BidderBelowMinimumPinLaw" (some 0) with
  accessFlags := 49
  interfaces := #[]
  cf := some (fileOf pool1 19 #[] #[{ accessFlags := 2, nameIndex := 5, descriptorIndex := 6, attributes := #[] }, { accessFlags := 9, nameIndex := 23, descriptorIndex := 24, attributes := #[] }] 49 2 #[] #[])
  fields := #[]
  methods := #[k1m0, k1m1]
  instanceTypes := #[]
  staticTypes := #[]
  resolved := Array.replicate 28 none
  statics := none }

def pool2 : Array CpInfo := pool [(2, .class_ 4), (1, u "java/lang/Object"), (0, u "<init>"), (0, u "()V"), (0, .class_ 8), (0, u "java/lang/Record")] 13

def k2m0 : Method := { name := "<init>", desc := "()V", sig := { parameters := [], returnType := none }, accessFlags := 4, code := none }
/-- java/lang/Record -/
def k2 : Class := { plain "java/lang/Record" (some 0) with
  accessFlags := 1057
  interfaces := #[]
  cf := some (fileOf pool2 7 #[] #[{ accessFlags := 4, nameIndex := 5, descriptorIndex := 6, attributes := #[] }] 1057 2 #[] #[])
  fields := #[]
  methods := #[k2m0]
  instanceTypes := #[]
  staticTypes := #[]
  resolved := Array.replicate 22 none
  statics := none }

def pool3 : Array CpInfo := pool [(2, .class_ 4), (1, u "java/lang/Record"), (3, u "name"), (7, .class_ 18), (1, u "com/example/keyslot/keyslot/model/Bidder"), (0, u "Ljava/lang/String;"), (2, u "value"), (0, u "D"), (2, u "bid"), (2, u "relevance"), (2, u "minimumPrice"), (5, .double 4472406533629990549), (19, u "belowMinimum"), (0, u "(DD)Z")] 29

def k3c0 : Code := { maxStack := 6, maxLocals := 4, code := prog_46_method_4_code, exceptionTable := #[], attributes := #[] }
def k3m0 : Method := { name := "belowMinimum", desc := "(DD)Z", sig := { parameters := [.double, .double], returnType := some .boolean }, accessFlags := 9, code := some k3c0 }
/-- com/example/keyslot/keyslot/model/Bidder -/
def k3 : Class := { plain "com/example/keyslot/keyslot/model/Bidder" (some 2) with
  accessFlags := 49
  interfaces := #[]
  cf := some (fileOf pool3 16 #[] #[{ accessFlags := 9, nameIndex := 58, descriptorIndex := 59, attributes := #[] }] 49 2 #[] #[{ accessFlags := 18, nameIndex := 8, descriptorIndex := 19, attributes := #[] }, { accessFlags := 18, nameIndex := 22, descriptorIndex := 23, attributes := #[] }, { accessFlags := 18, nameIndex := 26, descriptorIndex := 23, attributes := #[] }, { accessFlags := 18, nameIndex := 29, descriptorIndex := 23, attributes := #[] }, { accessFlags := 18, nameIndex := 32, descriptorIndex := 23, attributes := #[] }])
  fields := #[{ name := "name", type := (.object "java/lang/String"), accessFlags := 18, slot := 0, constantValue := 0 }, { name := "value", type := .double, accessFlags := 18, slot := 1, constantValue := 0 }, { name := "bid", type := .double, accessFlags := 18, slot := 2, constantValue := 0 }, { name := "relevance", type := .double, accessFlags := 18, slot := 3, constantValue := 0 }, { name := "minimumPrice", type := .double, accessFlags := 18, slot := 4, constantValue := 0 }]
  methods := #[k3m0]
  instanceTypes := #[(.object "java/lang/String"), .double, .double, .double, .double]
  staticTypes := #[]
  resolved := Array.replicate 89 none
  statics := none }

def pool4 : Array CpInfo := pool [(1, u "java/lang/Cloneable"), (0, .class_ 1), (0, u "java/lang/Object"), (0, .class_ 3)] 3

/-- java/lang/Cloneable -/
def k4 : Class := { plain "java/lang/Cloneable" (some 0) with
  accessFlags := 1537
  interfaces := #[]
  cf := some (fileOf pool4 2 #[] #[] 1537 4 #[] #[])
  fields := #[]
  methods := #[]
  instanceTypes := #[]
  staticTypes := #[]
  resolved := Array.replicate 8 none
  statics := none }

def pool5 : Array CpInfo := pool [(1, u "java/io/Serializable"), (0, .class_ 1), (0, u "java/lang/Object"), (0, .class_ 3)] 3

/-- java/io/Serializable -/
def k5 : Class := { plain "java/io/Serializable" (some 0) with
  accessFlags := 1537
  interfaces := #[]
  cf := some (fileOf pool5 2 #[] #[] 1537 4 #[] #[])
  fields := #[]
  methods := #[]
  instanceTypes := #[]
  staticTypes := #[]
  resolved := Array.replicate 8 none
  statics := none }

/-- the primitive byte -/
def k6 : Class := { plain "byte" none with kind := .primitive 'B', accessFlags := 0x411 }
/-- [B -/
def k7 : Class := { plain "[B" (some 0) with kind := .array 6 .byte, interfaces := #[4, 5], accessFlags := 1041 }

/-- the primitive int -/
def k8 : Class := { plain "int" none with kind := .primitive 'I', accessFlags := 0x411 }
/-- [I -/
def k9 : Class := { plain "[I" (some 0) with kind := .array 8 .int, interfaces := #[4, 5], accessFlags := 1041 }

def heap : Heap := #[]
def classes : Array Class := #[k0, k1, k2, k3, k4, k5, k6, k7, k8, k9]
def interned : List (Array UInt16 × Addr) := []
def slotsUsed : Nat := 0
def theMethod : MethodId := ⟨1, 1⟩
def args0 : Array Value := #[.int 5, .int 7, .int 2]
def aboutOver (below : List Frame) : State where
  vm := { classes := classes, interned := interned.toArray }
  heap := heap
  slotsUsed := slotsUsed
  threads := #[{ frames := .invoking theMethod args0 :: below }]
def below0 : List Frame := [.native { method := ⟨0, 0⟩, args := #[] }]
def about1 : State := aboutOver below0
def p0 : Program := .bare "" "" ""
def e0 : Env := launch0.env 0 0 0
theorem w_frames : about1.frames = Frame.invoking theMethod args0 :: below0 := rfl
set_option maxRecDepth 65536 in
theorem w_args : argsFit about1.vm theMethod args0 = true := by decide +kernel
set_option maxRecDepth 65536 in
theorem w_heap : heapFits about1 = true := by decide +kernel
set_option maxRecDepth 65536 in
theorem w_runnable : about1.curStatus? = some .runnable := by decide +kernel
set_option maxRecDepth 65536 in
theorem w_alone : about1.alone = true := by decide +kernel
set_option maxRecDepth 65536 in
theorem w_named : about1.methodNamed? x = some theMethod := by decide +kernel
set_option maxRecDepth 65536 in
theorem w_hears : about1.hears theMethod below0 = true := by decide +kernel
set_option maxRecDepth 65536 in
theorem w_ripe : about1.ripe theMethod args0 below0 = true := by decide +kernel
theorem w_running : about1.status = .running := rfl
set_option maxRecDepth 65536 in
theorem w_room : about1.hasRoom e0.platform room_1 = true :=
  launch0.hasRoom_least _ room_1 (by decide +kernel) (by decide +kernel) (by decide +kernel) (by decide +kernel) (by decide +kernel) (by decide +kernel)
theorem allAtoms_all (ts : List Jvm.Cond) (a : Array Jvm.Value) (st : Jvm.State) : (allAtoms ts).before a st = ts.all (fun c => c.before a st) := by
  induction ts with
  | nil => rfl
  | cons c t ih =>
    show (Jvm.Cond.and c (allAtoms t)).before a st = _
    rw [Jvm.Cond.before_and, ih, List.all_cons]
def words1 : List Jvm.Cond := Jvm.Cond.code x code maxLocals ret :: tables_1
/-- a 'code' word, met by the world's own term for the bytes: nothing is compared byte by byte -/
theorem code_word {y : MethodName} {bytes : ByteArray} {mx : Nat} {rt : Option FieldType} {a : Array Value} {s : State} {m : MethodId} {meth : Method} {c : Code} (h1 : s.methodNamed? y = some m) (h2 : s.vm.method? m = some meth) (h3 : meth.code = some c) (h4 : c.code = bytes)
    (h5 : (c.maxLocals == mx && c.exceptionTable.isEmpty && decide (c.maxStack ≤ mostOperands) && decide (meth.sig.returnType = rt) && !meth.locks && decide (parseMethodDescriptor y.desc = some meth.sig)) = true) : (Jvm.Cond.code y bytes mx rt).before a s = true := by
  simp only [Bool.and_eq_true, beq_iff_eq, Bool.not_eq_true', decide_eq_true_eq] at h5
  obtain ⟨⟨⟨⟨⟨g1, g2⟩, g3⟩, g4⟩, g5⟩, g6⟩ := h5
  simp [Cond.before, Cond.holds, Cond.value, h1, h2, h3, h4, g1, g2, g3, g4, g5, g6]
def isCode : Jvm.Cond → Bool
  | .code _ _ _ _ => true
  | _ => false
theorem all_split {L : List Jvm.Cond} {P : Jvm.Cond → Bool} (h1 : L.all (fun c => isCode c || P c) = true) (h2 : ∀ c ∈ L.filter isCode, P c = true) : L.all P = true := by
  refine List.all_eq_true.mpr fun c hc => ?_
  have h := List.all_eq_true.mp h1 c hc
  rcases Bool.eq_false_or_eq_true (isCode c) with hi | hi
  · exact h2 c (List.mem_filter.mpr ⟨hc, hi⟩)
  · simpa [hi] using h
set_option maxRecDepth 65536 in
theorem w_c0 : (Jvm.Cond.code x code maxLocals ret).before args0 about1 = true := code_word (m := ⟨1, 1⟩) (meth := k1m1) (c := k1c1) (by decide +kernel) rfl rfl rfl (by decide +kernel)
set_option maxRecDepth 65536 in
theorem w_c1 : (Jvm.Cond.code ({ cls := "com/example/keyslot/keyslot/model/Bidder", name := "belowMinimum", desc := "(DD)Z" } : Jvm.MethodName) prog_46_method_4_code (4 : Nat) (Option.some Jvm.ClassFile.FieldType.boolean)).before args0 about1 = true := code_word (m := ⟨3, 0⟩) (meth := k3m0) (c := k3c0) (by decide +kernel) rfl rfl rfl (by decide +kernel)
def codes1 : List Jvm.Cond := [Jvm.Cond.code x code maxLocals ret, Jvm.Cond.code ({ cls := "com/example/keyslot/keyslot/model/Bidder", name := "belowMinimum", desc := "(DD)Z" } : Jvm.MethodName) prog_46_method_4_code (4 : Nat) (Option.some Jvm.ClassFile.FieldType.boolean)]
set_option maxRecDepth 65536 in
theorem codes_eq : words1.filter isCode = codes1 := rfl
theorem w_codes : ∀ c ∈ words1.filter isCode, c.before args0 about1 = true := by
  rw [codes_eq]
  intro c hc
  simp only [codes1, List.mem_cons, List.not_mem_nil, or_false] at hc
  rcases hc with rfl | rfl
  · exact w_c0
  · exact w_c1
set_option maxRecDepth 65536 in
theorem w_t1 : words1.all (fun c => isCode c || c.before args0 about1) = true := by decide +kernel
theorem w_tables : (allAtoms (Jvm.Cond.code x code maxLocals ret :: tables_1)).before args0 about1 = true := by
  rw [allAtoms_all]
  show words1.all (fun c => c.before args0 about1) = true
  refine all_split ?_ w_codes
  rw [w_t1]
set_option maxRecDepth 65536 in
theorem w_case : (Jvm.Cond.and given_1 narrow_1).before args0 about1 = true := by decide +kernel
theorem w_applies : (headSpec (Jvm.Cond.code x code maxLocals ret :: tables_1) room_1).applies x e0.platform about1 = true :=
  (Spec.applies_iff w_frames).mpr ⟨w_running, w_runnable, w_alone, w_named, w_hears, w_ripe, w_room, w_tables⟩
theorem atStart : AtStart classFile x code maxLocals ret World_1 tables_1 room_1 Calls_1 rest_1 Pre_1 launch0 p0 e0 about1 theMethod args0 below0 :=
  ⟨lists_1, trivial, launch0.admits_env _ _ _, launch0.least_env, fairChoices_fair.cas, fairChoices_fair.clock, w_frames, w_args, w_heap, w_applies, trivial, trivial, w_case⟩
end start1
theorem witness_1 : WitnessClaimed_1 := ⟨start1.p0, start1.e0, start1.about1, start1.theMethod, start1.args0, start1.below0, start1.atStart⟩
end Jvm.Pilot.@@N@@
