import JvmDerived
import JvmDerived.Pilot.@@N@@Statement
import JvmDerived.Pilot.@@N@@Code
set_option linter.unusedVariables false
set_option linter.unusedSimpArgs false
namespace Jvm.RoadKit
open Sem ClassFile Op Lib Jvm.Stand Jvm.Free Jvm.LawKit
section New
variable {p : Program} {l : Launch} {e : Env} {R : Room} {s : State} {m : MethodId} {args : Array Value} {below : List Frame} {meth : Method} {c : Code} {T : State} {locs : List Loc} {cells slots : Nat}
theorem retI (X : Stand p l e R s m args below meth c T locs cells slots) (hx : p.tables.exec = Jvm.exec) {pc : Nat} {Ls : Array Slot} {z : Int32} {rest : List Value} (hret : meth.sig.returnType = some .int) (hd : decode c.code pc = .ok (.ireturn, 1)) {fs : List Frame}
    (hl : ∀ (f : JFrame) (acts : List Action), f.method = m → f.locked = none → f.entered = [] → (doReturn e (T.setTop f) acts (some (.int z))).1 = T.setFrames fs) : Steps p.tables e below (T.setTop (mkF m pc Ls (.int z :: rest))) (T.setFrames fs) := by
  have hm' : T.vm.method? m = some meth := X.method'
  have hn : narrow .int (.int z) = .int z := rfl
  show Steps p.tables e below (T.setTop { method := m, pc := pc, locals := Ls, stack := _ :: rest, locked := none }) _
  jvm_step X.here [X.here.top, hx, hd, hm', hret, hn]
  first | (intro acts; rw [hl _ acts rfl rfl rfl]) | rw [hl _ _ rfl rfl rfl]
  exact Steps.refl _
end New
end Jvm.RoadKit
namespace Jvm.Pilot.@@N@@
open Jvm Jvm.ClassFile Sem Op Lib Jvm.Free Jvm.Stand Jvm.LawKit Jvm.RoadKit Bundle Jvm.Pilot.@@N@@.Jvm.D
/-! 1. WHAT IS SAID OF A QUEUE: its thirteen fields, its arrays -/
def own_nm : Nat → String
  | 0 => "times" | 1 => "heapSlots" | 2 => "positions" | 3 => "pairs" | 4 => "routes" | 5 => "starts" | 6 => "widths"
  | 7 => "backups" | 8 => "backupStarts" | 9 => "backupWidths" | 10 => "freeSlots" | 11 => "size" | _ => "freeCount"
def own_ds : Nat → String
  | 0 => "[D" | 4 => "[[I" | 7 => "[[I" | 11 => "I" | 12 => "I" | _ => "[I"
def own_dt : Nat → FieldType
  | 0 => .array .double | 4 => .array (.array .int) | 7 => .array (.array .int) | 11 => .int | 12 => .int | _ => .array .int
theorem own_laid {Z : State} {a0 : Array Value} (hw : ∀ d ∈ tables_1, d.before a0 Z = true) : ∀ i, i < 13 → Laid Z a0 "com/example/weaver_ant/weaverant/simulation/DepartureQueue" "com/example/weaver_ant/weaverant/simulation/DepartureQueue" (own_nm i) (own_ds i) := by
  intro i hi
  match i, hi with
  | 0, _ => exact Or.inl (hw _ (List.mem_of_getElem? (i := 12) rfl))
  | 1, _ => exact Or.inl (hw _ (List.mem_of_getElem? (i := 14) rfl))
  | 2, _ => exact Or.inl (hw _ (List.mem_of_getElem? (i := 16) rfl))
  | 3, _ => exact Or.inl (hw _ (List.mem_of_getElem? (i := 18) rfl))
  | 4, _ => exact Or.inl (hw _ (List.mem_of_getElem? (i := 22) rfl))
  | 5, _ => exact Or.inl (hw _ (List.mem_of_getElem? (i := 24) rfl))
  | 6, _ => exact Or.inl (hw _ (List.mem_of_getElem? (i := 26) rfl))
  | 7, _ => exact Or.inl (hw _ (List.mem_of_getElem? (i := 28) rfl))
  | 8, _ => exact Or.inl (hw _ (List.mem_of_getElem? (i := 30) rfl))
  | 9, _ => exact Or.inl (hw _ (List.mem_of_getElem? (i := 32) rfl))
  | 10, _ => exact Or.inl (hw _ (List.mem_of_getElem? (i := 34) rfl))
  | 11, _ => exact Or.inl (hw _ (List.mem_of_getElem? (i := 41) rfl))
  | 12, _ => exact Or.inl (hw _ (List.mem_of_getElem? (i := 43) rfl))
  | n + 13, h => exact absurd h (by omega)
theorem own_parse : ∀ i, i < 13 → parseFieldDescriptor (own_ds i) = some (own_dt i) := by decide +kernel
theorem own_nne : ∀ i, i < 13 → ∀ j, j < 13 → i ≠ j → own_nm i ≠ own_nm j := by decide +kernel
/-- field i holds val i -/
def own_F (Z : State) (h : Heap) (q : Addr) (val : Nat → Value) : Prop := ∀ i, i < 13 → Fld Z h q "com/example/weaver_ant/weaverant/simulation/DepartureQueue" (own_nm i) (own_ds i) (val i)
section Own
variable {Z : State} {h h' h2 : Heap} {a b q : Addr} {a0 : Array Value} {val : Nat → Value} {v : Value} {j : Nat}
theorem own_F_set (hw : ∀ d ∈ tables_1, d.before a0 Z = true) (F : own_F Z h q val) (k : Nat) (hk : k < 13) (W : Wr h h' q (Jvm.RoadKit.slotOf Z "com/example/weaver_ant/weaverant/simulation/DepartureQueue" (own_nm k) (own_ds k)) v) : own_F Z h' q (fun i => if i = k then v else val i) := by
  intro i hi
  show Fld Z h' q "com/example/weaver_ant/weaverant/simulation/DepartureQueue" (own_nm i) (own_ds i) (if i = k then v else val i)
  by_cases e : i = k
  · subst e
    rw [if_pos rfl]
    exact (F i hi).same W
  · rw [if_neg e]
    exact (F i hi).other W (Or.inr (slot_ne (own_laid hw i hi) (own_laid hw k hk) (own_nne i hi k hk e) (own_parse i hi) (own_parse k hk)))
theorem own_F_ext (E : Ext h h') (F : own_F Z h q val) : own_F Z h' q val := fun i hi => (F i hi).ext E
theorem own_F_other (F : own_F Z h q val) (W : Wr h h' a j v) (ne : q ≠ a) : own_F Z h' q val := fun i hi => (F i hi).other W (Or.inl ne)
/-- an array of 64 places: what each holds -/
def own_A (Z : State) (h : Heap) (a : Addr) (k : ClassId) (ty : FieldType) (P : Nat → Value → Prop) : Prop := ∃ c : Cell, Arr Z h a c ty ∧ c.cls = k ∧ c.slots.size = 64 ∧ ∀ j, j < 64 → ∃ v, c.slots[j]? = some v ∧ P j v
variable {k : ClassId} {ty : FieldType} {P P' : Nat → Value → Prop}
theorem own_A_ext (E : Ext h h') (F : own_A Z h a k ty P) : own_A Z h' a k ty P := by
  obtain ⟨c, A, r⟩ := F; exact ⟨c, A.ext E, r⟩
theorem own_A_other (F : own_A Z h b k ty P) (W : Wr h h' a j v) (ne : b ≠ a) : own_A Z h' b k ty P := by
  obtain ⟨c, A, r⟩ := F; exact ⟨c, A.other W ne, r⟩
theorem own_A_mono (F : own_A Z h a k ty P) (H : ∀ i w, P i w → P' i w) : own_A Z h a k ty P' := by
  obtain ⟨c, A, e1, S, G⟩ := F
  exact ⟨c, A, e1, S, fun i hi => by obtain ⟨w, g1, g2⟩ := G i hi; exact ⟨w, g1, H i w g2⟩⟩
theorem own_A_st (F : own_A Z h a k ty P) (W : Wr h h' a j v) (h1 : P' j v) (h3 : ∀ i w, i ≠ j → P i w → P' i w) : own_A Z h' a k ty P' := by
  obtain ⟨c, A, e1, S, G⟩ := F
  refine ⟨_, A.same W, e1, by rw [sz_set]; exact S, fun i hi => ?_⟩
  by_cases u : j = i
  · subst u
    exact ⟨v, by simp [Cell.setSlot, S, hi], h1⟩
  · obtain ⟨w, g1, g2⟩ := G i hi
    refine ⟨w, ?_, h3 i w (fun z => u z.symm) g2⟩
    simp only [Cell.setSlot]
    rw [Array.getElem?_setIfInBounds_ne u]
    exact g1
theorem own_64 : (64 : Int32).toNatClampNeg = 64 := by decide
theorem own_A_new (A : Arr Z h a (newA k ty 64) ty) (H : ∀ i, P i (defaultValue ty)) : own_A Z h a k ty P := by
  refine ⟨_, A, rfl, by rw [sz_new, own_64], fun i hi => ⟨defaultValue ty, ?_, H i⟩⟩
  simp [newA, hi]
theorem own_inb {c : Cell} {i : Int32} (S : c.slots.size = 64) (q : ¬ i < 0 ∧ i < 64) : ¬ (i < 0 ∨ c.slots.size ≤ i.toNatClampNeg) := inb_of (z := 64) (by rw [S, own_64]) q
theorem own_lt {i : Int32} (q : ¬ i < 0 ∧ i < 64) : i.toNatClampNeg < 64 := by
  obtain ⟨q1, q2⟩ := q
  have e0 : (0 : Int32).toInt = 0 := rfl
  have e1 : (64 : Int32).toInt = 64 := rfl
  simp only [Int32.lt_iff_toInt_lt, Int32.toNatClampNeg, e0, e1] at *
  omega
/-- what the ten arrays hold: 0 doubles, 1 slots' numbers, 2 and 3 anything, 4 to 9 by f -/
def own_ty : Nat → FieldType
  | 0 => .double | 4 => .array .int | 7 => .array .int | _ => .int
def own_P (f : Nat → Nat → Value) : Nat → Nat → Value → Prop
  | 0, _, v => ∃ d, v = .double d
  | 1, _, v => ∃ w : Int32, v = .int w ∧ ¬ w < 0 ∧ w < 64
  | 2, _, _ => True
  | 3, _, _ => True
  | i + 4, j, v => v = f (i + 4) j
def own_upd (f : Nat → Nat → Value) (k n : Nat) (v : Value) : Nat → Nat → Value := fun i j => if i = k ∧ j = n then v else f i j
def own_As (Z : State) (h : Heap) (ad : Nat → Addr) (kk : Nat → ClassId) (f : Nat → Nat → Value) : Prop := ∀ i, i < 10 → own_A Z h (ad i) (kk i) (own_ty i) (own_P f i)
def own_D (q : Addr) (ad : Nat → Addr) (n0 : Nat) : Prop := n0 ≤ q ∧ (∀ i, i < 10 → q ≠ ad i ∧ n0 ≤ ad i) ∧ ∀ i, i < 10 → ∀ j, j < 10 → i ≠ j → ad i ≠ ad j
def own_val (ad : Nat → Addr) (n : Int32) (i : Nat) : Value := if i < 11 then .ref (ad i) else if i = 11 then .int n else .int 0
def own_Q (Z : State) (h : Heap) (q : Addr) (ad : Nat → Addr) (kk : Nat → ClassId) (n : Int32) (f : Nat → Nat → Value) : Prop := Exa Z h q "com/example/weaver_ant/weaverant/simulation/DepartureQueue" ∧ own_F Z h q (own_val ad n) ∧ own_As Z h ad kk f
def own_ws (q : Addr) (ad : Nat → Addr) : List Addr := q :: (List.range 10).map ad
variable {ad : Nat → Addr} {kk : Nat → ClassId} {n : Int32} {f f' : Nat → Nat → Value} {n0 : Nat}
theorem own_mem (i : Nat) (hi : i < 10) : ad i ∈ own_ws q ad := List.mem_cons_of_mem _ (List.mem_map.mpr ⟨i, List.mem_range.mpr hi, rfl⟩)
theorem own_memq : q ∈ own_ws q ad := List.mem_cons_self
theorem own_As_st (D : own_D q ad n0) (A : own_As Z h ad kk f) (i : Nat) (hi : i < 10) (W : Wr h h' (ad i) j v) (h1 : own_P f' i j v) (h3 : ∀ x jj w, (x = i → jj ≠ j) → own_P f x jj w → own_P f' x jj w) : own_As Z h' ad kk f' := by
  intro x hx
  by_cases e : x = i
  · subst e
    exact own_A_st (A x hx) W h1 (fun jj w u g => h3 x jj w (fun _ => u) g)
  · exact own_A_mono (own_A_other (A x hx) W (D.2.2 x hx i hi e)) (fun jj w g => h3 x jj w (fun z => absurd z e) g)
theorem own_Q_any (D : own_D q ad n0) (Q : own_Q Z h q ad kk n f) (i : Nat) (hi : i < 10) (W : Wr h h' (ad i) j v) (h1 : own_P f' i j v) (h3 : ∀ x jj w, (x = i → jj ≠ j) → own_P f x jj w → own_P f' x jj w) : own_Q Z h' q ad kk n f' :=
  ⟨Q.1.wr W, own_F_other Q.2.1 W (D.2.1 i hi).1, own_As_st D Q.2.2 i hi W h1 h3⟩
theorem own_Q_lo (D : own_D q ad n0) (Q : own_Q Z h q ad kk n f) (i : Nat) (hi : i < 10) (W : Wr h h' (ad i) j v) (h1 : own_P f i j v) : own_Q Z h' q ad kk n f :=
  own_Q_any D Q i hi W h1 (fun _ _ _ _ g => g)
theorem own_Q_hi (D : own_D q ad n0) (Q : own_Q Z h q ad kk n f) (i : Nat) (hi : i < 10) (h4 : 4 ≤ i) (W : Wr h h' (ad i) j v) : own_Q Z h' q ad kk n (own_upd f i j v) := by
  refine own_Q_any D Q i hi W ?_ ?_
  · obtain ⟨x, rfl⟩ : ∃ x, i = x + 4 := ⟨i - 4, by omega⟩
    show v = own_upd f (x + 4) j v (x + 4) j
    exact (if_pos ⟨rfl, rfl⟩).symm
  · intro x jj w u g
    match x, u, g with
    | 0, _, g => exact g
    | 1, _, g => exact g
    | 2, _, g => exact g
    | 3, _, g => exact g
    | y + 4, u, g =>
      show w = own_upd f i j v (y + 4) jj
      have : own_upd f i j v (y + 4) jj = f (y + 4) jj := if_neg (fun z => u z.1 z.2)
      rw [this]; exact g
theorem own_val_size (n m : Int32) : (fun i => if i = 11 then Value.int m else own_val ad n i) = own_val ad m := by
  funext i
  unfold own_val
  by_cases e : i = 11
  · subst e; rfl
  · simp [e]
theorem own_Q_size (hw : ∀ d ∈ tables_1, d.before a0 Z = true) (D : own_D q ad n0) (Q : own_Q Z h q ad kk n f) (m : Int32) (W : Wr h h' q (Jvm.RoadKit.slotOf Z "com/example/weaver_ant/weaverant/simulation/DepartureQueue" "size" "I") (.int m)) : own_Q Z h' q ad kk m f := by
  refine ⟨Q.1.wr W, ?_, fun i hi => own_A_other (Q.2.2 i hi) W (fun z => (D.2.1 i hi).1 z.symm)⟩
  have := own_F_set hw Q.2.1 11 (by decide) W
  rw [own_val_size] at this
  exact this
/-- the fields' facts, by name -/
theorem own_f0 (Q : own_Q Z h q ad kk n f) : Fld Z h q "com/example/weaver_ant/weaverant/simulation/DepartureQueue" "times" "[D" (.ref (ad 0)) := Q.2.1 0 (by decide)
theorem own_f1 (Q : own_Q Z h q ad kk n f) : Fld Z h q "com/example/weaver_ant/weaverant/simulation/DepartureQueue" "heapSlots" "[I" (.ref (ad 1)) := Q.2.1 1 (by decide)
theorem own_f2 (Q : own_Q Z h q ad kk n f) : Fld Z h q "com/example/weaver_ant/weaverant/simulation/DepartureQueue" "positions" "[I" (.ref (ad 2)) := Q.2.1 2 (by decide)
theorem own_f3 (Q : own_Q Z h q ad kk n f) : Fld Z h q "com/example/weaver_ant/weaverant/simulation/DepartureQueue" "pairs" "[I" (.ref (ad 3)) := Q.2.1 3 (by decide)
theorem own_f4 (Q : own_Q Z h q ad kk n f) : Fld Z h q "com/example/weaver_ant/weaverant/simulation/DepartureQueue" "routes" "[[I" (.ref (ad 4)) := Q.2.1 4 (by decide)
theorem own_f5 (Q : own_Q Z h q ad kk n f) : Fld Z h q "com/example/weaver_ant/weaverant/simulation/DepartureQueue" "starts" "[I" (.ref (ad 5)) := Q.2.1 5 (by decide)
theorem own_f6 (Q : own_Q Z h q ad kk n f) : Fld Z h q "com/example/weaver_ant/weaverant/simulation/DepartureQueue" "widths" "[I" (.ref (ad 6)) := Q.2.1 6 (by decide)
theorem own_f7 (Q : own_Q Z h q ad kk n f) : Fld Z h q "com/example/weaver_ant/weaverant/simulation/DepartureQueue" "backups" "[[I" (.ref (ad 7)) := Q.2.1 7 (by decide)
theorem own_f8 (Q : own_Q Z h q ad kk n f) : Fld Z h q "com/example/weaver_ant/weaverant/simulation/DepartureQueue" "backupStarts" "[I" (.ref (ad 8)) := Q.2.1 8 (by decide)
theorem own_f9 (Q : own_Q Z h q ad kk n f) : Fld Z h q "com/example/weaver_ant/weaverant/simulation/DepartureQueue" "backupWidths" "[I" (.ref (ad 9)) := Q.2.1 9 (by decide)
theorem own_f11 (Q : own_Q Z h q ad kk n f) : Fld Z h q "com/example/weaver_ant/weaverant/simulation/DepartureQueue" "size" "I" (.int n) := Q.2.1 11 (by decide)
theorem own_f12 (Q : own_Q Z h q ad kk n f) : Fld Z h q "com/example/weaver_ant/weaverant/simulation/DepartureQueue" "freeCount" "I" (.int (0 : Int32)) := Q.2.1 12 (by decide)
/-- a private method of a class is selected for its objects: out of the words of another method of that class -/
theorem own_selects {x y : MethodName} {C : String} (hC : y.cls = C) (hxC : x.cls = C) (hy : C ≠ "java/lang/invoke/MethodHandle" ∧ C ≠ "java/lang/invoke/VarHandle") (h1 : (Jvm.Cond.selects C x x).before a0 Z = true) (h2 : (Jvm.Cond.instanceMethod y).before a0 Z = true) (h3 : (Jvm.Cond.privateMethod y).before a0 Z = true) : (Jvm.Cond.selects C y y).before a0 Z = true := by
  obtain ⟨c, r, m, g1, -, g3, -, mk, g5, g6⟩ := Cond.selects_spec h1
  obtain ⟨my, meth, k1, k2, -, -⟩ := Cond.instanceMethod_spec h2
  have hp := Cond.privateMethod_at h3 my meth k1 k2
  have c1 := findClass_of_methodNamed g3
  have c2 := findClass_of_methodNamed k1
  rw [hxC, g1] at c1
  rw [hC, g1] at c2
  have e1 : m.cls = c := (Option.some.inj c1).symm
  have e2 : my.cls = c := (Option.some.inj c2).symm
  have hf := State.methodFound?_of_named k1 (by rw [hC]; exact hy)
  have hs : selectMethod {} Z.vm c my = .method my := selectMethod_private k2 hp
  have g5' : Z.vm.classes[my.cls]? = some mk := by rw [e2, ← e1]; exact g5
  simp [Cond.before, Cond.holds, Cond.value, g1, hf, k1, hs, g5', g6]
theorem own_n {n : Int32} (h : n = 0 ∨ n = 1) : (¬ n < 0 ∧ n < 64) ∧ ¬ n = 64 ∧ n + 1 - 1 = n := by
  rcases h with rfl | rfl <;> decide
theorem own_half : ((1 : Int32) - 1) / 2 = 0 := by decide
theorem own_narrow {t : FieldType} {w : Value} (ht : t = .array .int) (h : w.isRef = true) : narrow t w = w := by
  subst ht
  rcases ref_cases h with rfl | ⟨a, rfl⟩ <;> rfl
/-- what add and switchToBackup leave in the arrays -/
def own_add (f : Nat → Nat → Value) (k : Nat) (rt : Addr) (st wd : Int32) (bk : Addr) (bs bw : Int32) : Nat → Nat → Value :=
  own_upd (own_upd (own_upd (own_upd (own_upd (own_upd f 4 k (.ref rt)) 5 k (.int st)) 6 k (.int wd)) 7 k (.ref bk)) 8 k (.int bs)) 9 k (.int bw)
def own_sw (f : Nat → Nat → Value) (k : Nat) : Nat → Nat → Value :=
  own_upd (own_upd (own_upd (own_upd f 4 k (f 7 k)) 5 k (f 8 k)) 6 k (f 9 k)) 7 k .null
def own_new (i _j : Nat) : Value := if i = 4 ∨ i = 7 then .null else .int 0
end Own

theorem pn_0 : plainName "com/example/weaver_ant/weaverant/simulation/DepartureQueueSwitchToBackupPinLaw" = true := by first | (simp [plainName, overriddenIn]; done) | decide +kernel
theorem pn_1 : plainName "com/example/weaver_ant/weaverant/simulation/DepartureQueue" = true := by first | (simp [plainName, overriddenIn]; done) | decide +kernel
theorem pd_I : parseMethodDescriptor "()V" = some ⟨[], none⟩ := by decide +kernel
theorem pd_p : parseMethodDescriptor "(IDI)V" = some ⟨[.int, .double, .int], none⟩ := by decide +kernel
theorem pd_a : parseMethodDescriptor "(DI[III[III)V" = some ⟨[.double, .int, .array .int, .int, .int, .array .int, .int, .int], none⟩ := by decide +kernel
theorem pd_s : parseMethodDescriptor "(I)V" = some ⟨[.int], none⟩ := by decide +kernel
theorem pd_r : parseMethodDescriptor "(I)[I" = some ⟨[.int], some (.array .int)⟩ := by decide +kernel
theorem pd_i : parseMethodDescriptor "(I)I" = some ⟨[.int], some .int⟩ := by decide +kernel
theorem own_len {c : Cell} (S : c.slots.size = 64) : c.slots.size.toInt32 = 64 := by rw [S]; rfl
/-- what a method that writes leaves; what a getter leaves -/
def own_M (Z : State) (q : Addr) (ad : Nat → Addr) (kk : Nat → ClassId) (n : Int32) (f : Nat → Nat → Value) (h0 : Heap) (n0 : Nat) (v : Option Value) (h : Heap) (L : List Loc) : Prop := v = none ∧ Fr n0 L ∧ Keep h0 h (own_ws q ad) ∧ own_Q Z h q ad kk n f
def own_G (w : Value) (h0 : Heap) (n0 : Nat) (v : Option Value) (h : Heap) (L : List Loc) : Prop := v = some w ∧ Fr n0 L ∧ h = h0
theorem dp_0 : decode prog_37_method_20_code 0 = .ok (.aload_n 0, 1) := by decide +kernel
theorem dp_1 : decode prog_37_method_20_code 1 = .ok (.getfield 9, 3) := by decide +kernel
theorem dp_4 : decode prog_37_method_20_code 4 = .ok (.iload_n 1, 1) := by decide +kernel
theorem dp_5 : decode prog_37_method_20_code 5 = .ok (.dload_n 2, 1) := by decide +kernel
theorem dp_6 : decode prog_37_method_20_code 6 = .ok (.dastore, 1) := by decide +kernel
theorem dp_7 : decode prog_37_method_20_code 7 = .ok (.aload_n 0, 1) := by decide +kernel
theorem dp_8 : decode prog_37_method_20_code 8 = .ok (.getfield 13, 3) := by decide +kernel
theorem dp_11 : decode prog_37_method_20_code 11 = .ok (.iload_n 1, 1) := by decide +kernel
theorem dp_12 : decode prog_37_method_20_code 12 = .ok (.iload 4, 2) := by decide +kernel
theorem dp_14 : decode prog_37_method_20_code 14 = .ok (.iastore, 1) := by decide +kernel
theorem dp_15 : decode prog_37_method_20_code 15 = .ok (.aload_n 0, 1) := by decide +kernel
theorem dp_16 : decode prog_37_method_20_code 16 = .ok (.getfield 17, 3) := by decide +kernel
theorem dp_19 : decode prog_37_method_20_code 19 = .ok (.iload 4, 2) := by decide +kernel
theorem dp_21 : decode prog_37_method_20_code 21 = .ok (.iload_n 1, 1) := by decide +kernel
theorem dp_22 : decode prog_37_method_20_code 22 = .ok (.iastore, 1) := by decide +kernel
theorem dp_23 : decode prog_37_method_20_code 23 = .ok (.return_, 1) := by decide +kernel
theorem ef_rmP (m : MethodId) (x0 : Addr) (x1 : Int32) (x2 : UInt64) (x3 : Int32) : entryFrame m #[(.ref x0), (.int x1), (.double x2), (.int x3)] 5 = mkF m 0 #[.val (.ref x0), .val (.int x1), .val (.double x2), .second, .val (.int x3)] [] := by first | (simp [entryFrame, mkF, argsToLocals, Value.category]; done) | rfl
set_option maxRecDepth 65536 in
set_option maxHeartbeats 40000000 in
theorem rmP (l : Launch) (Z : State) (a0 : Array Value) (hw : ∀ d ∈ tables_1, d.before a0 Z = true) (ws : List Jvm.Cond) (q : Addr) (ad : Nat → Addr) (kk : Nat → ClassId) (n : Int32) (f : Nat → Nat → Value) (p1 : Int32) (d : UInt64) (p2 : Int32) (h0 : Heap) (n0 : Nat) (D : own_D q ad n0) (Q : own_Q Z h0 q ad kk n f) (i1 : ¬ p1 < 0 ∧ p1 < 64) (i2 : ¬ p2 < 0 ∧ p2 < 64) :
    MetFree l (⟨"com/example/weaver_ant/weaverant/simulation/DepartureQueue", "place", "(IDI)V"⟩ : MethodName) (head1 (Jvm.Cond.code (⟨"com/example/weaver_ant/weaverant/simulation/DepartureQueue", "place", "(IDI)V"⟩ : MethodName) prog_37_method_20_code 5 none :: ws) ({ frames := 0, cells := 0, slots := 0, locals := 0 } : Room)) (fun a U => a = #[(.ref q), (.int p1), (.double d), (.int p2)] ∧ Z.Warmed39 U.vm ∧ U.heap = h0) (fun _ _ _ _ _ => True) (fun _ U o U' => ∃ v L, o = .returned v ∧ own_M Z q ad kk n f h0 n0 v U'.heap L ∧ FrameEnd U o U' L ({ frames := 0, cells := 0, slots := 0, locals := 0 } : Room).cells ({ frames := 0, cells := 0, slots := 0, locals := 0 } : Room).slots) := by
  refine MetFree.of_bodySF (plainFor_of_name pn_1) hisR ?_
  intro p e s m args below meth c s₁ Bd hml0 hP hK
  obtain ⟨rfl, hZ, hh⟩ := hP
  have hx := Bd.exec
  have hby := Bd.bytes
  have hml : c.maxLocals = 5 := hml0
  have hown : s.vm.findClass "com/example/weaver_ant/weaverant/simulation/DepartureQueue" = some m.cls := findClass_of_methodNamed Bd.named
  have X0 : Stand p l e ({ frames := 0, cells := 0, slots := 0, locals := 0 } : Room) s m #[(.ref q), (.int p1), (.double d), (.int p2)] below meth c s₁ [] 0 0 := Stand.of_body Bd
  have e0 : s₁.heap = h0 := by rw [← hh, Bd.state]; rfl
  have N0 := Fr.nil n0
  have pre0 : ∀ t, Steps p.tables e below (s₁.setTop (mkF m 0 #[.val (.ref q), .val (.int p1), .val (.double d), .second, .val (.int p2)] [])) t → Steps p.tables e below (s₁.setTop (entryFrame m #[(.ref q), (.int p1), (.double d), (.int p2)] 5)) t := fun t kt => castTop (ef_rmP m q p1 d p2) kt
  obtain ⟨T1, X1, e1, st1⟩ := getF X0 hx hZ hown (host := "") (Or.inl (hw _ (List.mem_of_getElem? (i := 11) rfl))) Via.refl e0 (own_f0 Q) (g := (mkF m 1 #[.val (.ref q), .val (.int p1), .val (.double d), .second, .val (.int p2)] [(.ref q)])) rfl rfl (hb hby dp_1)
  obtain ⟨c2, A2, K2, S2, G2⟩ := Q.2.2 0 (by decide)
  obtain ⟨T2, h2, X2, e2, W2, st2⟩ := stD X1 hx hZ e1 A2 (j := p1) (own_inb S2 i1) (g := (mkF m 6 #[.val (.ref q), .val (.int p1), .val (.double d), .second, .val (.int p2)] [(.double d), (.int p1), (.ref (ad 0))])) rfl rfl (hb hby dp_6)
  have N2 := Fr.snoc X2 N0 (D.2.1 0 (by decide)).2
  have P2 : Keep h0 h2 (own_ws q ad) := (Keep.refl _ _).wr W2 (Or.inl (own_mem 0 (by decide)))
  have Q2 := own_Q_lo D Q 0 (by decide) W2 ⟨d, rfl⟩
  obtain ⟨T3, X3, e3, st3⟩ := getF X2 hx hZ hown (host := "") (Or.inl (hw _ (List.mem_of_getElem? (i := 13) rfl))) Via.refl e2 (own_f1 Q2) (g := (mkF m 8 #[.val (.ref q), .val (.int p1), .val (.double d), .second, .val (.int p2)] [(.ref q)])) rfl rfl (hb hby dp_8)
  obtain ⟨c4, A4, K4, S4, G4⟩ := Q2.2.2 1 (by decide)
  obtain ⟨T4, h4, X4, e4, W4, st4⟩ := stI X3 hx hZ e3 A4 (j := p1) (own_inb S4 i1) (g := (mkF m 14 #[.val (.ref q), .val (.int p1), .val (.double d), .second, .val (.int p2)] [(.int p2), (.int p1), (.ref (ad 1))])) rfl rfl (hb hby dp_14)
  have N4 := Fr.snoc X4 N2 (D.2.1 1 (by decide)).2
  have P4 : Keep h0 h4 (own_ws q ad) := P2.wr W4 (Or.inl (own_mem 1 (by decide)))
  have Q4 := own_Q_lo D Q2 1 (by decide) W4 ⟨p2, rfl, i2⟩
  obtain ⟨T5, X5, e5, st5⟩ := getF X4 hx hZ hown (host := "") (Or.inl (hw _ (List.mem_of_getElem? (i := 15) rfl))) Via.refl e4 (own_f2 Q4) (g := (mkF m 16 #[.val (.ref q), .val (.int p1), .val (.double d), .second, .val (.int p2)] [(.ref q)])) rfl rfl (hb hby dp_16)
  obtain ⟨c6, A6, K6, S6, G6⟩ := Q4.2.2 2 (by decide)
  obtain ⟨T6, h6, X6, e6, W6, st6⟩ := stI X5 hx hZ e5 A6 (j := p2) (own_inb S6 i2) (g := (mkF m 22 #[.val (.ref q), .val (.int p1), .val (.double d), .second, .val (.int p2)] [(.int p1), (.int p2), (.ref (ad 2))])) rfl rfl (hb hby dp_22)
  have N6 := Fr.snoc X6 N4 (D.2.1 2 (by decide)).2
  have P6 : Keep h0 h6 (own_ws q ad) := P4.wr W6 (Or.inl (own_mem 2 (by decide)))
  have Q6 := own_Q_lo D Q4 2 (by decide) W6 trivial
  obtain ⟨fs, hr, hrun, hended, hW, hsame⟩ := X6.leave (v := none) (fun _ => rfl)
  refine ⟨_, _, pre0 _ ?_, hrun, hended, _, _, rfl, ?_, ⟨_, rfl⟩, hW, hsame.mono (by decide) (by decide)⟩
  · show Steps p.tables e below (s₁.setTop (mkF m 0 #[.val (.ref q), .val (.int p1), .val (.double d), .second, .val (.int p2)] [])) _
    refine XS.aloadN X0.here hx rfl (hb hby dp_0) rfl rfl ?_
    show Steps p.tables e below (s₁.setTop (mkF m 1 #[.val (.ref q), .val (.int p1), .val (.double d), .second, .val (.int p2)] [(.ref q)])) _
    refine st1 _ ?_
    show Steps p.tables e below (T1.setTop (mkF m 4 #[.val (.ref q), .val (.int p1), .val (.double d), .second, .val (.int p2)] [(.ref (ad 0))])) _
    refine XS.iloadN X1.here hx rfl (hb hby dp_4) rfl ?_
    show Steps p.tables e below (T1.setTop (mkF m 5 #[.val (.ref q), .val (.int p1), .val (.double d), .second, .val (.int p2)] [(.int p1), (.ref (ad 0))])) _
    refine XS.dloadN X1.here hx rfl (hb hby dp_5) rfl ?_
    show Steps p.tables e below (T1.setTop (mkF m 6 #[.val (.ref q), .val (.int p1), .val (.double d), .second, .val (.int p2)] [(.double d), (.int p1), (.ref (ad 0))])) _
    refine st2 _ ?_
    show Steps p.tables e below (T2.setTop (mkF m 7 #[.val (.ref q), .val (.int p1), .val (.double d), .second, .val (.int p2)] [])) _
    refine XS.aloadN X2.here hx rfl (hb hby dp_7) rfl rfl ?_
    show Steps p.tables e below (T2.setTop (mkF m 8 #[.val (.ref q), .val (.int p1), .val (.double d), .second, .val (.int p2)] [(.ref q)])) _
    refine st3 _ ?_
    show Steps p.tables e below (T3.setTop (mkF m 11 #[.val (.ref q), .val (.int p1), .val (.double d), .second, .val (.int p2)] [(.ref (ad 1))])) _
    refine XS.iloadN X3.here hx rfl (hb hby dp_11) rfl ?_
    show Steps p.tables e below (T3.setTop (mkF m 12 #[.val (.ref q), .val (.int p1), .val (.double d), .second, .val (.int p2)] [(.int p1), (.ref (ad 1))])) _
    refine XS.iload X3.here hx rfl (hb hby dp_12) rfl ?_
    show Steps p.tables e below (T3.setTop (mkF m 14 #[.val (.ref q), .val (.int p1), .val (.double d), .second, .val (.int p2)] [(.int p2), (.int p1), (.ref (ad 1))])) _
    refine st4 _ ?_
    show Steps p.tables e below (T4.setTop (mkF m 15 #[.val (.ref q), .val (.int p1), .val (.double d), .second, .val (.int p2)] [])) _
    refine XS.aloadN X4.here hx rfl (hb hby dp_15) rfl rfl ?_
    show Steps p.tables e below (T4.setTop (mkF m 16 #[.val (.ref q), .val (.int p1), .val (.double d), .second, .val (.int p2)] [(.ref q)])) _
    refine st5 _ ?_
    show Steps p.tables e below (T5.setTop (mkF m 19 #[.val (.ref q), .val (.int p1), .val (.double d), .second, .val (.int p2)] [(.ref (ad 2))])) _
    refine XS.iload X5.here hx rfl (hb hby dp_19) rfl ?_
    show Steps p.tables e below (T5.setTop (mkF m 21 #[.val (.ref q), .val (.int p1), .val (.double d), .second, .val (.int p2)] [(.int p2), (.ref (ad 2))])) _
    refine XS.iloadN X5.here hx rfl (hb hby dp_21) rfl ?_
    show Steps p.tables e below (T5.setTop (mkF m 22 #[.val (.ref q), .val (.int p1), .val (.double d), .second, .val (.int p2)] [(.int p1), (.int p2), (.ref (ad 2))])) _
    refine st6 _ ?_
    show Steps p.tables e below (T6.setTop (mkF m 23 #[.val (.ref q), .val (.int p1), .val (.double d), .second, .val (.int p2)] [])) _
    exact X6.returnOut hx Bd.returns (hb hby dp_23) hr
  · show own_M Z q ad kk n f h0 n0 _ T6.heap _
    rw [e6]
    exact ⟨rfl, N6, P6, Q6⟩
theorem ds_0 : decode prog_37_method_18_code 0 = .ok (.iload_n 1, 1) := by decide +kernel
theorem ds_1 : decode prog_37_method_18_code 1 = .ok (.istore 5, 2) := by decide +kernel
theorem ds_3 : decode prog_37_method_18_code 3 = .ok (.iload 5, 2) := by decide +kernel
theorem ds_5 : decode prog_37_method_18_code 5 = .ok (.ifCond .le 54, 3) := by decide +kernel
theorem ds_8 : decode prog_37_method_18_code 8 = .ok (.aload_n 0, 1) := by decide +kernel
theorem ds_9 : decode prog_37_method_18_code 9 = .ok (.getfield 9, 3) := by decide +kernel
theorem ds_12 : decode prog_37_method_18_code 12 = .ok (.iload 5, 2) := by decide +kernel
theorem ds_14 : decode prog_37_method_18_code 14 = .ok (.iconst 1, 1) := by decide +kernel
theorem ds_15 : decode prog_37_method_18_code 15 = .ok (.isub, 1) := by decide +kernel
theorem ds_16 : decode prog_37_method_18_code 16 = .ok (.iconst 2, 1) := by decide +kernel
theorem ds_17 : decode prog_37_method_18_code 17 = .ok (.idiv, 1) := by decide +kernel
theorem ds_18 : decode prog_37_method_18_code 18 = .ok (.daload, 1) := by decide +kernel
theorem ds_19 : decode prog_37_method_18_code 19 = .ok (.dload_n 2, 1) := by decide +kernel
theorem ds_20 : decode prog_37_method_18_code 20 = .ok (.dcmp .l, 1) := by decide +kernel
theorem ds_21 : decode prog_37_method_18_code 21 = .ok (.ifCond .le 38, 3) := by decide +kernel
theorem ds_24 : decode prog_37_method_18_code 24 = .ok (.iload 5, 2) := by decide +kernel
theorem ds_26 : decode prog_37_method_18_code 26 = .ok (.iconst 1, 1) := by decide +kernel
theorem ds_27 : decode prog_37_method_18_code 27 = .ok (.isub, 1) := by decide +kernel
theorem ds_28 : decode prog_37_method_18_code 28 = .ok (.iconst 2, 1) := by decide +kernel
theorem ds_29 : decode prog_37_method_18_code 29 = .ok (.idiv, 1) := by decide +kernel
theorem ds_30 : decode prog_37_method_18_code 30 = .ok (.istore 6, 2) := by decide +kernel
theorem ds_32 : decode prog_37_method_18_code 32 = .ok (.aload_n 0, 1) := by decide +kernel
theorem ds_33 : decode prog_37_method_18_code 33 = .ok (.iload 5, 2) := by decide +kernel
theorem ds_35 : decode prog_37_method_18_code 35 = .ok (.aload_n 0, 1) := by decide +kernel
theorem ds_36 : decode prog_37_method_18_code 36 = .ok (.getfield 9, 3) := by decide +kernel
theorem ds_39 : decode prog_37_method_18_code 39 = .ok (.iload 6, 2) := by decide +kernel
theorem ds_41 : decode prog_37_method_18_code 41 = .ok (.daload, 1) := by decide +kernel
theorem ds_42 : decode prog_37_method_18_code 42 = .ok (.aload_n 0, 1) := by decide +kernel
theorem ds_43 : decode prog_37_method_18_code 43 = .ok (.getfield 13, 3) := by decide +kernel
theorem ds_46 : decode prog_37_method_18_code 46 = .ok (.iload 6, 2) := by decide +kernel
theorem ds_48 : decode prog_37_method_18_code 48 = .ok (.iaload, 1) := by decide +kernel
theorem ds_49 : decode prog_37_method_18_code 49 = .ok (.invokevirtual 67, 3) := by decide +kernel
theorem ds_52 : decode prog_37_method_18_code 52 = .ok (.iload 6, 2) := by decide +kernel
theorem ds_54 : decode prog_37_method_18_code 54 = .ok (.istore 5, 2) := by decide +kernel
theorem ds_56 : decode prog_37_method_18_code 56 = .ok (.goto (-53), 3) := by decide +kernel
theorem ds_59 : decode prog_37_method_18_code 59 = .ok (.aload_n 0, 1) := by decide +kernel
theorem ds_60 : decode prog_37_method_18_code 60 = .ok (.iload 5, 2) := by decide +kernel
theorem ds_62 : decode prog_37_method_18_code 62 = .ok (.dload_n 2, 1) := by decide +kernel
theorem ds_63 : decode prog_37_method_18_code 63 = .ok (.iload 4, 2) := by decide +kernel
theorem ds_65 : decode prog_37_method_18_code 65 = .ok (.invokevirtual 67, 3) := by decide +kernel
theorem ds_68 : decode prog_37_method_18_code 68 = .ok (.return_, 1) := by decide +kernel
theorem ef_S (m : MethodId) (x0 : Addr) (x1 : Int32) (x2 : UInt64) (x3 : Int32) : entryFrame m #[(.ref x0), (.int x1), (.double x2), (.int x3)] 7 = mkF m 0 #[.val (.ref x0), .val (.int x1), .val (.double x2), .second, .val (.int x3), .unset, .unset] [] := by first | (simp [entryFrame, mkF, argsToLocals, Value.category]; done) | rfl
set_option maxRecDepth 65536 in
set_option maxHeartbeats 40000000 in
theorem rmS0 (l : Launch) (Z : State) (a0 : Array Value) (hw : ∀ d ∈ tables_1, d.before a0 Z = true) (ws : List Jvm.Cond) (q : Addr) (ad : Nat → Addr) (kk : Nat → ClassId) (n : Int32) (f : Nat → Nat → Value) (d : UInt64) (p2 : Int32) (h0 : Heap) (n0 : Nat) (D : own_D q ad n0) (Q : own_Q Z h0 q ad kk n f) (i2 : ¬ p2 < 0 ∧ p2 < 64) :
    MetFree l (⟨"com/example/weaver_ant/weaverant/simulation/DepartureQueue", "siftUp", "(IDI)V"⟩ : MethodName) (head1 (Jvm.Cond.code (⟨"com/example/weaver_ant/weaverant/simulation/DepartureQueue", "siftUp", "(IDI)V"⟩ : MethodName) prog_37_method_18_code 7 none :: ws) ({ frames := 1, cells := 0, slots := 0, locals := 16 } : Room)) (fun a U => a = #[(.ref q), (.int (0 : Int32)), (.double d), (.int p2)] ∧ Z.Warmed39 U.vm ∧ U.heap = h0) (fun _ _ _ _ _ => True) (fun _ U o U' => ∃ v L, o = .returned v ∧ own_M Z q ad kk n f h0 n0 v U'.heap L ∧ FrameEnd U o U' L ({ frames := 1, cells := 0, slots := 0, locals := 16 } : Room).cells ({ frames := 1, cells := 0, slots := 0, locals := 16 } : Room).slots) := by
  refine MetFree.of_bodySF (plainFor_of_name pn_1) hisR ?_
  intro p e s m args below meth c s₁ Bd hml0 hP hK
  obtain ⟨rfl, hZ, hh⟩ := hP
  have hx := Bd.exec
  have hby := Bd.bytes
  have hml : c.maxLocals = 7 := hml0
  have hown : s.vm.findClass "com/example/weaver_ant/weaverant/simulation/DepartureQueue" = some m.cls := findClass_of_methodNamed Bd.named
  have X0 : Stand p l e ({ frames := 1, cells := 0, slots := 0, locals := 16 } : Room) s m #[(.ref q), (.int (0 : Int32)), (.double d), (.int p2)] below meth c s₁ [] 0 0 := Stand.of_body Bd
  have e0 : s₁.heap = h0 := by rw [← hh, Bd.state]; rfl
  have N0 := Fr.nil n0
  have pre0 : ∀ t, Steps p.tables e below (s₁.setTop (mkF m 0 #[.val (.ref q), .val (.int (0 : Int32)), .val (.double d), .second, .val (.int p2), .unset, .unset] [])) t → Steps p.tables e below (s₁.setTop (entryFrame m #[(.ref q), (.int (0 : Int32)), (.double d), (.int p2)] 7)) t := fun t kt => castTop (ef_S m q (0 : Int32) d p2) kt
  obtain ⟨cq1, q1, q1'⟩ := Q.1.cell
  obtain ⟨_, _, ⟨T1, L1, k1, n1⟩, -, X1, ⟨Lc1, hQ1, l1, y1, z1⟩, st1⟩ := X0.privateBack hx (y := (⟨"com/example/weaver_ant/weaverant/simulation/DepartureQueue", "place", "(IDI)V"⟩ : MethodName)) hown (mvT hZ (hw _ (List.mem_of_getElem? (i := 49) rfl))) (mvT hZ (hw _ (List.mem_of_getElem? (i := 50) rfl))) (mvT hZ (own_selects (x := (⟨"com/example/weaver_ant/weaverant/simulation/DepartureQueue", "add", "(DI[III[III)V"⟩ : MethodName)) rfl rfl (by decide) (hw _ (List.mem_of_getElem? (i := 38) rfl)) (hw _ (List.mem_of_getElem? (i := 50) rfl)) (hw _ (List.mem_of_getElem? (i := 51) rfl)))) (Cond.privateMethod_at (mvP hZ (hw _ (List.mem_of_getElem? (i := 51) rfl)) (args := #[]))) (mvT hZ (hw _ (List.mem_of_getElem? (i := 52) rfl))) (by decide) (backOf (W := 0) (rmP l Z a0 hw [] q ad kk n f (0 : Int32) d p2 h0 n0 D Q (by decide) i2) hZ (hw _ (List.mem_of_getElem? (i := 52) rfl)) (hw _ (List.mem_of_getElem? (i := 3) rfl)) (by decide) (by decide)) (g := (mkF m 65 #[.val (.ref q), .val (.int (0 : Int32)), .val (.double d), .second, .val (.int p2), .val (.int (0 : Int32)), .unset] [(.int p2), (.double d), (.int (0 : Int32)), (.ref q)])) rfl (by rw [hml]; rfl) (Steps.refl _) (a := q) (by rw [e0]; exact q1) q1' (argsL := [(.int (0 : Int32)), (.double d), (.int p2)]) (rest := []) (lenOf pd_p rfl) rfl (by show 2 * 0 + _ ≤ _; exact Nat.le_of_eq rfl) (hb hby ds_65) (fun _ _ => ⟨rfl, e0, (by decide : 0 + 0 ≤ _), (by decide : 0 + 0 ≤ _)⟩)
  dsimp only [Pt.U, Pt.locs, Pt.cells, Pt.slots] at X1 l1 y1 z1 st1 hQ1
  subst l1 y1 z1
  obtain ⟨rfl, M1, Kq1, Q1⟩ := hQ1
  have N1 := Fr.app N0 M1
  have P1 : Keep h0 T1.heap (own_ws q ad) := (Keep.refl _ _).trans Kq1 (fun x hx => Or.inl hx)
  obtain ⟨fs, hr, hrun, hended, hW, hsame⟩ := X1.leave (v := none) (fun _ => rfl)
  refine ⟨_, _, pre0 _ ?_, hrun, hended, _, _, rfl, ?_, ⟨_, rfl⟩, hW, hsame.mono (by decide) (by decide)⟩
  · show Steps p.tables e below (s₁.setTop (mkF m 0 #[.val (.ref q), .val (.int (0 : Int32)), .val (.double d), .second, .val (.int p2), .unset, .unset] [])) _
    refine XS.iloadN X0.here hx rfl (hb hby ds_0) rfl ?_
    show Steps p.tables e below (s₁.setTop (mkF m 1 #[.val (.ref q), .val (.int (0 : Int32)), .val (.double d), .second, .val (.int p2), .unset, .unset] [(.int (0 : Int32))])) _
    refine XS.istore X0.here hx rfl (hb hby ds_1) rfl (l' := #[.val (.ref q), .val (.int (0 : Int32)), .val (.double d), .second, .val (.int p2), .val (.int (0 : Int32)), .unset]) rfl ?_
    show Steps p.tables e below (s₁.setTop (mkF m 3 #[.val (.ref q), .val (.int (0 : Int32)), .val (.double d), .second, .val (.int p2), .val (.int (0 : Int32)), .unset] [])) _
    refine XS.iload X0.here hx rfl (hb hby ds_3) rfl ?_
    show Steps p.tables e below (s₁.setTop (mkF m 5 #[.val (.ref q), .val (.int (0 : Int32)), .val (.double d), .second, .val (.int p2), .val (.int (0 : Int32)), .unset] [(.int (0 : Int32))])) _
    refine XS.ifYes X0.here hx rfl (pc0 := 5) (pc' := 59) rfl (hb hby ds_5) rfl (by decide) (by decide) (by decide) ?_
    show Steps p.tables e below (s₁.setTop (mkF m 59 #[.val (.ref q), .val (.int (0 : Int32)), .val (.double d), .second, .val (.int p2), .val (.int (0 : Int32)), .unset] [])) _
    refine XS.aloadN X0.here hx rfl (hb hby ds_59) rfl rfl ?_
    show Steps p.tables e below (s₁.setTop (mkF m 60 #[.val (.ref q), .val (.int (0 : Int32)), .val (.double d), .second, .val (.int p2), .val (.int (0 : Int32)), .unset] [(.ref q)])) _
    refine XS.iload X0.here hx rfl (hb hby ds_60) rfl ?_
    show Steps p.tables e below (s₁.setTop (mkF m 62 #[.val (.ref q), .val (.int (0 : Int32)), .val (.double d), .second, .val (.int p2), .val (.int (0 : Int32)), .unset] [(.int (0 : Int32)), (.ref q)])) _
    refine XS.dloadN X0.here hx rfl (hb hby ds_62) rfl ?_
    show Steps p.tables e below (s₁.setTop (mkF m 63 #[.val (.ref q), .val (.int (0 : Int32)), .val (.double d), .second, .val (.int p2), .val (.int (0 : Int32)), .unset] [(.double d), (.int (0 : Int32)), (.ref q)])) _
    refine XS.iload X0.here hx rfl (hb hby ds_63) rfl ?_
    show Steps p.tables e below (s₁.setTop (mkF m 65 #[.val (.ref q), .val (.int (0 : Int32)), .val (.double d), .second, .val (.int p2), .val (.int (0 : Int32)), .unset] [(.int p2), (.double d), (.int (0 : Int32)), (.ref q)])) _
    refine st1.trans ?_
    show Steps p.tables e below (T1.setTop (mkF m 68 #[.val (.ref q), .val (.int (0 : Int32)), .val (.double d), .second, .val (.int p2), .val (.int (0 : Int32)), .unset] [])) _
    exact X1.returnOut hx Bd.returns (hb hby ds_68) hr
  · show own_M Z q ad kk n f h0 n0 _ T1.heap _
    exact ⟨rfl, N1, P1, Q1⟩
set_option maxRecDepth 65536 in
set_option maxHeartbeats 40000000 in
theorem rmS1 (l : Launch) (Z : State) (a0 : Array Value) (hw : ∀ d ∈ tables_1, d.before a0 Z = true) (ws : List Jvm.Cond) (q : Addr) (ad : Nat → Addr) (kk : Nat → ClassId) (n : Int32) (f : Nat → Nat → Value) (d : UInt64) (p2 : Int32) (h0 : Heap) (n0 : Nat) (D : own_D q ad n0) (Q : own_Q Z h0 q ad kk n f) (i2 : ¬ p2 < 0 ∧ p2 < 64) :
    MetFree l (⟨"com/example/weaver_ant/weaverant/simulation/DepartureQueue", "siftUp", "(IDI)V"⟩ : MethodName) (head1 (Jvm.Cond.code (⟨"com/example/weaver_ant/weaverant/simulation/DepartureQueue", "siftUp", "(IDI)V"⟩ : MethodName) prog_37_method_18_code 7 none :: ws) ({ frames := 1, cells := 0, slots := 0, locals := 16 } : Room)) (fun a U => a = #[(.ref q), (.int (1 : Int32)), (.double d), (.int p2)] ∧ Z.Warmed39 U.vm ∧ U.heap = h0) (fun _ _ _ _ _ => True) (fun _ U o U' => ∃ v L, o = .returned v ∧ own_M Z q ad kk n f h0 n0 v U'.heap L ∧ FrameEnd U o U' L ({ frames := 1, cells := 0, slots := 0, locals := 16 } : Room).cells ({ frames := 1, cells := 0, slots := 0, locals := 16 } : Room).slots) := by
  refine MetFree.of_bodySF (plainFor_of_name pn_1) hisR ?_
  intro p e s m args below meth c s₁ Bd hml0 hP hK
  obtain ⟨rfl, hZ, hh⟩ := hP
  have hx := Bd.exec
  have hby := Bd.bytes
  have hml : c.maxLocals = 7 := hml0
  have hown : s.vm.findClass "com/example/weaver_ant/weaverant/simulation/DepartureQueue" = some m.cls := findClass_of_methodNamed Bd.named
  have X0 : Stand p l e ({ frames := 1, cells := 0, slots := 0, locals := 16 } : Room) s m #[(.ref q), (.int (1 : Int32)), (.double d), (.int p2)] below meth c s₁ [] 0 0 := Stand.of_body Bd
  have e0 : s₁.heap = h0 := by rw [← hh, Bd.state]; rfl
  have N0 := Fr.nil n0
  have pre0 : ∀ t, Steps p.tables e below (s₁.setTop (mkF m 0 #[.val (.ref q), .val (.int (1 : Int32)), .val (.double d), .second, .val (.int p2), .unset, .unset] [])) t → Steps p.tables e below (s₁.setTop (entryFrame m #[(.ref q), (.int (1 : Int32)), (.double d), (.int p2)] 7)) t := fun t kt => castTop (ef_S m q (1 : Int32) d p2) kt
  obtain ⟨T1, X1, e1, st1⟩ := getF X0 hx hZ hown (host := "") (Or.inl (hw _ (List.mem_of_getElem? (i := 11) rfl))) Via.refl e0 (own_f0 Q) (g := (mkF m 9 #[.val (.ref q), .val (.int (1 : Int32)), .val (.double d), .second, .val (.int p2), .val (.int (1 : Int32)), .unset] [(.ref q)])) rfl rfl (hb hby ds_9)
  obtain ⟨c2, A2, K2, S2, G2⟩ := Q.2.2 0 (by decide)
  obtain ⟨v2, at2, pv2⟩ := G2 ((0 : Int32)).toNatClampNeg (own_lt (by decide))
  obtain ⟨dv, rfl⟩ := pv2
  by_cases hc : cmpValue (FP.dcmp dv d) .l ≤ 0
  · have hc1 : if_icmp.holds .le (cmpValue (FP.dcmp dv d) .l) 0 = true := by simp [if_icmp.holds, hc]
    obtain ⟨cq3, q3, q3'⟩ := Q.1.cell
    obtain ⟨_, _, ⟨T3, L3, k3, n3⟩, -, X3, ⟨Lc3, hQ3, l3, y3, z3⟩, st3⟩ := X1.privateBack hx (y := (⟨"com/example/weaver_ant/weaverant/simulation/DepartureQueue", "place", "(IDI)V"⟩ : MethodName)) hown (mvT hZ (hw _ (List.mem_of_getElem? (i := 49) rfl))) (mvT hZ (hw _ (List.mem_of_getElem? (i := 50) rfl))) (mvT hZ (own_selects (x := (⟨"com/example/weaver_ant/weaverant/simulation/DepartureQueue", "add", "(DI[III[III)V"⟩ : MethodName)) rfl rfl (by decide) (hw _ (List.mem_of_getElem? (i := 38) rfl)) (hw _ (List.mem_of_getElem? (i := 50) rfl)) (hw _ (List.mem_of_getElem? (i := 51) rfl)))) (Cond.privateMethod_at (mvP hZ (hw _ (List.mem_of_getElem? (i := 51) rfl)) (args := #[]))) (mvT hZ (hw _ (List.mem_of_getElem? (i := 52) rfl))) (by decide) (backOf (W := 0) (rmP l Z a0 hw [] q ad kk n f (1 : Int32) d p2 h0 n0 D Q (by decide) i2) hZ (hw _ (List.mem_of_getElem? (i := 52) rfl)) (hw _ (List.mem_of_getElem? (i := 3) rfl)) (by decide) (by decide)) (g := (mkF m 65 #[.val (.ref q), .val (.int (1 : Int32)), .val (.double d), .second, .val (.int p2), .val (.int (1 : Int32)), .unset] [(.int p2), (.double d), (.int (1 : Int32)), (.ref q)])) rfl (by rw [hml]; rfl) (Steps.refl _) (a := q) (by rw [e1]; exact q3) q3' (argsL := [(.int (1 : Int32)), (.double d), (.int p2)]) (rest := []) (lenOf pd_p rfl) rfl (by show 2 * 0 + _ ≤ _; exact Nat.le_of_eq rfl) (hb hby ds_65) (fun _ _ => ⟨rfl, e1, (by decide : 0 + 0 ≤ _), (by decide : 0 + 0 ≤ _)⟩)
    dsimp only [Pt.U, Pt.locs, Pt.cells, Pt.slots] at X3 l3 y3 z3 st3 hQ3
    subst l3 y3 z3
    obtain ⟨rfl, M3, Kq3, Q3⟩ := hQ3
    have N3 := Fr.app N0 M3
    have P3 : Keep h0 T3.heap (own_ws q ad) := (Keep.refl _ _).trans Kq3 (fun x hx => Or.inl hx)
    obtain ⟨fs, hr, hrun, hended, hW, hsame⟩ := X3.leave (v := none) (fun _ => rfl)
    refine ⟨_, _, pre0 _ ?_, hrun, hended, _, _, rfl, ?_, ⟨_, rfl⟩, hW, hsame.mono (by decide) (by decide)⟩
    · show Steps p.tables e below (s₁.setTop (mkF m 0 #[.val (.ref q), .val (.int (1 : Int32)), .val (.double d), .second, .val (.int p2), .unset, .unset] [])) _
      refine XS.iloadN X0.here hx rfl (hb hby ds_0) rfl ?_
      show Steps p.tables e below (s₁.setTop (mkF m 1 #[.val (.ref q), .val (.int (1 : Int32)), .val (.double d), .second, .val (.int p2), .unset, .unset] [(.int (1 : Int32))])) _
      refine XS.istore X0.here hx rfl (hb hby ds_1) rfl (l' := #[.val (.ref q), .val (.int (1 : Int32)), .val (.double d), .second, .val (.int p2), .val (.int (1 : Int32)), .unset]) rfl ?_
      show Steps p.tables e below (s₁.setTop (mkF m 3 #[.val (.ref q), .val (.int (1 : Int32)), .val (.double d), .second, .val (.int p2), .val (.int (1 : Int32)), .unset] [])) _
      refine XS.iload X0.here hx rfl (hb hby ds_3) rfl ?_
      show Steps p.tables e below (s₁.setTop (mkF m 5 #[.val (.ref q), .val (.int (1 : Int32)), .val (.double d), .second, .val (.int p2), .val (.int (1 : Int32)), .unset] [(.int (1 : Int32))])) _
      refine XS.ifNo X0.here hx rfl (hb hby ds_5) rfl (by decide) ?_
      show Steps p.tables e below (s₁.setTop (mkF m 8 #[.val (.ref q), .val (.int (1 : Int32)), .val (.double d), .second, .val (.int p2), .val (.int (1 : Int32)), .unset] [])) _
      refine XS.aloadN X0.here hx rfl (hb hby ds_8) rfl rfl ?_
      show Steps p.tables e below (s₁.setTop (mkF m 9 #[.val (.ref q), .val (.int (1 : Int32)), .val (.double d), .second, .val (.int p2), .val (.int (1 : Int32)), .unset] [(.ref q)])) _
      refine st1 _ ?_
      show Steps p.tables e below (T1.setTop (mkF m 12 #[.val (.ref q), .val (.int (1 : Int32)), .val (.double d), .second, .val (.int p2), .val (.int (1 : Int32)), .unset] [(.ref (ad 0))])) _
      refine XS.iload X1.here hx rfl (hb hby ds_12) rfl ?_
      show Steps p.tables e below (T1.setTop (mkF m 14 #[.val (.ref q), .val (.int (1 : Int32)), .val (.double d), .second, .val (.int p2), .val (.int (1 : Int32)), .unset] [(.int (1 : Int32)), (.ref (ad 0))])) _
      refine XS.iconst X1.here hx rfl (hb hby ds_14) ?_
      show Steps p.tables e below (T1.setTop (mkF m 15 #[.val (.ref q), .val (.int (1 : Int32)), .val (.double d), .second, .val (.int p2), .val (.int (1 : Int32)), .unset] [(.int (1 : Int32)), (.int (1 : Int32)), (.ref (ad 0))])) _
      refine XS.isub X1.here hx rfl (hb hby ds_15) rfl ?_
      show Steps p.tables e below (T1.setTop (mkF m 16 #[.val (.ref q), .val (.int (1 : Int32)), .val (.double d), .second, .val (.int p2), .val (.int (1 : Int32)), .unset] [(.int ((1 : Int32) - (1 : Int32))), (.ref (ad 0))])) _
      refine XS.iconst X1.here hx rfl (hb hby ds_16) ?_
      show Steps p.tables e below (T1.setTop (mkF m 17 #[.val (.ref q), .val (.int (1 : Int32)), .val (.double d), .second, .val (.int p2), .val (.int (1 : Int32)), .unset] [(.int (2 : Int32)), (.int ((1 : Int32) - (1 : Int32))), (.ref (ad 0))])) _
      refine XS.idiv X1.here hx rfl (hb hby ds_17) rfl (by decide) ?_
      rw [own_half]
      show Steps p.tables e below (T1.setTop (mkF m 18 #[.val (.ref q), .val (.int (1 : Int32)), .val (.double d), .second, .val (.int p2), .val (.int (1 : Int32)), .unset] [(.int (0 : Int32)), (.ref (ad 0))])) _
      refine X1.daload hx (j := (0 : Int32)) (v := (.double dv)) (by rw [e1]; exact A2.1) (State.isArrayOf_alike hZ.alike A2.2.1) A2.2.2 (own_inb S2 (by decide)) at2 (g := (mkF m 18 #[.val (.ref q), .val (.int (1 : Int32)), .val (.double d), .second, .val (.int p2), .val (.int (1 : Int32)), .unset] [(.int (0 : Int32)), (.ref (ad 0))])) rfl rfl (hb hby ds_18) _ ?_
      show Steps p.tables e below (T1.setTop (mkF m 19 #[.val (.ref q), .val (.int (1 : Int32)), .val (.double d), .second, .val (.int p2), .val (.int (1 : Int32)), .unset] [(.double dv)])) _
      refine XS.dloadN X1.here hx rfl (hb hby ds_19) rfl ?_
      show Steps p.tables e below (T1.setTop (mkF m 20 #[.val (.ref q), .val (.int (1 : Int32)), .val (.double d), .second, .val (.int p2), .val (.int (1 : Int32)), .unset] [(.double d), (.double dv)])) _
      refine XS.dcmpS X1.here hx rfl (hb hby ds_20) rfl rfl ?_
      show Steps p.tables e below (T1.setTop (mkF m 21 #[.val (.ref q), .val (.int (1 : Int32)), .val (.double d), .second, .val (.int p2), .val (.int (1 : Int32)), .unset] [(.int (cmpValue (FP.dcmp dv d) .l))])) _
      refine XS.ifYes X1.here hx rfl (pc0 := 21) (pc' := 59) rfl (hb hby ds_21) rfl ((if0 _ _).trans hc1) (by decide) (by decide) ?_
      show Steps p.tables e below (T1.setTop (mkF m 59 #[.val (.ref q), .val (.int (1 : Int32)), .val (.double d), .second, .val (.int p2), .val (.int (1 : Int32)), .unset] [])) _
      refine XS.aloadN X1.here hx rfl (hb hby ds_59) rfl rfl ?_
      show Steps p.tables e below (T1.setTop (mkF m 60 #[.val (.ref q), .val (.int (1 : Int32)), .val (.double d), .second, .val (.int p2), .val (.int (1 : Int32)), .unset] [(.ref q)])) _
      refine XS.iload X1.here hx rfl (hb hby ds_60) rfl ?_
      show Steps p.tables e below (T1.setTop (mkF m 62 #[.val (.ref q), .val (.int (1 : Int32)), .val (.double d), .second, .val (.int p2), .val (.int (1 : Int32)), .unset] [(.int (1 : Int32)), (.ref q)])) _
      refine XS.dloadN X1.here hx rfl (hb hby ds_62) rfl ?_
      show Steps p.tables e below (T1.setTop (mkF m 63 #[.val (.ref q), .val (.int (1 : Int32)), .val (.double d), .second, .val (.int p2), .val (.int (1 : Int32)), .unset] [(.double d), (.int (1 : Int32)), (.ref q)])) _
      refine XS.iload X1.here hx rfl (hb hby ds_63) rfl ?_
      show Steps p.tables e below (T1.setTop (mkF m 65 #[.val (.ref q), .val (.int (1 : Int32)), .val (.double d), .second, .val (.int p2), .val (.int (1 : Int32)), .unset] [(.int p2), (.double d), (.int (1 : Int32)), (.ref q)])) _
      refine st3.trans ?_
      show Steps p.tables e below (T3.setTop (mkF m 68 #[.val (.ref q), .val (.int (1 : Int32)), .val (.double d), .second, .val (.int p2), .val (.int (1 : Int32)), .unset] [])) _
      exact X3.returnOut hx Bd.returns (hb hby ds_68) hr
    · show own_M Z q ad kk n f h0 n0 _ T3.heap _
      exact ⟨rfl, N3, P3, Q3⟩
  · have hc1 : if_icmp.holds .le (cmpValue (FP.dcmp dv d) .l) 0 = false := by simp [if_icmp.holds, hc]
    obtain ⟨T3, X3, e3, st3⟩ := getF X1 hx hZ hown (host := "") (Or.inl (hw _ (List.mem_of_getElem? (i := 11) rfl))) Via.refl e1 (own_f0 Q) (g := (mkF m 36 #[.val (.ref q), .val (.int (1 : Int32)), .val (.double d), .second, .val (.int p2), .val (.int (1 : Int32)), .val (.int (0 : Int32))] [(.ref q), (.int (1 : Int32)), (.ref q)])) rfl rfl (hb hby ds_36)
    obtain ⟨c4, A4, K4, S4, G4⟩ := Q.2.2 0 (by decide)
    obtain ⟨v4, at4, pv4⟩ := G4 ((0 : Int32)).toNatClampNeg (own_lt (by decide))
    obtain ⟨dw, rfl⟩ := pv4
    obtain ⟨T5, X5, e5, st5⟩ := getF X3 hx hZ hown (host := "") (Or.inl (hw _ (List.mem_of_getElem? (i := 13) rfl))) Via.refl e3 (own_f1 Q) (g := (mkF m 43 #[.val (.ref q), .val (.int (1 : Int32)), .val (.double d), .second, .val (.int p2), .val (.int (1 : Int32)), .val (.int (0 : Int32))] [(.ref q), (.double dw), (.int (1 : Int32)), (.ref q)])) rfl rfl (hb hby ds_43)
    obtain ⟨c6, A6, K6, S6, G6⟩ := Q.2.2 1 (by decide)
    obtain ⟨v6, at6, pv6⟩ := G6 ((0 : Int32)).toNatClampNeg (own_lt (by decide))
    obtain ⟨ww, rfl, iw⟩ := pv6
    obtain ⟨cq7, q7, q7'⟩ := Q.1.cell
    obtain ⟨_, _, ⟨T7, L7, k7, n7⟩, -, X7, ⟨Lc7, hQ7, l7, y7, z7⟩, st7⟩ := X5.privateBack hx (y := (⟨"com/example/weaver_ant/weaverant/simulation/DepartureQueue", "place", "(IDI)V"⟩ : MethodName)) hown (mvT hZ (hw _ (List.mem_of_getElem? (i := 49) rfl))) (mvT hZ (hw _ (List.mem_of_getElem? (i := 50) rfl))) (mvT hZ (own_selects (x := (⟨"com/example/weaver_ant/weaverant/simulation/DepartureQueue", "add", "(DI[III[III)V"⟩ : MethodName)) rfl rfl (by decide) (hw _ (List.mem_of_getElem? (i := 38) rfl)) (hw _ (List.mem_of_getElem? (i := 50) rfl)) (hw _ (List.mem_of_getElem? (i := 51) rfl)))) (Cond.privateMethod_at (mvP hZ (hw _ (List.mem_of_getElem? (i := 51) rfl)) (args := #[]))) (mvT hZ (hw _ (List.mem_of_getElem? (i := 52) rfl))) (by decide) (backOf (W := 0) (rmP l Z a0 hw [] q ad kk n f (1 : Int32) dw ww h0 n0 D Q (by decide) iw) hZ (hw _ (List.mem_of_getElem? (i := 52) rfl)) (hw _ (List.mem_of_getElem? (i := 3) rfl)) (by decide) (by decide)) (g := (mkF m 49 #[.val (.ref q), .val (.int (1 : Int32)), .val (.double d), .second, .val (.int p2), .val (.int (1 : Int32)), .val (.int (0 : Int32))] [(.int ww), (.double dw), (.int (1 : Int32)), (.ref q)])) rfl (by rw [hml]; rfl) (Steps.refl _) (a := q) (by rw [e5]; exact q7) q7' (argsL := [(.int (1 : Int32)), (.double dw), (.int ww)]) (rest := []) (lenOf pd_p rfl) rfl (by show 2 * 0 + _ ≤ _; exact Nat.le_of_eq rfl) (hb hby ds_49) (fun _ _ => ⟨rfl, e5, (by decide : 0 + 0 ≤ _), (by decide : 0 + 0 ≤ _)⟩)
    dsimp only [Pt.U, Pt.locs, Pt.cells, Pt.slots] at X7 l7 y7 z7 st7 hQ7
    subst l7 y7 z7
    obtain ⟨rfl, M7, Kq7, Q7⟩ := hQ7
    have N7 := Fr.app N0 M7
    have P7 : Keep h0 T7.heap (own_ws q ad) := (Keep.refl _ _).trans Kq7 (fun x hx => Or.inl hx)
    obtain ⟨cq8, q8, q8'⟩ := Q7.1.cell
    obtain ⟨_, _, ⟨T8, L8, k8, n8⟩, -, X8, ⟨Lc8, hQ8, l8, y8, z8⟩, st8⟩ := X7.privateBack hx (y := (⟨"com/example/weaver_ant/weaverant/simulation/DepartureQueue", "place", "(IDI)V"⟩ : MethodName)) hown (mvT hZ (hw _ (List.mem_of_getElem? (i := 49) rfl))) (mvT hZ (hw _ (List.mem_of_getElem? (i := 50) rfl))) (mvT hZ (own_selects (x := (⟨"com/example/weaver_ant/weaverant/simulation/DepartureQueue", "add", "(DI[III[III)V"⟩ : MethodName)) rfl rfl (by decide) (hw _ (List.mem_of_getElem? (i := 38) rfl)) (hw _ (List.mem_of_getElem? (i := 50) rfl)) (hw _ (List.mem_of_getElem? (i := 51) rfl)))) (Cond.privateMethod_at (mvP hZ (hw _ (List.mem_of_getElem? (i := 51) rfl)) (args := #[]))) (mvT hZ (hw _ (List.mem_of_getElem? (i := 52) rfl))) (by decide) (backOf (W := 0) (rmP l Z a0 hw [] q ad kk n f (0 : Int32) d p2 T7.heap n0 D Q7 (by decide) i2) hZ (hw _ (List.mem_of_getElem? (i := 52) rfl)) (hw _ (List.mem_of_getElem? (i := 3) rfl)) (by decide) (by decide)) (g := (mkF m 65 #[.val (.ref q), .val (.int (1 : Int32)), .val (.double d), .second, .val (.int p2), .val (.int (0 : Int32)), .val (.int (0 : Int32))] [(.int p2), (.double d), (.int (0 : Int32)), (.ref q)])) rfl (by rw [hml]; rfl) (Steps.refl _) (a := q) q8 q8' (argsL := [(.int (0 : Int32)), (.double d), (.int p2)]) (rest := []) (lenOf pd_p rfl) rfl (by show 2 * 0 + _ ≤ _; exact Nat.le_of_eq rfl) (hb hby ds_65) (fun _ _ => ⟨rfl, (rfl), (by decide : 0 + 0 ≤ _), (by decide : 0 + 0 ≤ _)⟩)
    dsimp only [Pt.U, Pt.locs, Pt.cells, Pt.slots] at X8 l8 y8 z8 st8 hQ8
    subst l8 y8 z8
    obtain ⟨rfl, M8, Kq8, Q8⟩ := hQ8
    have N8 := Fr.app N7 M8
    have P8 : Keep h0 T8.heap (own_ws q ad) := P7.trans Kq8 (fun x hx => Or.inl hx)
    obtain ⟨fs, hr, hrun, hended, hW, hsame⟩ := X8.leave (v := none) (fun _ => rfl)
    refine ⟨_, _, pre0 _ ?_, hrun, hended, _, _, rfl, ?_, ⟨_, rfl⟩, hW, hsame.mono (by decide) (by decide)⟩
    · show Steps p.tables e below (s₁.setTop (mkF m 0 #[.val (.ref q), .val (.int (1 : Int32)), .val (.double d), .second, .val (.int p2), .unset, .unset] [])) _
      refine XS.iloadN X0.here hx rfl (hb hby ds_0) rfl ?_
      show Steps p.tables e below (s₁.setTop (mkF m 1 #[.val (.ref q), .val (.int (1 : Int32)), .val (.double d), .second, .val (.int p2), .unset, .unset] [(.int (1 : Int32))])) _
      refine XS.istore X0.here hx rfl (hb hby ds_1) rfl (l' := #[.val (.ref q), .val (.int (1 : Int32)), .val (.double d), .second, .val (.int p2), .val (.int (1 : Int32)), .unset]) rfl ?_
      show Steps p.tables e below (s₁.setTop (mkF m 3 #[.val (.ref q), .val (.int (1 : Int32)), .val (.double d), .second, .val (.int p2), .val (.int (1 : Int32)), .unset] [])) _
      refine XS.iload X0.here hx rfl (hb hby ds_3) rfl ?_
      show Steps p.tables e below (s₁.setTop (mkF m 5 #[.val (.ref q), .val (.int (1 : Int32)), .val (.double d), .second, .val (.int p2), .val (.int (1 : Int32)), .unset] [(.int (1 : Int32))])) _
      refine XS.ifNo X0.here hx rfl (hb hby ds_5) rfl (by decide) ?_
      show Steps p.tables e below (s₁.setTop (mkF m 8 #[.val (.ref q), .val (.int (1 : Int32)), .val (.double d), .second, .val (.int p2), .val (.int (1 : Int32)), .unset] [])) _
      refine XS.aloadN X0.here hx rfl (hb hby ds_8) rfl rfl ?_
      show Steps p.tables e below (s₁.setTop (mkF m 9 #[.val (.ref q), .val (.int (1 : Int32)), .val (.double d), .second, .val (.int p2), .val (.int (1 : Int32)), .unset] [(.ref q)])) _
      refine st1 _ ?_
      show Steps p.tables e below (T1.setTop (mkF m 12 #[.val (.ref q), .val (.int (1 : Int32)), .val (.double d), .second, .val (.int p2), .val (.int (1 : Int32)), .unset] [(.ref (ad 0))])) _
      refine XS.iload X1.here hx rfl (hb hby ds_12) rfl ?_
      show Steps p.tables e below (T1.setTop (mkF m 14 #[.val (.ref q), .val (.int (1 : Int32)), .val (.double d), .second, .val (.int p2), .val (.int (1 : Int32)), .unset] [(.int (1 : Int32)), (.ref (ad 0))])) _
      refine XS.iconst X1.here hx rfl (hb hby ds_14) ?_
      show Steps p.tables e below (T1.setTop (mkF m 15 #[.val (.ref q), .val (.int (1 : Int32)), .val (.double d), .second, .val (.int p2), .val (.int (1 : Int32)), .unset] [(.int (1 : Int32)), (.int (1 : Int32)), (.ref (ad 0))])) _
      refine XS.isub X1.here hx rfl (hb hby ds_15) rfl ?_
      show Steps p.tables e below (T1.setTop (mkF m 16 #[.val (.ref q), .val (.int (1 : Int32)), .val (.double d), .second, .val (.int p2), .val (.int (1 : Int32)), .unset] [(.int ((1 : Int32) - (1 : Int32))), (.ref (ad 0))])) _
      refine XS.iconst X1.here hx rfl (hb hby ds_16) ?_
      show Steps p.tables e below (T1.setTop (mkF m 17 #[.val (.ref q), .val (.int (1 : Int32)), .val (.double d), .second, .val (.int p2), .val (.int (1 : Int32)), .unset] [(.int (2 : Int32)), (.int ((1 : Int32) - (1 : Int32))), (.ref (ad 0))])) _
      refine XS.idiv X1.here hx rfl (hb hby ds_17) rfl (by decide) ?_
      rw [own_half]
      show Steps p.tables e below (T1.setTop (mkF m 18 #[.val (.ref q), .val (.int (1 : Int32)), .val (.double d), .second, .val (.int p2), .val (.int (1 : Int32)), .unset] [(.int (0 : Int32)), (.ref (ad 0))])) _
      refine X1.daload hx (j := (0 : Int32)) (v := (.double dv)) (by rw [e1]; exact A2.1) (State.isArrayOf_alike hZ.alike A2.2.1) A2.2.2 (own_inb S2 (by decide)) at2 (g := (mkF m 18 #[.val (.ref q), .val (.int (1 : Int32)), .val (.double d), .second, .val (.int p2), .val (.int (1 : Int32)), .unset] [(.int (0 : Int32)), (.ref (ad 0))])) rfl rfl (hb hby ds_18) _ ?_
      show Steps p.tables e below (T1.setTop (mkF m 19 #[.val (.ref q), .val (.int (1 : Int32)), .val (.double d), .second, .val (.int p2), .val (.int (1 : Int32)), .unset] [(.double dv)])) _
      refine XS.dloadN X1.here hx rfl (hb hby ds_19) rfl ?_
      show Steps p.tables e below (T1.setTop (mkF m 20 #[.val (.ref q), .val (.int (1 : Int32)), .val (.double d), .second, .val (.int p2), .val (.int (1 : Int32)), .unset] [(.double d), (.double dv)])) _
      refine XS.dcmpS X1.here hx rfl (hb hby ds_20) rfl rfl ?_
      show Steps p.tables e below (T1.setTop (mkF m 21 #[.val (.ref q), .val (.int (1 : Int32)), .val (.double d), .second, .val (.int p2), .val (.int (1 : Int32)), .unset] [(.int (cmpValue (FP.dcmp dv d) .l))])) _
      refine XS.ifNo X1.here hx rfl (hb hby ds_21) rfl ((if0 _ _).trans hc1) ?_
      show Steps p.tables e below (T1.setTop (mkF m 24 #[.val (.ref q), .val (.int (1 : Int32)), .val (.double d), .second, .val (.int p2), .val (.int (1 : Int32)), .unset] [])) _
      refine XS.iload X1.here hx rfl (hb hby ds_24) rfl ?_
      show Steps p.tables e below (T1.setTop (mkF m 26 #[.val (.ref q), .val (.int (1 : Int32)), .val (.double d), .second, .val (.int p2), .val (.int (1 : Int32)), .unset] [(.int (1 : Int32))])) _
      refine XS.iconst X1.here hx rfl (hb hby ds_26) ?_
      show Steps p.tables e below (T1.setTop (mkF m 27 #[.val (.ref q), .val (.int (1 : Int32)), .val (.double d), .second, .val (.int p2), .val (.int (1 : Int32)), .unset] [(.int (1 : Int32)), (.int (1 : Int32))])) _
      refine XS.isub X1.here hx rfl (hb hby ds_27) rfl ?_
      show Steps p.tables e below (T1.setTop (mkF m 28 #[.val (.ref q), .val (.int (1 : Int32)), .val (.double d), .second, .val (.int p2), .val (.int (1 : Int32)), .unset] [(.int ((1 : Int32) - (1 : Int32)))])) _
      refine XS.iconst X1.here hx rfl (hb hby ds_28) ?_
      show Steps p.tables e below (T1.setTop (mkF m 29 #[.val (.ref q), .val (.int (1 : Int32)), .val (.double d), .second, .val (.int p2), .val (.int (1 : Int32)), .unset] [(.int (2 : Int32)), (.int ((1 : Int32) - (1 : Int32)))])) _
      refine XS.idiv X1.here hx rfl (hb hby ds_29) rfl (by decide) ?_
      rw [own_half]
      show Steps p.tables e below (T1.setTop (mkF m 30 #[.val (.ref q), .val (.int (1 : Int32)), .val (.double d), .second, .val (.int p2), .val (.int (1 : Int32)), .unset] [(.int (0 : Int32))])) _
      refine XS.istore X1.here hx rfl (hb hby ds_30) rfl (l' := #[.val (.ref q), .val (.int (1 : Int32)), .val (.double d), .second, .val (.int p2), .val (.int (1 : Int32)), .val (.int (0 : Int32))]) rfl ?_
      show Steps p.tables e below (T1.setTop (mkF m 32 #[.val (.ref q), .val (.int (1 : Int32)), .val (.double d), .second, .val (.int p2), .val (.int (1 : Int32)), .val (.int (0 : Int32))] [])) _
      refine XS.aloadN X1.here hx rfl (hb hby ds_32) rfl rfl ?_
      show Steps p.tables e below (T1.setTop (mkF m 33 #[.val (.ref q), .val (.int (1 : Int32)), .val (.double d), .second, .val (.int p2), .val (.int (1 : Int32)), .val (.int (0 : Int32))] [(.ref q)])) _
      refine XS.iload X1.here hx rfl (hb hby ds_33) rfl ?_
      show Steps p.tables e below (T1.setTop (mkF m 35 #[.val (.ref q), .val (.int (1 : Int32)), .val (.double d), .second, .val (.int p2), .val (.int (1 : Int32)), .val (.int (0 : Int32))] [(.int (1 : Int32)), (.ref q)])) _
      refine XS.aloadN X1.here hx rfl (hb hby ds_35) rfl rfl ?_
      show Steps p.tables e below (T1.setTop (mkF m 36 #[.val (.ref q), .val (.int (1 : Int32)), .val (.double d), .second, .val (.int p2), .val (.int (1 : Int32)), .val (.int (0 : Int32))] [(.ref q), (.int (1 : Int32)), (.ref q)])) _
      refine st3 _ ?_
      show Steps p.tables e below (T3.setTop (mkF m 39 #[.val (.ref q), .val (.int (1 : Int32)), .val (.double d), .second, .val (.int p2), .val (.int (1 : Int32)), .val (.int (0 : Int32))] [(.ref (ad 0)), (.int (1 : Int32)), (.ref q)])) _
      refine XS.iload X3.here hx rfl (hb hby ds_39) rfl ?_
      show Steps p.tables e below (T3.setTop (mkF m 41 #[.val (.ref q), .val (.int (1 : Int32)), .val (.double d), .second, .val (.int p2), .val (.int (1 : Int32)), .val (.int (0 : Int32))] [(.int (0 : Int32)), (.ref (ad 0)), (.int (1 : Int32)), (.ref q)])) _
      refine X3.daload hx (j := (0 : Int32)) (v := (.double dw)) (by rw [e3]; exact A4.1) (State.isArrayOf_alike hZ.alike A4.2.1) A4.2.2 (own_inb S4 (by decide)) at4 (g := (mkF m 41 #[.val (.ref q), .val (.int (1 : Int32)), .val (.double d), .second, .val (.int p2), .val (.int (1 : Int32)), .val (.int (0 : Int32))] [(.int (0 : Int32)), (.ref (ad 0)), (.int (1 : Int32)), (.ref q)])) rfl rfl (hb hby ds_41) _ ?_
      show Steps p.tables e below (T3.setTop (mkF m 42 #[.val (.ref q), .val (.int (1 : Int32)), .val (.double d), .second, .val (.int p2), .val (.int (1 : Int32)), .val (.int (0 : Int32))] [(.double dw), (.int (1 : Int32)), (.ref q)])) _
      refine XS.aloadN X3.here hx rfl (hb hby ds_42) rfl rfl ?_
      show Steps p.tables e below (T3.setTop (mkF m 43 #[.val (.ref q), .val (.int (1 : Int32)), .val (.double d), .second, .val (.int p2), .val (.int (1 : Int32)), .val (.int (0 : Int32))] [(.ref q), (.double dw), (.int (1 : Int32)), (.ref q)])) _
      refine st5 _ ?_
      show Steps p.tables e below (T5.setTop (mkF m 46 #[.val (.ref q), .val (.int (1 : Int32)), .val (.double d), .second, .val (.int p2), .val (.int (1 : Int32)), .val (.int (0 : Int32))] [(.ref (ad 1)), (.double dw), (.int (1 : Int32)), (.ref q)])) _
      refine XS.iload X5.here hx rfl (hb hby ds_46) rfl ?_
      show Steps p.tables e below (T5.setTop (mkF m 48 #[.val (.ref q), .val (.int (1 : Int32)), .val (.double d), .second, .val (.int p2), .val (.int (1 : Int32)), .val (.int (0 : Int32))] [(.int (0 : Int32)), (.ref (ad 1)), (.double dw), (.int (1 : Int32)), (.ref q)])) _
      refine X5.iaload hx (j := (0 : Int32)) (v := (.int ww)) (by rw [e5]; exact A6.1) (State.isArrayOf_alike hZ.alike A6.2.1) A6.2.2 (own_inb S6 (by decide)) at6 (g := (mkF m 48 #[.val (.ref q), .val (.int (1 : Int32)), .val (.double d), .second, .val (.int p2), .val (.int (1 : Int32)), .val (.int (0 : Int32))] [(.int (0 : Int32)), (.ref (ad 1)), (.double dw), (.int (1 : Int32)), (.ref q)])) rfl rfl (hb hby ds_48) _ ?_
      show Steps p.tables e below (T5.setTop (mkF m 49 #[.val (.ref q), .val (.int (1 : Int32)), .val (.double d), .second, .val (.int p2), .val (.int (1 : Int32)), .val (.int (0 : Int32))] [(.int ww), (.double dw), (.int (1 : Int32)), (.ref q)])) _
      refine st7.trans ?_
      show Steps p.tables e below (T7.setTop (mkF m 52 #[.val (.ref q), .val (.int (1 : Int32)), .val (.double d), .second, .val (.int p2), .val (.int (1 : Int32)), .val (.int (0 : Int32))] [])) _
      refine XS.iload X7.here hx rfl (hb hby ds_52) rfl ?_
      show Steps p.tables e below (T7.setTop (mkF m 54 #[.val (.ref q), .val (.int (1 : Int32)), .val (.double d), .second, .val (.int p2), .val (.int (1 : Int32)), .val (.int (0 : Int32))] [(.int (0 : Int32))])) _
      refine XS.istore X7.here hx rfl (hb hby ds_54) rfl (l' := #[.val (.ref q), .val (.int (1 : Int32)), .val (.double d), .second, .val (.int p2), .val (.int (0 : Int32)), .val (.int (0 : Int32))]) rfl ?_
      show Steps p.tables e below (T7.setTop (mkF m 56 #[.val (.ref q), .val (.int (1 : Int32)), .val (.double d), .second, .val (.int p2), .val (.int (0 : Int32)), .val (.int (0 : Int32))] [])) _
      refine XS.goto X7.here hx rfl (pc0 := 56) (pc' := 3) rfl (hb hby ds_56) (by decide) (by decide) ?_
      show Steps p.tables e below (T7.setTop (mkF m 3 #[.val (.ref q), .val (.int (1 : Int32)), .val (.double d), .second, .val (.int p2), .val (.int (0 : Int32)), .val (.int (0 : Int32))] [])) _
      refine XS.iload X7.here hx rfl (hb hby ds_3) rfl ?_
      show Steps p.tables e below (T7.setTop (mkF m 5 #[.val (.ref q), .val (.int (1 : Int32)), .val (.double d), .second, .val (.int p2), .val (.int (0 : Int32)), .val (.int (0 : Int32))] [(.int (0 : Int32))])) _
      refine XS.ifYes X7.here hx rfl (pc0 := 5) (pc' := 59) rfl (hb hby ds_5) rfl (by decide) (by decide) (by decide) ?_
      show Steps p.tables e below (T7.setTop (mkF m 59 #[.val (.ref q), .val (.int (1 : Int32)), .val (.double d), .second, .val (.int p2), .val (.int (0 : Int32)), .val (.int (0 : Int32))] [])) _
      refine XS.aloadN X7.here hx rfl (hb hby ds_59) rfl rfl ?_
      show Steps p.tables e below (T7.setTop (mkF m 60 #[.val (.ref q), .val (.int (1 : Int32)), .val (.double d), .second, .val (.int p2), .val (.int (0 : Int32)), .val (.int (0 : Int32))] [(.ref q)])) _
      refine XS.iload X7.here hx rfl (hb hby ds_60) rfl ?_
      show Steps p.tables e below (T7.setTop (mkF m 62 #[.val (.ref q), .val (.int (1 : Int32)), .val (.double d), .second, .val (.int p2), .val (.int (0 : Int32)), .val (.int (0 : Int32))] [(.int (0 : Int32)), (.ref q)])) _
      refine XS.dloadN X7.here hx rfl (hb hby ds_62) rfl ?_
      show Steps p.tables e below (T7.setTop (mkF m 63 #[.val (.ref q), .val (.int (1 : Int32)), .val (.double d), .second, .val (.int p2), .val (.int (0 : Int32)), .val (.int (0 : Int32))] [(.double d), (.int (0 : Int32)), (.ref q)])) _
      refine XS.iload X7.here hx rfl (hb hby ds_63) rfl ?_
      show Steps p.tables e below (T7.setTop (mkF m 65 #[.val (.ref q), .val (.int (1 : Int32)), .val (.double d), .second, .val (.int p2), .val (.int (0 : Int32)), .val (.int (0 : Int32))] [(.int p2), (.double d), (.int (0 : Int32)), (.ref q)])) _
      refine st8.trans ?_
      show Steps p.tables e below (T8.setTop (mkF m 68 #[.val (.ref q), .val (.int (1 : Int32)), .val (.double d), .second, .val (.int p2), .val (.int (0 : Int32)), .val (.int (0 : Int32))] [])) _
      exact X8.returnOut hx Bd.returns (hb hby ds_68) hr
    · show own_M Z q ad kk n f h0 n0 _ T8.heap _
      exact ⟨rfl, N8, P8, Q8⟩
theorem rmS (l : Launch) (Z : State) (a0 : Array Value) (hw : ∀ d ∈ tables_1, d.before a0 Z = true) (ws : List Jvm.Cond) (q : Addr) (ad : Nat → Addr) (kk : Nat → ClassId) (n : Int32) (f : Nat → Nat → Value) (p1 : Int32) (hp1 : p1 = 0 ∨ p1 = 1) (d : UInt64) (p2 : Int32) (h0 : Heap) (n0 : Nat) (D : own_D q ad n0) (Q : own_Q Z h0 q ad kk n f) (i2 : ¬ p2 < 0 ∧ p2 < 64) :
    MetFree l (⟨"com/example/weaver_ant/weaverant/simulation/DepartureQueue", "siftUp", "(IDI)V"⟩ : MethodName) (head1 (Jvm.Cond.code (⟨"com/example/weaver_ant/weaverant/simulation/DepartureQueue", "siftUp", "(IDI)V"⟩ : MethodName) prog_37_method_18_code 7 none :: ws) ({ frames := 1, cells := 0, slots := 0, locals := 16 } : Room)) (fun a U => a = #[(.ref q), (.int p1), (.double d), (.int p2)] ∧ Z.Warmed39 U.vm ∧ U.heap = h0) (fun _ _ _ _ _ => True) (fun _ U o U' => ∃ v L, o = .returned v ∧ own_M Z q ad kk n f h0 n0 v U'.heap L ∧ FrameEnd U o U' L ({ frames := 1, cells := 0, slots := 0, locals := 16 } : Room).cells ({ frames := 1, cells := 0, slots := 0, locals := 16 } : Room).slots) := by
  rcases hp1 with rfl | rfl
  · exact rmS0 l Z a0 hw ws q ad kk n f d p2 h0 n0 D Q i2
  · exact rmS1 l Z a0 hw ws q ad kk n f d p2 h0 n0 D Q i2
theorem da_0 : decode prog_37_method_15_code 0 = .ok (.aload_n 0, 1) := by decide +kernel
theorem da_1 : decode prog_37_method_15_code 1 = .ok (.getfield 46, 3) := by decide +kernel
theorem da_4 : decode prog_37_method_15_code 4 = .ok (.aload_n 0, 1) := by decide +kernel
theorem da_5 : decode prog_37_method_15_code 5 = .ok (.getfield 9, 3) := by decide +kernel
theorem da_8 : decode prog_37_method_15_code 8 = .ok (.arraylength, 1) := by decide +kernel
theorem da_9 : decode prog_37_method_15_code 9 = .ok (.if_icmp .ne 7, 3) := by decide +kernel
theorem da_12 : decode prog_37_method_15_code 12 = .ok (.aload_n 0, 1) := by decide +kernel
theorem da_13 : decode prog_37_method_15_code 13 = .ok (.invokevirtual 54, 3) := by decide +kernel
theorem da_16 : decode prog_37_method_15_code 16 = .ok (.aload_n 0, 1) := by decide +kernel
theorem da_17 : decode prog_37_method_15_code 17 = .ok (.getfield 57, 3) := by decide +kernel
theorem da_20 : decode prog_37_method_15_code 20 = .ok (.ifCond .le 22, 3) := by decide +kernel
theorem da_23 : decode prog_37_method_15_code 23 = .ok (.aload_n 0, 1) := by decide +kernel
theorem da_24 : decode prog_37_method_15_code 24 = .ok (.getfield 43, 3) := by decide +kernel
theorem da_27 : decode prog_37_method_15_code 27 = .ok (.aload_n 0, 1) := by decide +kernel
theorem da_28 : decode prog_37_method_15_code 28 = .ok (.dup, 1) := by decide +kernel
theorem da_29 : decode prog_37_method_15_code 29 = .ok (.getfield 57, 3) := by decide +kernel
theorem da_32 : decode prog_37_method_15_code 32 = .ok (.iconst 1, 1) := by decide +kernel
theorem da_33 : decode prog_37_method_15_code 33 = .ok (.isub, 1) := by decide +kernel
theorem da_34 : decode prog_37_method_15_code 34 = .ok (.dup_x1, 1) := by decide +kernel
theorem da_35 : decode prog_37_method_15_code 35 = .ok (.putfield 57, 3) := by decide +kernel
theorem da_38 : decode prog_37_method_15_code 38 = .ok (.iaload, 1) := by decide +kernel
theorem da_39 : decode prog_37_method_15_code 39 = .ok (.goto 7, 3) := by decide +kernel
theorem da_42 : decode prog_37_method_15_code 42 = .ok (.aload_n 0, 1) := by decide +kernel
theorem da_43 : decode prog_37_method_15_code 43 = .ok (.getfield 46, 3) := by decide +kernel
theorem da_46 : decode prog_37_method_15_code 46 = .ok (.istore 10, 2) := by decide +kernel
theorem da_48 : decode prog_37_method_15_code 48 = .ok (.aload_n 0, 1) := by decide +kernel
theorem da_49 : decode prog_37_method_15_code 49 = .ok (.getfield 20, 3) := by decide +kernel
theorem da_52 : decode prog_37_method_15_code 52 = .ok (.iload 10, 2) := by decide +kernel
theorem da_54 : decode prog_37_method_15_code 54 = .ok (.iload_n 3, 1) := by decide +kernel
theorem da_55 : decode prog_37_method_15_code 55 = .ok (.iastore, 1) := by decide +kernel
theorem da_56 : decode prog_37_method_15_code 56 = .ok (.aload_n 0, 1) := by decide +kernel
theorem da_57 : decode prog_37_method_15_code 57 = .ok (.getfield 24, 3) := by decide +kernel
theorem da_60 : decode prog_37_method_15_code 60 = .ok (.iload 10, 2) := by decide +kernel
theorem da_62 : decode prog_37_method_15_code 62 = .ok (.aload 4, 2) := by decide +kernel
theorem da_64 : decode prog_37_method_15_code 64 = .ok (.aastore, 1) := by decide +kernel
theorem da_65 : decode prog_37_method_15_code 65 = .ok (.aload_n 0, 1) := by decide +kernel
theorem da_66 : decode prog_37_method_15_code 66 = .ok (.getfield 28, 3) := by decide +kernel
theorem da_69 : decode prog_37_method_15_code 69 = .ok (.iload 10, 2) := by decide +kernel
theorem da_71 : decode prog_37_method_15_code 71 = .ok (.iload 5, 2) := by decide +kernel
theorem da_73 : decode prog_37_method_15_code 73 = .ok (.iastore, 1) := by decide +kernel
theorem da_74 : decode prog_37_method_15_code 74 = .ok (.aload_n 0, 1) := by decide +kernel
theorem da_75 : decode prog_37_method_15_code 75 = .ok (.getfield 31, 3) := by decide +kernel
theorem da_78 : decode prog_37_method_15_code 78 = .ok (.iload 10, 2) := by decide +kernel
theorem da_80 : decode prog_37_method_15_code 80 = .ok (.iload 6, 2) := by decide +kernel
theorem da_82 : decode prog_37_method_15_code 82 = .ok (.iastore, 1) := by decide +kernel
theorem da_83 : decode prog_37_method_15_code 83 = .ok (.aload_n 0, 1) := by decide +kernel
theorem da_84 : decode prog_37_method_15_code 84 = .ok (.getfield 34, 3) := by decide +kernel
theorem da_87 : decode prog_37_method_15_code 87 = .ok (.iload 10, 2) := by decide +kernel
theorem da_89 : decode prog_37_method_15_code 89 = .ok (.aload 7, 2) := by decide +kernel
theorem da_91 : decode prog_37_method_15_code 91 = .ok (.aastore, 1) := by decide +kernel
theorem da_92 : decode prog_37_method_15_code 92 = .ok (.aload_n 0, 1) := by decide +kernel
theorem da_93 : decode prog_37_method_15_code 93 = .ok (.getfield 37, 3) := by decide +kernel
theorem da_96 : decode prog_37_method_15_code 96 = .ok (.iload 10, 2) := by decide +kernel
theorem da_98 : decode prog_37_method_15_code 98 = .ok (.iload 8, 2) := by decide +kernel
theorem da_100 : decode prog_37_method_15_code 100 = .ok (.iastore, 1) := by decide +kernel
theorem da_101 : decode prog_37_method_15_code 101 = .ok (.aload_n 0, 1) := by decide +kernel
theorem da_102 : decode prog_37_method_15_code 102 = .ok (.getfield 40, 3) := by decide +kernel
theorem da_105 : decode prog_37_method_15_code 105 = .ok (.iload 10, 2) := by decide +kernel
theorem da_107 : decode prog_37_method_15_code 107 = .ok (.iload 9, 2) := by decide +kernel
theorem da_109 : decode prog_37_method_15_code 109 = .ok (.iastore, 1) := by decide +kernel
theorem da_110 : decode prog_37_method_15_code 110 = .ok (.aload_n 0, 1) := by decide +kernel
theorem da_111 : decode prog_37_method_15_code 111 = .ok (.dup, 1) := by decide +kernel
theorem da_112 : decode prog_37_method_15_code 112 = .ok (.getfield 46, 3) := by decide +kernel
theorem da_115 : decode prog_37_method_15_code 115 = .ok (.iconst 1, 1) := by decide +kernel
theorem da_116 : decode prog_37_method_15_code 116 = .ok (.iadd, 1) := by decide +kernel
theorem da_117 : decode prog_37_method_15_code 117 = .ok (.putfield 46, 3) := by decide +kernel
theorem da_120 : decode prog_37_method_15_code 120 = .ok (.aload_n 0, 1) := by decide +kernel
theorem da_121 : decode prog_37_method_15_code 121 = .ok (.aload_n 0, 1) := by decide +kernel
theorem da_122 : decode prog_37_method_15_code 122 = .ok (.getfield 46, 3) := by decide +kernel
theorem da_125 : decode prog_37_method_15_code 125 = .ok (.iconst 1, 1) := by decide +kernel
theorem da_126 : decode prog_37_method_15_code 126 = .ok (.isub, 1) := by decide +kernel
theorem da_127 : decode prog_37_method_15_code 127 = .ok (.dload_n 1, 1) := by decide +kernel
theorem da_128 : decode prog_37_method_15_code 128 = .ok (.iload 10, 2) := by decide +kernel
theorem da_130 : decode prog_37_method_15_code 130 = .ok (.invokevirtual 60, 3) := by decide +kernel
theorem da_133 : decode prog_37_method_15_code 133 = .ok (.return_, 1) := by decide +kernel
theorem ef_rmA (m : MethodId) (x0 : Addr) (x1 : UInt64) (x2 : Int32) (x3 : Addr) (x4 : Int32) (x5 : Int32) (x6 : Addr) (x7 : Int32) (x8 : Int32) : entryFrame m #[(.ref x0), (.double x1), (.int x2), (.ref x3), (.int x4), (.int x5), (.ref x6), (.int x7), (.int x8)] 11 = mkF m 0 #[.val (.ref x0), .val (.double x1), .second, .val (.int x2), .val (.ref x3), .val (.int x4), .val (.int x5), .val (.ref x6), .val (.int x7), .val (.int x8), .unset] [] := by first | (simp [entryFrame, mkF, argsToLocals, Value.category]; done) | rfl
set_option maxRecDepth 65536 in
set_option maxHeartbeats 40000000 in
theorem rmA (l : Launch) (Z : State) (a0 : Array Value) (hw : ∀ d ∈ tables_1, d.before a0 Z = true) (ws : List Jvm.Cond) (q : Addr) (ad : Nat → Addr) (kk : Nat → ClassId) (n : Int32) (f : Nat → Nat → Value) (d : UInt64) (pr : Int32) (rt : Addr) (st wd : Int32) (bk : Addr) (bs bw : Int32) (h0 : Heap) (n0 : Nat) (D : own_D q ad n0) (Q : own_Q Z h0 q ad kk n f) (hn : n = 0 ∨ n = 1) (Er : Exa Z h0 rt "[I") (Eb : Exa Z h0 bk "[I") (O4 : OvrA Z (kk 4) .int "[I") (O7 : OvrA Z (kk 7) .int "[I") :
    MetFree l (⟨"com/example/weaver_ant/weaverant/simulation/DepartureQueue", "add", "(DI[III[III)V"⟩ : MethodName) (head1 (Jvm.Cond.code (⟨"com/example/weaver_ant/weaverant/simulation/DepartureQueue", "add", "(DI[III[III)V"⟩ : MethodName) prog_37_method_15_code 11 none :: ws) ({ frames := 2, cells := 0, slots := 0, locals := 34 } : Room)) (fun a U => a = #[(.ref q), (.double d), (.int pr), (.ref rt), (.int st), (.int wd), (.ref bk), (.int bs), (.int bw)] ∧ Z.Warmed39 U.vm ∧ U.heap = h0) (fun _ _ _ _ _ => True) (fun _ U o U' => ∃ v L, o = .returned v ∧ own_M Z q ad kk (n + 1) (own_add f n.toNatClampNeg rt st wd bk bs bw) h0 n0 v U'.heap L ∧ FrameEnd U o U' L ({ frames := 2, cells := 0, slots := 0, locals := 34 } : Room).cells ({ frames := 2, cells := 0, slots := 0, locals := 34 } : Room).slots) := by
  refine MetFree.of_bodySF (plainFor_of_name pn_1) hisR ?_
  intro p e s m args below meth c s₁ Bd hml0 hP hK
  obtain ⟨rfl, hZ, hh⟩ := hP
  have hx := Bd.exec
  have hby := Bd.bytes
  have hml : c.maxLocals = 11 := hml0
  have hown : s.vm.findClass "com/example/weaver_ant/weaverant/simulation/DepartureQueue" = some m.cls := findClass_of_methodNamed Bd.named
  have X0 : Stand p l e ({ frames := 2, cells := 0, slots := 0, locals := 34 } : Room) s m #[(.ref q), (.double d), (.int pr), (.ref rt), (.int st), (.int wd), (.ref bk), (.int bs), (.int bw)] below meth c s₁ [] 0 0 := Stand.of_body Bd
  have e0 : s₁.heap = h0 := by rw [← hh, Bd.state]; rfl
  have N0 := Fr.nil n0
  have pre0 : ∀ t, Steps p.tables e below (s₁.setTop (mkF m 0 #[.val (.ref q), .val (.double d), .second, .val (.int pr), .val (.ref rt), .val (.int st), .val (.int wd), .val (.ref bk), .val (.int bs), .val (.int bw), .unset] [])) t → Steps p.tables e below (s₁.setTop (entryFrame m #[(.ref q), (.double d), (.int pr), (.ref rt), (.int st), (.int wd), (.ref bk), (.int bs), (.int bw)] 11)) t := fun t kt => castTop (ef_rmA m q d pr rt st wd bk bs bw) kt
  obtain ⟨inn, n64, nn1⟩ := own_n hn
  obtain ⟨T1, X1, e1, st1⟩ := getF X0 hx hZ hown (host := "") (Or.inl (hw _ (List.mem_of_getElem? (i := 40) rfl))) Via.refl e0 (own_f11 Q) (g := (mkF m 1 #[.val (.ref q), .val (.double d), .second, .val (.int pr), .val (.ref rt), .val (.int st), .val (.int wd), .val (.ref bk), .val (.int bs), .val (.int bw), .unset] [(.ref q)])) rfl rfl (hb hby da_1)
  obtain ⟨T2, X2, e2, st2⟩ := getF X1 hx hZ hown (host := "") (Or.inl (hw _ (List.mem_of_getElem? (i := 11) rfl))) Via.refl e1 (own_f0 Q) (g := (mkF m 5 #[.val (.ref q), .val (.double d), .second, .val (.int pr), .val (.ref rt), .val (.int st), .val (.int wd), .val (.ref bk), .val (.int bs), .val (.int bw), .unset] [(.ref q), (.int n)])) rfl rfl (hb hby da_5)
  obtain ⟨ct, At, Kt, St, Gt⟩ := Q.2.2 0 (by decide)
  obtain ⟨T3, X3, e3, st3⟩ := getF X2 hx hZ hown (host := "") (Or.inl (hw _ (List.mem_of_getElem? (i := 42) rfl))) Via.refl e2 (own_f12 Q) (g := (mkF m 17 #[.val (.ref q), .val (.double d), .second, .val (.int pr), .val (.ref rt), .val (.int st), .val (.int wd), .val (.ref bk), .val (.int bs), .val (.int bw), .unset] [(.ref q)])) rfl rfl (hb hby da_17)
  obtain ⟨T4, X4, e4, st4⟩ := getF X3 hx hZ hown (host := "") (Or.inl (hw _ (List.mem_of_getElem? (i := 40) rfl))) Via.refl e3 (own_f11 Q) (g := (mkF m 43 #[.val (.ref q), .val (.double d), .second, .val (.int pr), .val (.ref rt), .val (.int st), .val (.int wd), .val (.ref bk), .val (.int bs), .val (.int bw), .unset] [(.ref q)])) rfl rfl (hb hby da_43)
  obtain ⟨T5, X5, e5, st5⟩ := getF X4 hx hZ hown (host := "") (Or.inl (hw _ (List.mem_of_getElem? (i := 17) rfl))) Via.refl e4 (own_f3 Q) (g := (mkF m 49 #[.val (.ref q), .val (.double d), .second, .val (.int pr), .val (.ref rt), .val (.int st), .val (.int wd), .val (.ref bk), .val (.int bs), .val (.int bw), .val (.int n)] [(.ref q)])) rfl rfl (hb hby da_49)
  obtain ⟨c6, A6, K6, S6, G6⟩ := Q.2.2 3 (by decide)
  obtain ⟨T6, h6, X6, e6, W6, st6⟩ := stI X5 hx hZ e5 A6 (j := n) (own_inb S6 inn) (g := (mkF m 55 #[.val (.ref q), .val (.double d), .second, .val (.int pr), .val (.ref rt), .val (.int st), .val (.int wd), .val (.ref bk), .val (.int bs), .val (.int bw), .val (.int n)] [(.int pr), (.int n), (.ref (ad 3))])) rfl rfl (hb hby da_55)
  have N6 := Fr.snoc X6 N0 (D.2.1 3 (by decide)).2
  have P6 : Keep h0 h6 (own_ws q ad) := (Keep.refl _ _).wr W6 (Or.inl (own_mem 3 (by decide)))
  have Q6 := own_Q_lo D Q 3 (by decide) W6 trivial
  obtain ⟨T7, X7, e7, st7⟩ := getF X6 hx hZ hown (host := "") (Or.inl (hw _ (List.mem_of_getElem? (i := 21) rfl))) Via.refl e6 (own_f4 Q6) (g := (mkF m 57 #[.val (.ref q), .val (.double d), .second, .val (.int pr), .val (.ref rt), .val (.int st), .val (.int wd), .val (.ref bk), .val (.int bs), .val (.int bw), .val (.int n)] [(.ref q)])) rfl rfl (hb hby da_57)
  obtain ⟨c8, A8, K8, S8, G8⟩ := Q6.2.2 4 (by decide)
  obtain ⟨T8, h8, X8, e8, W8, st8⟩ := stR X7 hx hZ e7 A8 (j := n) (own_inb S8 inn) rfl (Sto.ofVA A8 K8 O4 (Ins.self (Er.keep P6))) (g := (mkF m 64 #[.val (.ref q), .val (.double d), .second, .val (.int pr), .val (.ref rt), .val (.int st), .val (.int wd), .val (.ref bk), .val (.int bs), .val (.int bw), .val (.int n)] [(.ref rt), (.int n), (.ref (ad 4))])) rfl rfl (hb hby da_64)
  have N8 := Fr.snoc X8 N6 (D.2.1 4 (by decide)).2
  have P8 : Keep h0 h8 (own_ws q ad) := P6.wr W8 (Or.inl (own_mem 4 (by decide)))
  have Q8 := own_Q_hi D Q6 4 (by decide) (by decide) W8
  obtain ⟨T9, X9, e9, st9⟩ := getF X8 hx hZ hown (host := "") (Or.inl (hw _ (List.mem_of_getElem? (i := 23) rfl))) Via.refl e8 (own_f5 Q8) (g := (mkF m 66 #[.val (.ref q), .val (.double d), .second, .val (.int pr), .val (.ref rt), .val (.int st), .val (.int wd), .val (.ref bk), .val (.int bs), .val (.int bw), .val (.int n)] [(.ref q)])) rfl rfl (hb hby da_66)
  obtain ⟨c10, A10, K10, S10, G10⟩ := Q8.2.2 5 (by decide)
  obtain ⟨T10, h10, X10, e10, W10, st10⟩ := stI X9 hx hZ e9 A10 (j := n) (own_inb S10 inn) (g := (mkF m 73 #[.val (.ref q), .val (.double d), .second, .val (.int pr), .val (.ref rt), .val (.int st), .val (.int wd), .val (.ref bk), .val (.int bs), .val (.int bw), .val (.int n)] [(.int st), (.int n), (.ref (ad 5))])) rfl rfl (hb hby da_73)
  have N10 := Fr.snoc X10 N8 (D.2.1 5 (by decide)).2
  have P10 : Keep h0 h10 (own_ws q ad) := P8.wr W10 (Or.inl (own_mem 5 (by decide)))
  have Q10 := own_Q_hi D Q8 5 (by decide) (by decide) W10
  obtain ⟨T11, X11, e11, st11⟩ := getF X10 hx hZ hown (host := "") (Or.inl (hw _ (List.mem_of_getElem? (i := 25) rfl))) Via.refl e10 (own_f6 Q10) (g := (mkF m 75 #[.val (.ref q), .val (.double d), .second, .val (.int pr), .val (.ref rt), .val (.int st), .val (.int wd), .val (.ref bk), .val (.int bs), .val (.int bw), .val (.int n)] [(.ref q)])) rfl rfl (hb hby da_75)
  obtain ⟨c12, A12, K12, S12, G12⟩ := Q10.2.2 6 (by decide)
  obtain ⟨T12, h12, X12, e12, W12, st12⟩ := stI X11 hx hZ e11 A12 (j := n) (own_inb S12 inn) (g := (mkF m 82 #[.val (.ref q), .val (.double d), .second, .val (.int pr), .val (.ref rt), .val (.int st), .val (.int wd), .val (.ref bk), .val (.int bs), .val (.int bw), .val (.int n)] [(.int wd), (.int n), (.ref (ad 6))])) rfl rfl (hb hby da_82)
  have N12 := Fr.snoc X12 N10 (D.2.1 6 (by decide)).2
  have P12 : Keep h0 h12 (own_ws q ad) := P10.wr W12 (Or.inl (own_mem 6 (by decide)))
  have Q12 := own_Q_hi D Q10 6 (by decide) (by decide) W12
  obtain ⟨T13, X13, e13, st13⟩ := getF X12 hx hZ hown (host := "") (Or.inl (hw _ (List.mem_of_getElem? (i := 27) rfl))) Via.refl e12 (own_f7 Q12) (g := (mkF m 84 #[.val (.ref q), .val (.double d), .second, .val (.int pr), .val (.ref rt), .val (.int st), .val (.int wd), .val (.ref bk), .val (.int bs), .val (.int bw), .val (.int n)] [(.ref q)])) rfl rfl (hb hby da_84)
  obtain ⟨c14, A14, K14, S14, G14⟩ := Q12.2.2 7 (by decide)
  obtain ⟨T14, h14, X14, e14, W14, st14⟩ := stR X13 hx hZ e13 A14 (j := n) (own_inb S14 inn) rfl (Sto.ofVA A14 K14 O7 (Ins.self (Eb.keep P12))) (g := (mkF m 91 #[.val (.ref q), .val (.double d), .second, .val (.int pr), .val (.ref rt), .val (.int st), .val (.int wd), .val (.ref bk), .val (.int bs), .val (.int bw), .val (.int n)] [(.ref bk), (.int n), (.ref (ad 7))])) rfl rfl (hb hby da_91)
  have N14 := Fr.snoc X14 N12 (D.2.1 7 (by decide)).2
  have P14 : Keep h0 h14 (own_ws q ad) := P12.wr W14 (Or.inl (own_mem 7 (by decide)))
  have Q14 := own_Q_hi D Q12 7 (by decide) (by decide) W14
  obtain ⟨T15, X15, e15, st15⟩ := getF X14 hx hZ hown (host := "") (Or.inl (hw _ (List.mem_of_getElem? (i := 29) rfl))) Via.refl e14 (own_f8 Q14) (g := (mkF m 93 #[.val (.ref q), .val (.double d), .second, .val (.int pr), .val (.ref rt), .val (.int st), .val (.int wd), .val (.ref bk), .val (.int bs), .val (.int bw), .val (.int n)] [(.ref q)])) rfl rfl (hb hby da_93)
  obtain ⟨c16, A16, K16, S16, G16⟩ := Q14.2.2 8 (by decide)
  obtain ⟨T16, h16, X16, e16, W16, st16⟩ := stI X15 hx hZ e15 A16 (j := n) (own_inb S16 inn) (g := (mkF m 100 #[.val (.ref q), .val (.double d), .second, .val (.int pr), .val (.ref rt), .val (.int st), .val (.int wd), .val (.ref bk), .val (.int bs), .val (.int bw), .val (.int n)] [(.int bs), (.int n), (.ref (ad 8))])) rfl rfl (hb hby da_100)
  have N16 := Fr.snoc X16 N14 (D.2.1 8 (by decide)).2
  have P16 : Keep h0 h16 (own_ws q ad) := P14.wr W16 (Or.inl (own_mem 8 (by decide)))
  have Q16 := own_Q_hi D Q14 8 (by decide) (by decide) W16
  obtain ⟨T17, X17, e17, st17⟩ := getF X16 hx hZ hown (host := "") (Or.inl (hw _ (List.mem_of_getElem? (i := 31) rfl))) Via.refl e16 (own_f9 Q16) (g := (mkF m 102 #[.val (.ref q), .val (.double d), .second, .val (.int pr), .val (.ref rt), .val (.int st), .val (.int wd), .val (.ref bk), .val (.int bs), .val (.int bw), .val (.int n)] [(.ref q)])) rfl rfl (hb hby da_102)
  obtain ⟨c18, A18, K18, S18, G18⟩ := Q16.2.2 9 (by decide)
  obtain ⟨T18, h18, X18, e18, W18, st18⟩ := stI X17 hx hZ e17 A18 (j := n) (own_inb S18 inn) (g := (mkF m 109 #[.val (.ref q), .val (.double d), .second, .val (.int pr), .val (.ref rt), .val (.int st), .val (.int wd), .val (.ref bk), .val (.int bs), .val (.int bw), .val (.int n)] [(.int bw), (.int n), (.ref (ad 9))])) rfl rfl (hb hby da_109)
  have N18 := Fr.snoc X18 N16 (D.2.1 9 (by decide)).2
  have P18 : Keep h0 h18 (own_ws q ad) := P16.wr W18 (Or.inl (own_mem 9 (by decide)))
  have Q18 := own_Q_hi D Q16 9 (by decide) (by decide) W18
  obtain ⟨T19, X19, e19, st19⟩ := getF X18 hx hZ hown (host := "") (Or.inl (hw _ (List.mem_of_getElem? (i := 40) rfl))) Via.refl e18 (own_f11 Q18) (g := (mkF m 112 #[.val (.ref q), .val (.double d), .second, .val (.int pr), .val (.ref rt), .val (.int st), .val (.int wd), .val (.ref bk), .val (.int bs), .val (.int bw), .val (.int n)] [(.ref q), (.ref q)])) rfl rfl (hb hby da_112)
  obtain ⟨T20, h20, X20, e20, W20, st20⟩ := putF X19 hx hZ hown (host := "") (Or.inl (hw _ (List.mem_of_getElem? (i := 40) rfl))) Via.refl e19 (own_f11 Q18) Q18.1 (Or.inl (hw _ (List.mem_of_getElem? (i := 41) rfl))) (hw _ (List.mem_of_getElem? (i := 2) rfl)) (ty := .int) (by decide) rfl rfl (g := (mkF m 117 #[.val (.ref q), .val (.double d), .second, .val (.int pr), .val (.ref rt), .val (.int st), .val (.int wd), .val (.ref bk), .val (.int bs), .val (.int bw), .val (.int n)] [(.int (n + (1 : Int32))), (.ref q)])) rfl rfl (hb hby da_117)
  have N20 := Fr.snoc X20 N18 D.1
  have P20 : Keep h0 h20 (own_ws q ad) := P18.wr W20 (Or.inl own_memq)
  have Q20 := own_Q_size hw D Q18 (n + (1 : Int32)) W20
  obtain ⟨T21, X21, e21, st21⟩ := getF X20 hx hZ hown (host := "") (Or.inl (hw _ (List.mem_of_getElem? (i := 40) rfl))) Via.refl e20 (own_f11 Q20) (g := (mkF m 122 #[.val (.ref q), .val (.double d), .second, .val (.int pr), .val (.ref rt), .val (.int st), .val (.int wd), .val (.ref bk), .val (.int bs), .val (.int bw), .val (.int n)] [(.ref q), (.ref q)])) rfl rfl (hb hby da_122)
  obtain ⟨cq22, q22, q22'⟩ := Q20.1.cell
  obtain ⟨_, _, ⟨T22, L22, k22, n22⟩, -, X22, ⟨Lc22, hQ22, l22, y22, z22⟩, st22⟩ := X21.privateBack hx (y := (⟨"com/example/weaver_ant/weaverant/simulation/DepartureQueue", "siftUp", "(IDI)V"⟩ : MethodName)) hown (mvT hZ (hw _ (List.mem_of_getElem? (i := 45) rfl))) (mvT hZ (hw _ (List.mem_of_getElem? (i := 46) rfl))) (mvT hZ (own_selects (x := (⟨"com/example/weaver_ant/weaverant/simulation/DepartureQueue", "add", "(DI[III[III)V"⟩ : MethodName)) rfl rfl (by decide) (hw _ (List.mem_of_getElem? (i := 38) rfl)) (hw _ (List.mem_of_getElem? (i := 46) rfl)) (hw _ (List.mem_of_getElem? (i := 47) rfl)))) (Cond.privateMethod_at (mvP hZ (hw _ (List.mem_of_getElem? (i := 47) rfl)) (args := #[]))) (mvT hZ (hw _ (List.mem_of_getElem? (i := 48) rfl))) (by decide) (backOf (W := 0) (rmS l Z a0 hw [] q ad kk (n + 1) (own_add f n.toNatClampNeg rt st wd bk bs bw) n hn d n h20 n0 D Q20 inn) hZ (hw _ (List.mem_of_getElem? (i := 48) rfl)) (hw _ (List.mem_of_getElem? (i := 3) rfl)) (by decide) (by decide)) (g := (mkF m 130 #[.val (.ref q), .val (.double d), .second, .val (.int pr), .val (.ref rt), .val (.int st), .val (.int wd), .val (.ref bk), .val (.int bs), .val (.int bw), .val (.int n)] [(.int n), (.double d), (.int n), (.ref q)])) rfl (by rw [hml]; rfl) (Steps.refl _) (a := q) (by rw [e21]; exact q22) q22' (argsL := [(.int n), (.double d), (.int n)]) (rest := []) (lenOf pd_p rfl) rfl (by show 2 * 0 + _ ≤ _; exact Nat.le_of_eq rfl) (hb hby da_130) (fun _ _ => ⟨rfl, e21, (by decide : 0 + 0 ≤ _), (by decide : 0 + 0 ≤ _)⟩)
  dsimp only [Pt.U, Pt.locs, Pt.cells, Pt.slots] at X22 l22 y22 z22 st22 hQ22
  subst l22 y22 z22
  obtain ⟨rfl, M22, Kq22, Q22⟩ := hQ22
  have N22 := Fr.app N20 M22
  have P22 : Keep h0 T22.heap (own_ws q ad) := P20.trans Kq22 (fun x hx => Or.inl hx)
  obtain ⟨fs, hr, hrun, hended, hW, hsame⟩ := X22.leave (v := none) (fun _ => rfl)
  refine ⟨_, _, pre0 _ ?_, hrun, hended, _, _, rfl, ?_, ⟨_, rfl⟩, hW, hsame.mono (by decide) (by decide)⟩
  · show Steps p.tables e below (s₁.setTop (mkF m 0 #[.val (.ref q), .val (.double d), .second, .val (.int pr), .val (.ref rt), .val (.int st), .val (.int wd), .val (.ref bk), .val (.int bs), .val (.int bw), .unset] [])) _
    refine XS.aloadN X0.here hx rfl (hb hby da_0) rfl rfl ?_
    show Steps p.tables e below (s₁.setTop (mkF m 1 #[.val (.ref q), .val (.double d), .second, .val (.int pr), .val (.ref rt), .val (.int st), .val (.int wd), .val (.ref bk), .val (.int bs), .val (.int bw), .unset] [(.ref q)])) _
    refine st1 _ ?_
    show Steps p.tables e below (T1.setTop (mkF m 4 #[.val (.ref q), .val (.double d), .second, .val (.int pr), .val (.ref rt), .val (.int st), .val (.int wd), .val (.ref bk), .val (.int bs), .val (.int bw), .unset] [(.int n)])) _
    refine XS.aloadN X1.here hx rfl (hb hby da_4) rfl rfl ?_
    show Steps p.tables e below (T1.setTop (mkF m 5 #[.val (.ref q), .val (.double d), .second, .val (.int pr), .val (.ref rt), .val (.int st), .val (.int wd), .val (.ref bk), .val (.int bs), .val (.int bw), .unset] [(.ref q), (.int n)])) _
    refine st2 _ ?_
    show Steps p.tables e below (T2.setTop (mkF m 8 #[.val (.ref q), .val (.double d), .second, .val (.int pr), .val (.ref rt), .val (.int st), .val (.int wd), .val (.ref bk), .val (.int bs), .val (.int bw), .unset] [(.ref (ad 0)), (.int n)])) _
    refine X2.arraylength hx (by rw [e2]; exact At.1) (State.isArrayOf_alike hZ.alike At.2.1) (g := (mkF m 8 #[.val (.ref q), .val (.double d), .second, .val (.int pr), .val (.ref rt), .val (.int st), .val (.int wd), .val (.ref bk), .val (.int bs), .val (.int bw), .unset] [(.ref (ad 0)), (.int n)])) rfl rfl (hb hby da_8) _ ?_
    rw [own_len St]
    show Steps p.tables e below (T2.setTop (mkF m 9 #[.val (.ref q), .val (.double d), .second, .val (.int pr), .val (.ref rt), .val (.int st), .val (.int wd), .val (.ref bk), .val (.int bs), .val (.int bw), .unset] [(.int (64 : Int32)), (.int n)])) _
    refine XS.icmpYes X2.here hx rfl (pc0 := 9) (pc' := 16) rfl (hb hby da_9) rfl (feq n64).2 (by decide) (by decide) ?_
    show Steps p.tables e below (T2.setTop (mkF m 16 #[.val (.ref q), .val (.double d), .second, .val (.int pr), .val (.ref rt), .val (.int st), .val (.int wd), .val (.ref bk), .val (.int bs), .val (.int bw), .unset] [])) _
    refine XS.aloadN X2.here hx rfl (hb hby da_16) rfl rfl ?_
    show Steps p.tables e below (T2.setTop (mkF m 17 #[.val (.ref q), .val (.double d), .second, .val (.int pr), .val (.ref rt), .val (.int st), .val (.int wd), .val (.ref bk), .val (.int bs), .val (.int bw), .unset] [(.ref q)])) _
    refine st3 _ ?_
    show Steps p.tables e below (T3.setTop (mkF m 20 #[.val (.ref q), .val (.double d), .second, .val (.int pr), .val (.ref rt), .val (.int st), .val (.int wd), .val (.ref bk), .val (.int bs), .val (.int bw), .unset] [(.int (0 : Int32))])) _
    refine XS.ifYes X3.here hx rfl (pc0 := 20) (pc' := 42) rfl (hb hby da_20) rfl (by decide) (by decide) (by decide) ?_
    show Steps p.tables e below (T3.setTop (mkF m 42 #[.val (.ref q), .val (.double d), .second, .val (.int pr), .val (.ref rt), .val (.int st), .val (.int wd), .val (.ref bk), .val (.int bs), .val (.int bw), .unset] [])) _
    refine XS.aloadN X3.here hx rfl (hb hby da_42) rfl rfl ?_
    show Steps p.tables e below (T3.setTop (mkF m 43 #[.val (.ref q), .val (.double d), .second, .val (.int pr), .val (.ref rt), .val (.int st), .val (.int wd), .val (.ref bk), .val (.int bs), .val (.int bw), .unset] [(.ref q)])) _
    refine st4 _ ?_
    show Steps p.tables e below (T4.setTop (mkF m 46 #[.val (.ref q), .val (.double d), .second, .val (.int pr), .val (.ref rt), .val (.int st), .val (.int wd), .val (.ref bk), .val (.int bs), .val (.int bw), .unset] [(.int n)])) _
    refine XS.istore X4.here hx rfl (hb hby da_46) rfl (l' := #[.val (.ref q), .val (.double d), .second, .val (.int pr), .val (.ref rt), .val (.int st), .val (.int wd), .val (.ref bk), .val (.int bs), .val (.int bw), .val (.int n)]) rfl ?_
    show Steps p.tables e below (T4.setTop (mkF m 48 #[.val (.ref q), .val (.double d), .second, .val (.int pr), .val (.ref rt), .val (.int st), .val (.int wd), .val (.ref bk), .val (.int bs), .val (.int bw), .val (.int n)] [])) _
    refine XS.aloadN X4.here hx rfl (hb hby da_48) rfl rfl ?_
    show Steps p.tables e below (T4.setTop (mkF m 49 #[.val (.ref q), .val (.double d), .second, .val (.int pr), .val (.ref rt), .val (.int st), .val (.int wd), .val (.ref bk), .val (.int bs), .val (.int bw), .val (.int n)] [(.ref q)])) _
    refine st5 _ ?_
    show Steps p.tables e below (T5.setTop (mkF m 52 #[.val (.ref q), .val (.double d), .second, .val (.int pr), .val (.ref rt), .val (.int st), .val (.int wd), .val (.ref bk), .val (.int bs), .val (.int bw), .val (.int n)] [(.ref (ad 3))])) _
    refine XS.iload X5.here hx rfl (hb hby da_52) rfl ?_
    show Steps p.tables e below (T5.setTop (mkF m 54 #[.val (.ref q), .val (.double d), .second, .val (.int pr), .val (.ref rt), .val (.int st), .val (.int wd), .val (.ref bk), .val (.int bs), .val (.int bw), .val (.int n)] [(.int n), (.ref (ad 3))])) _
    refine XS.iloadN X5.here hx rfl (hb hby da_54) rfl ?_
    show Steps p.tables e below (T5.setTop (mkF m 55 #[.val (.ref q), .val (.double d), .second, .val (.int pr), .val (.ref rt), .val (.int st), .val (.int wd), .val (.ref bk), .val (.int bs), .val (.int bw), .val (.int n)] [(.int pr), (.int n), (.ref (ad 3))])) _
    refine st6 _ ?_
    show Steps p.tables e below (T6.setTop (mkF m 56 #[.val (.ref q), .val (.double d), .second, .val (.int pr), .val (.ref rt), .val (.int st), .val (.int wd), .val (.ref bk), .val (.int bs), .val (.int bw), .val (.int n)] [])) _
    refine XS.aloadN X6.here hx rfl (hb hby da_56) rfl rfl ?_
    show Steps p.tables e below (T6.setTop (mkF m 57 #[.val (.ref q), .val (.double d), .second, .val (.int pr), .val (.ref rt), .val (.int st), .val (.int wd), .val (.ref bk), .val (.int bs), .val (.int bw), .val (.int n)] [(.ref q)])) _
    refine st7 _ ?_
    show Steps p.tables e below (T7.setTop (mkF m 60 #[.val (.ref q), .val (.double d), .second, .val (.int pr), .val (.ref rt), .val (.int st), .val (.int wd), .val (.ref bk), .val (.int bs), .val (.int bw), .val (.int n)] [(.ref (ad 4))])) _
    refine XS.iload X7.here hx rfl (hb hby da_60) rfl ?_
    show Steps p.tables e below (T7.setTop (mkF m 62 #[.val (.ref q), .val (.double d), .second, .val (.int pr), .val (.ref rt), .val (.int st), .val (.int wd), .val (.ref bk), .val (.int bs), .val (.int bw), .val (.int n)] [(.int n), (.ref (ad 4))])) _
    refine XS.aload X7.here hx rfl (hb hby da_62) rfl rfl ?_
    show Steps p.tables e below (T7.setTop (mkF m 64 #[.val (.ref q), .val (.double d), .second, .val (.int pr), .val (.ref rt), .val (.int st), .val (.int wd), .val (.ref bk), .val (.int bs), .val (.int bw), .val (.int n)] [(.ref rt), (.int n), (.ref (ad 4))])) _
    refine st8 _ ?_
    show Steps p.tables e below (T8.setTop (mkF m 65 #[.val (.ref q), .val (.double d), .second, .val (.int pr), .val (.ref rt), .val (.int st), .val (.int wd), .val (.ref bk), .val (.int bs), .val (.int bw), .val (.int n)] [])) _
    refine XS.aloadN X8.here hx rfl (hb hby da_65) rfl rfl ?_
    show Steps p.tables e below (T8.setTop (mkF m 66 #[.val (.ref q), .val (.double d), .second, .val (.int pr), .val (.ref rt), .val (.int st), .val (.int wd), .val (.ref bk), .val (.int bs), .val (.int bw), .val (.int n)] [(.ref q)])) _
    refine st9 _ ?_
    show Steps p.tables e below (T9.setTop (mkF m 69 #[.val (.ref q), .val (.double d), .second, .val (.int pr), .val (.ref rt), .val (.int st), .val (.int wd), .val (.ref bk), .val (.int bs), .val (.int bw), .val (.int n)] [(.ref (ad 5))])) _
    refine XS.iload X9.here hx rfl (hb hby da_69) rfl ?_
    show Steps p.tables e below (T9.setTop (mkF m 71 #[.val (.ref q), .val (.double d), .second, .val (.int pr), .val (.ref rt), .val (.int st), .val (.int wd), .val (.ref bk), .val (.int bs), .val (.int bw), .val (.int n)] [(.int n), (.ref (ad 5))])) _
    refine XS.iload X9.here hx rfl (hb hby da_71) rfl ?_
    show Steps p.tables e below (T9.setTop (mkF m 73 #[.val (.ref q), .val (.double d), .second, .val (.int pr), .val (.ref rt), .val (.int st), .val (.int wd), .val (.ref bk), .val (.int bs), .val (.int bw), .val (.int n)] [(.int st), (.int n), (.ref (ad 5))])) _
    refine st10 _ ?_
    show Steps p.tables e below (T10.setTop (mkF m 74 #[.val (.ref q), .val (.double d), .second, .val (.int pr), .val (.ref rt), .val (.int st), .val (.int wd), .val (.ref bk), .val (.int bs), .val (.int bw), .val (.int n)] [])) _
    refine XS.aloadN X10.here hx rfl (hb hby da_74) rfl rfl ?_
    show Steps p.tables e below (T10.setTop (mkF m 75 #[.val (.ref q), .val (.double d), .second, .val (.int pr), .val (.ref rt), .val (.int st), .val (.int wd), .val (.ref bk), .val (.int bs), .val (.int bw), .val (.int n)] [(.ref q)])) _
    refine st11 _ ?_
    show Steps p.tables e below (T11.setTop (mkF m 78 #[.val (.ref q), .val (.double d), .second, .val (.int pr), .val (.ref rt), .val (.int st), .val (.int wd), .val (.ref bk), .val (.int bs), .val (.int bw), .val (.int n)] [(.ref (ad 6))])) _
    refine XS.iload X11.here hx rfl (hb hby da_78) rfl ?_
    show Steps p.tables e below (T11.setTop (mkF m 80 #[.val (.ref q), .val (.double d), .second, .val (.int pr), .val (.ref rt), .val (.int st), .val (.int wd), .val (.ref bk), .val (.int bs), .val (.int bw), .val (.int n)] [(.int n), (.ref (ad 6))])) _
    refine XS.iload X11.here hx rfl (hb hby da_80) rfl ?_
    show Steps p.tables e below (T11.setTop (mkF m 82 #[.val (.ref q), .val (.double d), .second, .val (.int pr), .val (.ref rt), .val (.int st), .val (.int wd), .val (.ref bk), .val (.int bs), .val (.int bw), .val (.int n)] [(.int wd), (.int n), (.ref (ad 6))])) _
    refine st12 _ ?_
    show Steps p.tables e below (T12.setTop (mkF m 83 #[.val (.ref q), .val (.double d), .second, .val (.int pr), .val (.ref rt), .val (.int st), .val (.int wd), .val (.ref bk), .val (.int bs), .val (.int bw), .val (.int n)] [])) _
    refine XS.aloadN X12.here hx rfl (hb hby da_83) rfl rfl ?_
    show Steps p.tables e below (T12.setTop (mkF m 84 #[.val (.ref q), .val (.double d), .second, .val (.int pr), .val (.ref rt), .val (.int st), .val (.int wd), .val (.ref bk), .val (.int bs), .val (.int bw), .val (.int n)] [(.ref q)])) _
    refine st13 _ ?_
    show Steps p.tables e below (T13.setTop (mkF m 87 #[.val (.ref q), .val (.double d), .second, .val (.int pr), .val (.ref rt), .val (.int st), .val (.int wd), .val (.ref bk), .val (.int bs), .val (.int bw), .val (.int n)] [(.ref (ad 7))])) _
    refine XS.iload X13.here hx rfl (hb hby da_87) rfl ?_
    show Steps p.tables e below (T13.setTop (mkF m 89 #[.val (.ref q), .val (.double d), .second, .val (.int pr), .val (.ref rt), .val (.int st), .val (.int wd), .val (.ref bk), .val (.int bs), .val (.int bw), .val (.int n)] [(.int n), (.ref (ad 7))])) _
    refine XS.aload X13.here hx rfl (hb hby da_89) rfl rfl ?_
    show Steps p.tables e below (T13.setTop (mkF m 91 #[.val (.ref q), .val (.double d), .second, .val (.int pr), .val (.ref rt), .val (.int st), .val (.int wd), .val (.ref bk), .val (.int bs), .val (.int bw), .val (.int n)] [(.ref bk), (.int n), (.ref (ad 7))])) _
    refine st14 _ ?_
    show Steps p.tables e below (T14.setTop (mkF m 92 #[.val (.ref q), .val (.double d), .second, .val (.int pr), .val (.ref rt), .val (.int st), .val (.int wd), .val (.ref bk), .val (.int bs), .val (.int bw), .val (.int n)] [])) _
    refine XS.aloadN X14.here hx rfl (hb hby da_92) rfl rfl ?_
    show Steps p.tables e below (T14.setTop (mkF m 93 #[.val (.ref q), .val (.double d), .second, .val (.int pr), .val (.ref rt), .val (.int st), .val (.int wd), .val (.ref bk), .val (.int bs), .val (.int bw), .val (.int n)] [(.ref q)])) _
    refine st15 _ ?_
    show Steps p.tables e below (T15.setTop (mkF m 96 #[.val (.ref q), .val (.double d), .second, .val (.int pr), .val (.ref rt), .val (.int st), .val (.int wd), .val (.ref bk), .val (.int bs), .val (.int bw), .val (.int n)] [(.ref (ad 8))])) _
    refine XS.iload X15.here hx rfl (hb hby da_96) rfl ?_
    show Steps p.tables e below (T15.setTop (mkF m 98 #[.val (.ref q), .val (.double d), .second, .val (.int pr), .val (.ref rt), .val (.int st), .val (.int wd), .val (.ref bk), .val (.int bs), .val (.int bw), .val (.int n)] [(.int n), (.ref (ad 8))])) _
    refine XS.iload X15.here hx rfl (hb hby da_98) rfl ?_
    show Steps p.tables e below (T15.setTop (mkF m 100 #[.val (.ref q), .val (.double d), .second, .val (.int pr), .val (.ref rt), .val (.int st), .val (.int wd), .val (.ref bk), .val (.int bs), .val (.int bw), .val (.int n)] [(.int bs), (.int n), (.ref (ad 8))])) _
    refine st16 _ ?_
    show Steps p.tables e below (T16.setTop (mkF m 101 #[.val (.ref q), .val (.double d), .second, .val (.int pr), .val (.ref rt), .val (.int st), .val (.int wd), .val (.ref bk), .val (.int bs), .val (.int bw), .val (.int n)] [])) _
    refine XS.aloadN X16.here hx rfl (hb hby da_101) rfl rfl ?_
    show Steps p.tables e below (T16.setTop (mkF m 102 #[.val (.ref q), .val (.double d), .second, .val (.int pr), .val (.ref rt), .val (.int st), .val (.int wd), .val (.ref bk), .val (.int bs), .val (.int bw), .val (.int n)] [(.ref q)])) _
    refine st17 _ ?_
    show Steps p.tables e below (T17.setTop (mkF m 105 #[.val (.ref q), .val (.double d), .second, .val (.int pr), .val (.ref rt), .val (.int st), .val (.int wd), .val (.ref bk), .val (.int bs), .val (.int bw), .val (.int n)] [(.ref (ad 9))])) _
    refine XS.iload X17.here hx rfl (hb hby da_105) rfl ?_
    show Steps p.tables e below (T17.setTop (mkF m 107 #[.val (.ref q), .val (.double d), .second, .val (.int pr), .val (.ref rt), .val (.int st), .val (.int wd), .val (.ref bk), .val (.int bs), .val (.int bw), .val (.int n)] [(.int n), (.ref (ad 9))])) _
    refine XS.iload X17.here hx rfl (hb hby da_107) rfl ?_
    show Steps p.tables e below (T17.setTop (mkF m 109 #[.val (.ref q), .val (.double d), .second, .val (.int pr), .val (.ref rt), .val (.int st), .val (.int wd), .val (.ref bk), .val (.int bs), .val (.int bw), .val (.int n)] [(.int bw), (.int n), (.ref (ad 9))])) _
    refine st18 _ ?_
    show Steps p.tables e below (T18.setTop (mkF m 110 #[.val (.ref q), .val (.double d), .second, .val (.int pr), .val (.ref rt), .val (.int st), .val (.int wd), .val (.ref bk), .val (.int bs), .val (.int bw), .val (.int n)] [])) _
    refine XS.aloadN X18.here hx rfl (hb hby da_110) rfl rfl ?_
    show Steps p.tables e below (T18.setTop (mkF m 111 #[.val (.ref q), .val (.double d), .second, .val (.int pr), .val (.ref rt), .val (.int st), .val (.int wd), .val (.ref bk), .val (.int bs), .val (.int bw), .val (.int n)] [(.ref q)])) _
    refine XS.dup X18.here hx rfl (hb hby da_111) rfl rfl ?_
    show Steps p.tables e below (T18.setTop (mkF m 112 #[.val (.ref q), .val (.double d), .second, .val (.int pr), .val (.ref rt), .val (.int st), .val (.int wd), .val (.ref bk), .val (.int bs), .val (.int bw), .val (.int n)] [(.ref q), (.ref q)])) _
    refine st19 _ ?_
    show Steps p.tables e below (T19.setTop (mkF m 115 #[.val (.ref q), .val (.double d), .second, .val (.int pr), .val (.ref rt), .val (.int st), .val (.int wd), .val (.ref bk), .val (.int bs), .val (.int bw), .val (.int n)] [(.int n), (.ref q)])) _
    refine XS.iconst X19.here hx rfl (hb hby da_115) ?_
    show Steps p.tables e below (T19.setTop (mkF m 116 #[.val (.ref q), .val (.double d), .second, .val (.int pr), .val (.ref rt), .val (.int st), .val (.int wd), .val (.ref bk), .val (.int bs), .val (.int bw), .val (.int n)] [(.int (1 : Int32)), (.int n), (.ref q)])) _
    refine XS.iadd X19.here hx rfl (hb hby da_116) rfl ?_
    show Steps p.tables e below (T19.setTop (mkF m 117 #[.val (.ref q), .val (.double d), .second, .val (.int pr), .val (.ref rt), .val (.int st), .val (.int wd), .val (.ref bk), .val (.int bs), .val (.int bw), .val (.int n)] [(.int (n + (1 : Int32))), (.ref q)])) _
    refine st20 _ ?_
    show Steps p.tables e below (T20.setTop (mkF m 120 #[.val (.ref q), .val (.double d), .second, .val (.int pr), .val (.ref rt), .val (.int st), .val (.int wd), .val (.ref bk), .val (.int bs), .val (.int bw), .val (.int n)] [])) _
    refine XS.aloadN X20.here hx rfl (hb hby da_120) rfl rfl ?_
    show Steps p.tables e below (T20.setTop (mkF m 121 #[.val (.ref q), .val (.double d), .second, .val (.int pr), .val (.ref rt), .val (.int st), .val (.int wd), .val (.ref bk), .val (.int bs), .val (.int bw), .val (.int n)] [(.ref q)])) _
    refine XS.aloadN X20.here hx rfl (hb hby da_121) rfl rfl ?_
    show Steps p.tables e below (T20.setTop (mkF m 122 #[.val (.ref q), .val (.double d), .second, .val (.int pr), .val (.ref rt), .val (.int st), .val (.int wd), .val (.ref bk), .val (.int bs), .val (.int bw), .val (.int n)] [(.ref q), (.ref q)])) _
    refine st21 _ ?_
    show Steps p.tables e below (T21.setTop (mkF m 125 #[.val (.ref q), .val (.double d), .second, .val (.int pr), .val (.ref rt), .val (.int st), .val (.int wd), .val (.ref bk), .val (.int bs), .val (.int bw), .val (.int n)] [(.int (n + (1 : Int32))), (.ref q)])) _
    refine XS.iconst X21.here hx rfl (hb hby da_125) ?_
    show Steps p.tables e below (T21.setTop (mkF m 126 #[.val (.ref q), .val (.double d), .second, .val (.int pr), .val (.ref rt), .val (.int st), .val (.int wd), .val (.ref bk), .val (.int bs), .val (.int bw), .val (.int n)] [(.int (1 : Int32)), (.int (n + (1 : Int32))), (.ref q)])) _
    refine XS.isub X21.here hx rfl (hb hby da_126) rfl ?_
    rw [nn1]
    show Steps p.tables e below (T21.setTop (mkF m 127 #[.val (.ref q), .val (.double d), .second, .val (.int pr), .val (.ref rt), .val (.int st), .val (.int wd), .val (.ref bk), .val (.int bs), .val (.int bw), .val (.int n)] [(.int n), (.ref q)])) _
    refine XS.dloadN X21.here hx rfl (hb hby da_127) rfl ?_
    show Steps p.tables e below (T21.setTop (mkF m 128 #[.val (.ref q), .val (.double d), .second, .val (.int pr), .val (.ref rt), .val (.int st), .val (.int wd), .val (.ref bk), .val (.int bs), .val (.int bw), .val (.int n)] [(.double d), (.int n), (.ref q)])) _
    refine XS.iload X21.here hx rfl (hb hby da_128) rfl ?_
    show Steps p.tables e below (T21.setTop (mkF m 130 #[.val (.ref q), .val (.double d), .second, .val (.int pr), .val (.ref rt), .val (.int st), .val (.int wd), .val (.ref bk), .val (.int bs), .val (.int bw), .val (.int n)] [(.int n), (.double d), (.int n), (.ref q)])) _
    refine st22.trans ?_
    show Steps p.tables e below (T22.setTop (mkF m 133 #[.val (.ref q), .val (.double d), .second, .val (.int pr), .val (.ref rt), .val (.int st), .val (.int wd), .val (.ref bk), .val (.int bs), .val (.int bw), .val (.int n)] [])) _
    exact X22.returnOut hx Bd.returns (hb hby da_133) hr
  · show own_M Z q ad kk (n + 1) (own_add f n.toNatClampNeg rt st wd bk bs bw) h0 n0 _ T22.heap _
    exact ⟨rfl, N22, P22, Q22⟩
theorem dw_0 : decode prog_37_method_16_code 0 = .ok (.aload_n 0, 1) := by decide +kernel
theorem dw_1 : decode prog_37_method_16_code 1 = .ok (.getfield 24, 3) := by decide +kernel
theorem dw_4 : decode prog_37_method_16_code 4 = .ok (.iload_n 1, 1) := by decide +kernel
theorem dw_5 : decode prog_37_method_16_code 5 = .ok (.aload_n 0, 1) := by decide +kernel
theorem dw_6 : decode prog_37_method_16_code 6 = .ok (.getfield 34, 3) := by decide +kernel
theorem dw_9 : decode prog_37_method_16_code 9 = .ok (.iload_n 1, 1) := by decide +kernel
theorem dw_10 : decode prog_37_method_16_code 10 = .ok (.aaload, 1) := by decide +kernel
theorem dw_11 : decode prog_37_method_16_code 11 = .ok (.aastore, 1) := by decide +kernel
theorem dw_12 : decode prog_37_method_16_code 12 = .ok (.aload_n 0, 1) := by decide +kernel
theorem dw_13 : decode prog_37_method_16_code 13 = .ok (.getfield 28, 3) := by decide +kernel
theorem dw_16 : decode prog_37_method_16_code 16 = .ok (.iload_n 1, 1) := by decide +kernel
theorem dw_17 : decode prog_37_method_16_code 17 = .ok (.aload_n 0, 1) := by decide +kernel
theorem dw_18 : decode prog_37_method_16_code 18 = .ok (.getfield 37, 3) := by decide +kernel
theorem dw_21 : decode prog_37_method_16_code 21 = .ok (.iload_n 1, 1) := by decide +kernel
theorem dw_22 : decode prog_37_method_16_code 22 = .ok (.iaload, 1) := by decide +kernel
theorem dw_23 : decode prog_37_method_16_code 23 = .ok (.iastore, 1) := by decide +kernel
theorem dw_24 : decode prog_37_method_16_code 24 = .ok (.aload_n 0, 1) := by decide +kernel
theorem dw_25 : decode prog_37_method_16_code 25 = .ok (.getfield 31, 3) := by decide +kernel
theorem dw_28 : decode prog_37_method_16_code 28 = .ok (.iload_n 1, 1) := by decide +kernel
theorem dw_29 : decode prog_37_method_16_code 29 = .ok (.aload_n 0, 1) := by decide +kernel
theorem dw_30 : decode prog_37_method_16_code 30 = .ok (.getfield 40, 3) := by decide +kernel
theorem dw_33 : decode prog_37_method_16_code 33 = .ok (.iload_n 1, 1) := by decide +kernel
theorem dw_34 : decode prog_37_method_16_code 34 = .ok (.iaload, 1) := by decide +kernel
theorem dw_35 : decode prog_37_method_16_code 35 = .ok (.iastore, 1) := by decide +kernel
theorem dw_36 : decode prog_37_method_16_code 36 = .ok (.aload_n 0, 1) := by decide +kernel
theorem dw_37 : decode prog_37_method_16_code 37 = .ok (.getfield 34, 3) := by decide +kernel
theorem dw_40 : decode prog_37_method_16_code 40 = .ok (.iload_n 1, 1) := by decide +kernel
theorem dw_41 : decode prog_37_method_16_code 41 = .ok (.aconst_null, 1) := by decide +kernel
theorem dw_42 : decode prog_37_method_16_code 42 = .ok (.aastore, 1) := by decide +kernel
theorem dw_43 : decode prog_37_method_16_code 43 = .ok (.return_, 1) := by decide +kernel
theorem ef_rmW (m : MethodId) (x0 : Addr) (x1 : Int32) : entryFrame m #[(.ref x0), (.int x1)] 2 = mkF m 0 #[.val (.ref x0), .val (.int x1)] [] := by first | (simp [entryFrame, mkF, argsToLocals, Value.category]; done) | rfl
set_option maxRecDepth 65536 in
set_option maxHeartbeats 40000000 in
theorem rmW (l : Launch) (Z : State) (a0 : Array Value) (hw : ∀ d ∈ tables_1, d.before a0 Z = true) (ws : List Jvm.Cond) (q : Addr) (ad : Nat → Addr) (kk : Nat → ClassId) (n : Int32) (f : Nat → Nat → Value) (k : Int32) (bk : Addr) (bs bw : Int32) (h0 : Heap) (n0 : Nat) (D : own_D q ad n0) (Q : own_Q Z h0 q ad kk n f) (ik : ¬ k < 0 ∧ k < 64) (hb7 : f 7 k.toNatClampNeg = .ref bk) (hb8 : f 8 k.toNatClampNeg = .int bs) (hb9 : f 9 k.toNatClampNeg = .int bw) (Eb : Exa Z h0 bk "[I") (O4 : OvrA Z (kk 4) .int "[I") :
    MetFree l (⟨"com/example/weaver_ant/weaverant/simulation/DepartureQueue", "switchToBackup", "(I)V"⟩ : MethodName) (head1 (Jvm.Cond.code (⟨"com/example/weaver_ant/weaverant/simulation/DepartureQueue", "switchToBackup", "(I)V"⟩ : MethodName) prog_37_method_16_code 2 none :: ws) ({ frames := 0, cells := 0, slots := 0, locals := 0 } : Room)) (fun a U => a = #[(.ref q), (.int k)] ∧ Z.Warmed39 U.vm ∧ U.heap = h0) (fun _ _ _ _ _ => True) (fun _ U o U' => ∃ v L, o = .returned v ∧ own_M Z q ad kk n (own_sw f k.toNatClampNeg) h0 n0 v U'.heap L ∧ FrameEnd U o U' L ({ frames := 0, cells := 0, slots := 0, locals := 0 } : Room).cells ({ frames := 0, cells := 0, slots := 0, locals := 0 } : Room).slots) := by
  refine MetFree.of_bodySF (plainFor_of_name pn_1) hisR ?_
  intro p e s m args below meth c s₁ Bd hml0 hP hK
  obtain ⟨rfl, hZ, hh⟩ := hP
  have hx := Bd.exec
  have hby := Bd.bytes
  have hml : c.maxLocals = 2 := hml0
  have hown : s.vm.findClass "com/example/weaver_ant/weaverant/simulation/DepartureQueue" = some m.cls := findClass_of_methodNamed Bd.named
  have X0 : Stand p l e ({ frames := 0, cells := 0, slots := 0, locals := 0 } : Room) s m #[(.ref q), (.int k)] below meth c s₁ [] 0 0 := Stand.of_body Bd
  have e0 : s₁.heap = h0 := by rw [← hh, Bd.state]; rfl
  have N0 := Fr.nil n0
  have pre0 : ∀ t, Steps p.tables e below (s₁.setTop (mkF m 0 #[.val (.ref q), .val (.int k)] [])) t → Steps p.tables e below (s₁.setTop (entryFrame m #[(.ref q), (.int k)] 2)) t := fun t kt => castTop (ef_rmW m q k) kt
  unfold own_sw
  rw [hb7, hb8, hb9]
  obtain ⟨T1, X1, e1, st1⟩ := getF X0 hx hZ hown (host := "") (Or.inl (hw _ (List.mem_of_getElem? (i := 21) rfl))) Via.refl e0 (own_f4 Q) (g := (mkF m 1 #[.val (.ref q), .val (.int k)] [(.ref q)])) rfl rfl (hb hby dw_1)
  obtain ⟨T2, X2, e2, st2⟩ := getF X1 hx hZ hown (host := "") (Or.inl (hw _ (List.mem_of_getElem? (i := 27) rfl))) Via.refl e1 (own_f7 Q) (g := (mkF m 6 #[.val (.ref q), .val (.int k)] [(.ref q), (.int k), (.ref (ad 4))])) rfl rfl (hb hby dw_6)
  obtain ⟨c3, A3, K3, S3, G3⟩ := Q.2.2 7 (by decide)
  obtain ⟨v3, at3, pv3⟩ := G3 (k).toNatClampNeg (own_lt ik)
  have pw3 := pv3.trans hb7
  rw [pw3] at at3
  obtain ⟨c4, A4, K4, S4, G4⟩ := Q.2.2 4 (by decide)
  obtain ⟨T4, h4, X4, e4, W4, st4⟩ := stR X2 hx hZ e2 A4 (j := k) (own_inb S4 ik) rfl (Sto.ofVA A4 K4 O4 (Ins.self Eb)) (g := (mkF m 11 #[.val (.ref q), .val (.int k)] [(.ref bk), (.int k), (.ref (ad 4))])) rfl rfl (hb hby dw_11)
  have N4 := Fr.snoc X4 N0 (D.2.1 4 (by decide)).2
  have P4 : Keep h0 h4 (own_ws q ad) := (Keep.refl _ _).wr W4 (Or.inl (own_mem 4 (by decide)))
  have Q4 := own_Q_hi D Q 4 (by decide) (by decide) W4
  obtain ⟨T5, X5, e5, st5⟩ := getF X4 hx hZ hown (host := "") (Or.inl (hw _ (List.mem_of_getElem? (i := 23) rfl))) Via.refl e4 (own_f5 Q4) (g := (mkF m 13 #[.val (.ref q), .val (.int k)] [(.ref q)])) rfl rfl (hb hby dw_13)
  obtain ⟨T6, X6, e6, st6⟩ := getF X5 hx hZ hown (host := "") (Or.inl (hw _ (List.mem_of_getElem? (i := 29) rfl))) Via.refl e5 (own_f8 Q4) (g := (mkF m 18 #[.val (.ref q), .val (.int k)] [(.ref q), (.int k), (.ref (ad 5))])) rfl rfl (hb hby dw_18)
  obtain ⟨c7, A7, K7, S7, G7⟩ := Q4.2.2 8 (by decide)
  obtain ⟨v7, at7, pv7⟩ := G7 (k).toNatClampNeg (own_lt ik)
  have pw7 := pv7.trans hb8
  rw [pw7] at at7
  obtain ⟨c8, A8, K8, S8, G8⟩ := Q4.2.2 5 (by decide)
  obtain ⟨T8, h8, X8, e8, W8, st8⟩ := stI X6 hx hZ e6 A8 (j := k) (own_inb S8 ik) (g := (mkF m 23 #[.val (.ref q), .val (.int k)] [(.int bs), (.int k), (.ref (ad 5))])) rfl rfl (hb hby dw_23)
  have N8 := Fr.snoc X8 N4 (D.2.1 5 (by decide)).2
  have P8 : Keep h0 h8 (own_ws q ad) := P4.wr W8 (Or.inl (own_mem 5 (by decide)))
  have Q8 := own_Q_hi D Q4 5 (by decide) (by decide) W8
  obtain ⟨T9, X9, e9, st9⟩ := getF X8 hx hZ hown (host := "") (Or.inl (hw _ (List.mem_of_getElem? (i := 25) rfl))) Via.refl e8 (own_f6 Q8) (g := (mkF m 25 #[.val (.ref q), .val (.int k)] [(.ref q)])) rfl rfl (hb hby dw_25)
  obtain ⟨T10, X10, e10, st10⟩ := getF X9 hx hZ hown (host := "") (Or.inl (hw _ (List.mem_of_getElem? (i := 31) rfl))) Via.refl e9 (own_f9 Q8) (g := (mkF m 30 #[.val (.ref q), .val (.int k)] [(.ref q), (.int k), (.ref (ad 6))])) rfl rfl (hb hby dw_30)
  obtain ⟨c11, A11, K11, S11, G11⟩ := Q8.2.2 9 (by decide)
  obtain ⟨v11, at11, pv11⟩ := G11 (k).toNatClampNeg (own_lt ik)
  have pw11 := pv11.trans hb9
  rw [pw11] at at11
  obtain ⟨c12, A12, K12, S12, G12⟩ := Q8.2.2 6 (by decide)
  obtain ⟨T12, h12, X12, e12, W12, st12⟩ := stI X10 hx hZ e10 A12 (j := k) (own_inb S12 ik) (g := (mkF m 35 #[.val (.ref q), .val (.int k)] [(.int bw), (.int k), (.ref (ad 6))])) rfl rfl (hb hby dw_35)
  have N12 := Fr.snoc X12 N8 (D.2.1 6 (by decide)).2
  have P12 : Keep h0 h12 (own_ws q ad) := P8.wr W12 (Or.inl (own_mem 6 (by decide)))
  have Q12 := own_Q_hi D Q8 6 (by decide) (by decide) W12
  obtain ⟨T13, X13, e13, st13⟩ := getF X12 hx hZ hown (host := "") (Or.inl (hw _ (List.mem_of_getElem? (i := 27) rfl))) Via.refl e12 (own_f7 Q12) (g := (mkF m 37 #[.val (.ref q), .val (.int k)] [(.ref q)])) rfl rfl (hb hby dw_37)
  obtain ⟨c14, A14, K14, S14, G14⟩ := Q12.2.2 7 (by decide)
  obtain ⟨T14, h14, X14, e14, W14, st14⟩ := stR X13 hx hZ e13 A14 (j := k) (own_inb S14 ik) rfl (Or.inl rfl) (g := (mkF m 42 #[.val (.ref q), .val (.int k)] [.null, (.int k), (.ref (ad 7))])) rfl rfl (hb hby dw_42)
  have N14 := Fr.snoc X14 N12 (D.2.1 7 (by decide)).2
  have P14 : Keep h0 h14 (own_ws q ad) := P12.wr W14 (Or.inl (own_mem 7 (by decide)))
  have Q14 := own_Q_hi D Q12 7 (by decide) (by decide) W14
  obtain ⟨fs, hr, hrun, hended, hW, hsame⟩ := X14.leave (v := none) (fun _ => rfl)
  refine ⟨_, _, pre0 _ ?_, hrun, hended, _, _, rfl, ?_, ⟨_, rfl⟩, hW, hsame.mono (by decide) (by decide)⟩
  · show Steps p.tables e below (s₁.setTop (mkF m 0 #[.val (.ref q), .val (.int k)] [])) _
    refine XS.aloadN X0.here hx rfl (hb hby dw_0) rfl rfl ?_
    show Steps p.tables e below (s₁.setTop (mkF m 1 #[.val (.ref q), .val (.int k)] [(.ref q)])) _
    refine st1 _ ?_
    show Steps p.tables e below (T1.setTop (mkF m 4 #[.val (.ref q), .val (.int k)] [(.ref (ad 4))])) _
    refine XS.iloadN X1.here hx rfl (hb hby dw_4) rfl ?_
    show Steps p.tables e below (T1.setTop (mkF m 5 #[.val (.ref q), .val (.int k)] [(.int k), (.ref (ad 4))])) _
    refine XS.aloadN X1.here hx rfl (hb hby dw_5) rfl rfl ?_
    show Steps p.tables e below (T1.setTop (mkF m 6 #[.val (.ref q), .val (.int k)] [(.ref q), (.int k), (.ref (ad 4))])) _
    refine st2 _ ?_
    show Steps p.tables e below (T2.setTop (mkF m 9 #[.val (.ref q), .val (.int k)] [(.ref (ad 7)), (.int k), (.ref (ad 4))])) _
    refine XS.iloadN X2.here hx rfl (hb hby dw_9) rfl ?_
    show Steps p.tables e below (T2.setTop (mkF m 10 #[.val (.ref q), .val (.int k)] [(.int k), (.ref (ad 7)), (.int k), (.ref (ad 4))])) _
    refine X2.aaload hx (j := k) (v := (.ref bk)) (by rw [e2]; exact A3.1) (State.isArrayOf_alike hZ.alike A3.2.1) rfl A3.2.2 (own_inb S3 ik) at3 (g := (mkF m 10 #[.val (.ref q), .val (.int k)] [(.int k), (.ref (ad 7)), (.int k), (.ref (ad 4))])) rfl rfl (hb hby dw_10) _ ?_
    show Steps p.tables e below (T2.setTop (mkF m 11 #[.val (.ref q), .val (.int k)] [(.ref bk), (.int k), (.ref (ad 4))])) _
    refine st4 _ ?_
    show Steps p.tables e below (T4.setTop (mkF m 12 #[.val (.ref q), .val (.int k)] [])) _
    refine XS.aloadN X4.here hx rfl (hb hby dw_12) rfl rfl ?_
    show Steps p.tables e below (T4.setTop (mkF m 13 #[.val (.ref q), .val (.int k)] [(.ref q)])) _
    refine st5 _ ?_
    show Steps p.tables e below (T5.setTop (mkF m 16 #[.val (.ref q), .val (.int k)] [(.ref (ad 5))])) _
    refine XS.iloadN X5.here hx rfl (hb hby dw_16) rfl ?_
    show Steps p.tables e below (T5.setTop (mkF m 17 #[.val (.ref q), .val (.int k)] [(.int k), (.ref (ad 5))])) _
    refine XS.aloadN X5.here hx rfl (hb hby dw_17) rfl rfl ?_
    show Steps p.tables e below (T5.setTop (mkF m 18 #[.val (.ref q), .val (.int k)] [(.ref q), (.int k), (.ref (ad 5))])) _
    refine st6 _ ?_
    show Steps p.tables e below (T6.setTop (mkF m 21 #[.val (.ref q), .val (.int k)] [(.ref (ad 8)), (.int k), (.ref (ad 5))])) _
    refine XS.iloadN X6.here hx rfl (hb hby dw_21) rfl ?_
    show Steps p.tables e below (T6.setTop (mkF m 22 #[.val (.ref q), .val (.int k)] [(.int k), (.ref (ad 8)), (.int k), (.ref (ad 5))])) _
    refine X6.iaload hx (j := k) (v := (.int bs)) (by rw [e6]; exact A7.1) (State.isArrayOf_alike hZ.alike A7.2.1) A7.2.2 (own_inb S7 ik) at7 (g := (mkF m 22 #[.val (.ref q), .val (.int k)] [(.int k), (.ref (ad 8)), (.int k), (.ref (ad 5))])) rfl rfl (hb hby dw_22) _ ?_
    show Steps p.tables e below (T6.setTop (mkF m 23 #[.val (.ref q), .val (.int k)] [(.int bs), (.int k), (.ref (ad 5))])) _
    refine st8 _ ?_
    show Steps p.tables e below (T8.setTop (mkF m 24 #[.val (.ref q), .val (.int k)] [])) _
    refine XS.aloadN X8.here hx rfl (hb hby dw_24) rfl rfl ?_
    show Steps p.tables e below (T8.setTop (mkF m 25 #[.val (.ref q), .val (.int k)] [(.ref q)])) _
    refine st9 _ ?_
    show Steps p.tables e below (T9.setTop (mkF m 28 #[.val (.ref q), .val (.int k)] [(.ref (ad 6))])) _
    refine XS.iloadN X9.here hx rfl (hb hby dw_28) rfl ?_
    show Steps p.tables e below (T9.setTop (mkF m 29 #[.val (.ref q), .val (.int k)] [(.int k), (.ref (ad 6))])) _
    refine XS.aloadN X9.here hx rfl (hb hby dw_29) rfl rfl ?_
    show Steps p.tables e below (T9.setTop (mkF m 30 #[.val (.ref q), .val (.int k)] [(.ref q), (.int k), (.ref (ad 6))])) _
    refine st10 _ ?_
    show Steps p.tables e below (T10.setTop (mkF m 33 #[.val (.ref q), .val (.int k)] [(.ref (ad 9)), (.int k), (.ref (ad 6))])) _
    refine XS.iloadN X10.here hx rfl (hb hby dw_33) rfl ?_
    show Steps p.tables e below (T10.setTop (mkF m 34 #[.val (.ref q), .val (.int k)] [(.int k), (.ref (ad 9)), (.int k), (.ref (ad 6))])) _
    refine X10.iaload hx (j := k) (v := (.int bw)) (by rw [e10]; exact A11.1) (State.isArrayOf_alike hZ.alike A11.2.1) A11.2.2 (own_inb S11 ik) at11 (g := (mkF m 34 #[.val (.ref q), .val (.int k)] [(.int k), (.ref (ad 9)), (.int k), (.ref (ad 6))])) rfl rfl (hb hby dw_34) _ ?_
    show Steps p.tables e below (T10.setTop (mkF m 35 #[.val (.ref q), .val (.int k)] [(.int bw), (.int k), (.ref (ad 6))])) _
    refine st12 _ ?_
    show Steps p.tables e below (T12.setTop (mkF m 36 #[.val (.ref q), .val (.int k)] [])) _
    refine XS.aloadN X12.here hx rfl (hb hby dw_36) rfl rfl ?_
    show Steps p.tables e below (T12.setTop (mkF m 37 #[.val (.ref q), .val (.int k)] [(.ref q)])) _
    refine st13 _ ?_
    show Steps p.tables e below (T13.setTop (mkF m 40 #[.val (.ref q), .val (.int k)] [(.ref (ad 7))])) _
    refine XS.iloadN X13.here hx rfl (hb hby dw_40) rfl ?_
    show Steps p.tables e below (T13.setTop (mkF m 41 #[.val (.ref q), .val (.int k)] [(.int k), (.ref (ad 7))])) _
    refine XS.aconstNull X13.here hx rfl (hb hby dw_41) ?_
    show Steps p.tables e below (T13.setTop (mkF m 42 #[.val (.ref q), .val (.int k)] [.null, (.int k), (.ref (ad 7))])) _
    refine st14 _ ?_
    show Steps p.tables e below (T14.setTop (mkF m 43 #[.val (.ref q), .val (.int k)] [])) _
    exact X14.returnOut hx Bd.returns (hb hby dw_43) hr
  · show own_M Z q ad kk n (own_upd (own_upd (own_upd (own_upd f 4 k.toNatClampNeg (.ref bk)) 5 k.toNatClampNeg (.int bs)) 6 k.toNatClampNeg (.int bw)) 7 k.toNatClampNeg .null) h0 n0 _ T14.heap _
    rw [e14]
    exact ⟨rfl, N14, P14, Q14⟩
theorem dr_0 : decode prog_37_method_9_code 0 = .ok (.aload_n 0, 1) := by decide +kernel
theorem dr_1 : decode prog_37_method_9_code 1 = .ok (.getfield 24, 3) := by decide +kernel
theorem dr_4 : decode prog_37_method_9_code 4 = .ok (.iload_n 1, 1) := by decide +kernel
theorem dr_5 : decode prog_37_method_9_code 5 = .ok (.aaload, 1) := by decide +kernel
theorem dr_6 : decode prog_37_method_9_code 6 = .ok (.areturn, 1) := by decide +kernel
theorem ef_rmR (m : MethodId) (x0 : Addr) (x1 : Int32) : entryFrame m #[(.ref x0), (.int x1)] 2 = mkF m 0 #[.val (.ref x0), .val (.int x1)] [] := by first | (simp [entryFrame, mkF, argsToLocals, Value.category]; done) | rfl
set_option maxRecDepth 65536 in
set_option maxHeartbeats 40000000 in
theorem rmR (l : Launch) (Z : State) (a0 : Array Value) (hw : ∀ d ∈ tables_1, d.before a0 Z = true) (ws : List Jvm.Cond) (q : Addr) (ad : Nat → Addr) (kk : Nat → ClassId) (n : Int32) (f : Nat → Nat → Value) (k : Int32) (w : Value) (h0 : Heap) (n0 : Nat) (Q : own_Q Z h0 q ad kk n f) (ik : ¬ k < 0 ∧ k < 64) (hv : f 4 k.toNatClampNeg = w) (hr0 : w.isRef = true) :
    MetFree l (⟨"com/example/weaver_ant/weaverant/simulation/DepartureQueue", "route", "(I)[I"⟩ : MethodName) (head1 (Jvm.Cond.code (⟨"com/example/weaver_ant/weaverant/simulation/DepartureQueue", "route", "(I)[I"⟩ : MethodName) prog_37_method_9_code 2 (some (.array .int)) :: ws) ({ frames := 0, cells := 0, slots := 0, locals := 0 } : Room)) (fun a U => a = #[(.ref q), (.int k)] ∧ Z.Warmed39 U.vm ∧ U.heap = h0) (fun _ _ _ _ _ => True) (fun _ U o U' => ∃ v L, o = .returned v ∧ own_G w h0 n0 v U'.heap L ∧ FrameEnd U o U' L ({ frames := 0, cells := 0, slots := 0, locals := 0 } : Room).cells ({ frames := 0, cells := 0, slots := 0, locals := 0 } : Room).slots) := by
  refine MetFree.of_bodySF (plainFor_of_name pn_1) hisR ?_
  intro p e s m args below meth c s₁ Bd hml0 hP hK
  obtain ⟨rfl, hZ, hh⟩ := hP
  have hx := Bd.exec
  have hby := Bd.bytes
  have hml : c.maxLocals = 2 := hml0
  have hown : s.vm.findClass "com/example/weaver_ant/weaverant/simulation/DepartureQueue" = some m.cls := findClass_of_methodNamed Bd.named
  have X0 : Stand p l e ({ frames := 0, cells := 0, slots := 0, locals := 0 } : Room) s m #[(.ref q), (.int k)] below meth c s₁ [] 0 0 := Stand.of_body Bd
  have e0 : s₁.heap = h0 := by rw [← hh, Bd.state]; rfl
  have N0 := Fr.nil n0
  have pre0 : ∀ t, Steps p.tables e below (s₁.setTop (mkF m 0 #[.val (.ref q), .val (.int k)] [])) t → Steps p.tables e below (s₁.setTop (entryFrame m #[(.ref q), (.int k)] 2)) t := fun t kt => castTop (ef_rmR m q k) kt
  obtain ⟨T1, X1, e1, st1⟩ := getF X0 hx hZ hown (host := "") (Or.inl (hw _ (List.mem_of_getElem? (i := 21) rfl))) Via.refl e0 (own_f4 Q) (g := (mkF m 1 #[.val (.ref q), .val (.int k)] [(.ref q)])) rfl rfl (hb hby dr_1)
  obtain ⟨c2, A2, K2, S2, G2⟩ := Q.2.2 4 (by decide)
  obtain ⟨v2, at2, pv2⟩ := G2 (k).toNatClampNeg (own_lt ik)
  have pw2 := pv2.trans hv
  rw [pw2] at at2
  obtain ⟨fs, hr, hrun, hended, hW, hsame⟩ := X1.leave (v := some w) (fun h => by rw [Bd.returns] at h; cases h)
  refine ⟨_, _, pre0 _ ?_, hrun, hended, _, _, rfl, ?_, ⟨_, rfl⟩, hW, hsame.mono (by decide) (by decide)⟩
  · show Steps p.tables e below (s₁.setTop (mkF m 0 #[.val (.ref q), .val (.int k)] [])) _
    refine XS.aloadN X0.here hx rfl (hb hby dr_0) rfl rfl ?_
    show Steps p.tables e below (s₁.setTop (mkF m 1 #[.val (.ref q), .val (.int k)] [(.ref q)])) _
    refine st1 _ ?_
    show Steps p.tables e below (T1.setTop (mkF m 4 #[.val (.ref q), .val (.int k)] [(.ref (ad 4))])) _
    refine XS.iloadN X1.here hx rfl (hb hby dr_4) rfl ?_
    show Steps p.tables e below (T1.setTop (mkF m 5 #[.val (.ref q), .val (.int k)] [(.int k), (.ref (ad 4))])) _
    refine X1.aaload hx (j := k) (v := w) (by rw [e1]; exact A2.1) (State.isArrayOf_alike hZ.alike A2.2.1) rfl A2.2.2 (own_inb S2 ik) at2 (g := (mkF m 5 #[.val (.ref q), .val (.int k)] [(.int k), (.ref (ad 4))])) rfl rfl (hb hby dr_5) _ ?_
    show Steps p.tables e below (T1.setTop (mkF m 6 #[.val (.ref q), .val (.int k)] [w])) _
    exact retOut X1 hx Bd.returns (own_narrow rfl hr0) (Or.inr (Or.inr (Or.inr (Or.inr ⟨rfl, rfl, hr0⟩)))) (hb hby dr_6) hr
  · show own_G w h0 n0 _ T1.heap _
    rw [e1]
    exact ⟨rfl, N0, rfl⟩
theorem dt_0 : decode prog_37_method_10_code 0 = .ok (.aload_n 0, 1) := by decide +kernel
theorem dt_1 : decode prog_37_method_10_code 1 = .ok (.getfield 28, 3) := by decide +kernel
theorem dt_4 : decode prog_37_method_10_code 4 = .ok (.iload_n 1, 1) := by decide +kernel
theorem dt_5 : decode prog_37_method_10_code 5 = .ok (.iaload, 1) := by decide +kernel
theorem dt_6 : decode prog_37_method_10_code 6 = .ok (.ireturn, 1) := by decide +kernel
theorem ef_rmT (m : MethodId) (x0 : Addr) (x1 : Int32) : entryFrame m #[(.ref x0), (.int x1)] 2 = mkF m 0 #[.val (.ref x0), .val (.int x1)] [] := by first | (simp [entryFrame, mkF, argsToLocals, Value.category]; done) | rfl
set_option maxRecDepth 65536 in
set_option maxHeartbeats 40000000 in
theorem rmT (l : Launch) (Z : State) (a0 : Array Value) (hw : ∀ d ∈ tables_1, d.before a0 Z = true) (ws : List Jvm.Cond) (q : Addr) (ad : Nat → Addr) (kk : Nat → ClassId) (n : Int32) (f : Nat → Nat → Value) (k : Int32) (w : Int32) (h0 : Heap) (n0 : Nat) (Q : own_Q Z h0 q ad kk n f) (ik : ¬ k < 0 ∧ k < 64) (hv : f 5 k.toNatClampNeg = (.int w)) :
    MetFree l (⟨"com/example/weaver_ant/weaverant/simulation/DepartureQueue", "start", "(I)I"⟩ : MethodName) (head1 (Jvm.Cond.code (⟨"com/example/weaver_ant/weaverant/simulation/DepartureQueue", "start", "(I)I"⟩ : MethodName) prog_37_method_10_code 2 (some .int) :: ws) ({ frames := 0, cells := 0, slots := 0, locals := 0 } : Room)) (fun a U => a = #[(.ref q), (.int k)] ∧ Z.Warmed39 U.vm ∧ U.heap = h0) (fun _ _ _ _ _ => True) (fun _ U o U' => ∃ v L, o = .returned v ∧ own_G (.int w) h0 n0 v U'.heap L ∧ FrameEnd U o U' L ({ frames := 0, cells := 0, slots := 0, locals := 0 } : Room).cells ({ frames := 0, cells := 0, slots := 0, locals := 0 } : Room).slots) := by
  refine MetFree.of_bodySF (plainFor_of_name pn_1) hisR ?_
  intro p e s m args below meth c s₁ Bd hml0 hP hK
  obtain ⟨rfl, hZ, hh⟩ := hP
  have hx := Bd.exec
  have hby := Bd.bytes
  have hml : c.maxLocals = 2 := hml0
  have hown : s.vm.findClass "com/example/weaver_ant/weaverant/simulation/DepartureQueue" = some m.cls := findClass_of_methodNamed Bd.named
  have X0 : Stand p l e ({ frames := 0, cells := 0, slots := 0, locals := 0 } : Room) s m #[(.ref q), (.int k)] below meth c s₁ [] 0 0 := Stand.of_body Bd
  have e0 : s₁.heap = h0 := by rw [← hh, Bd.state]; rfl
  have N0 := Fr.nil n0
  have pre0 : ∀ t, Steps p.tables e below (s₁.setTop (mkF m 0 #[.val (.ref q), .val (.int k)] [])) t → Steps p.tables e below (s₁.setTop (entryFrame m #[(.ref q), (.int k)] 2)) t := fun t kt => castTop (ef_rmT m q k) kt
  obtain ⟨T1, X1, e1, st1⟩ := getF X0 hx hZ hown (host := "") (Or.inl (hw _ (List.mem_of_getElem? (i := 23) rfl))) Via.refl e0 (own_f5 Q) (g := (mkF m 1 #[.val (.ref q), .val (.int k)] [(.ref q)])) rfl rfl (hb hby dt_1)
  obtain ⟨c2, A2, K2, S2, G2⟩ := Q.2.2 5 (by decide)
  obtain ⟨v2, at2, pv2⟩ := G2 (k).toNatClampNeg (own_lt ik)
  have pw2 := pv2.trans hv
  rw [pw2] at at2
  obtain ⟨fs, hr, hrun, hended, hW, hsame⟩ := X1.leave (v := some (.int w)) (fun h => by rw [Bd.returns] at h; cases h)
  refine ⟨_, _, pre0 _ ?_, hrun, hended, _, _, rfl, ?_, ⟨_, rfl⟩, hW, hsame.mono (by decide) (by decide)⟩
  · show Steps p.tables e below (s₁.setTop (mkF m 0 #[.val (.ref q), .val (.int k)] [])) _
    refine XS.aloadN X0.here hx rfl (hb hby dt_0) rfl rfl ?_
    show Steps p.tables e below (s₁.setTop (mkF m 1 #[.val (.ref q), .val (.int k)] [(.ref q)])) _
    refine st1 _ ?_
    show Steps p.tables e below (T1.setTop (mkF m 4 #[.val (.ref q), .val (.int k)] [(.ref (ad 5))])) _
    refine XS.iloadN X1.here hx rfl (hb hby dt_4) rfl ?_
    show Steps p.tables e below (T1.setTop (mkF m 5 #[.val (.ref q), .val (.int k)] [(.int k), (.ref (ad 5))])) _
    refine X1.iaload hx (j := k) (v := (.int w)) (by rw [e1]; exact A2.1) (State.isArrayOf_alike hZ.alike A2.2.1) A2.2.2 (own_inb S2 ik) at2 (g := (mkF m 5 #[.val (.ref q), .val (.int k)] [(.int k), (.ref (ad 5))])) rfl rfl (hb hby dt_5) _ ?_
    show Steps p.tables e below (T1.setTop (mkF m 6 #[.val (.ref q), .val (.int k)] [(.int w)])) _
    exact retI X1 hx Bd.returns (hb hby dt_6) hr
  · show own_G (.int w) h0 n0 _ T1.heap _
    rw [e1]
    exact ⟨rfl, N0, rfl⟩
theorem dd_0 : decode prog_37_method_11_code 0 = .ok (.aload_n 0, 1) := by decide +kernel
theorem dd_1 : decode prog_37_method_11_code 1 = .ok (.getfield 31, 3) := by decide +kernel
theorem dd_4 : decode prog_37_method_11_code 4 = .ok (.iload_n 1, 1) := by decide +kernel
theorem dd_5 : decode prog_37_method_11_code 5 = .ok (.iaload, 1) := by decide +kernel
theorem dd_6 : decode prog_37_method_11_code 6 = .ok (.ireturn, 1) := by decide +kernel
theorem ef_rmD (m : MethodId) (x0 : Addr) (x1 : Int32) : entryFrame m #[(.ref x0), (.int x1)] 2 = mkF m 0 #[.val (.ref x0), .val (.int x1)] [] := by first | (simp [entryFrame, mkF, argsToLocals, Value.category]; done) | rfl
set_option maxRecDepth 65536 in
set_option maxHeartbeats 40000000 in
theorem rmD (l : Launch) (Z : State) (a0 : Array Value) (hw : ∀ d ∈ tables_1, d.before a0 Z = true) (ws : List Jvm.Cond) (q : Addr) (ad : Nat → Addr) (kk : Nat → ClassId) (n : Int32) (f : Nat → Nat → Value) (k : Int32) (w : Int32) (h0 : Heap) (n0 : Nat) (Q : own_Q Z h0 q ad kk n f) (ik : ¬ k < 0 ∧ k < 64) (hv : f 6 k.toNatClampNeg = (.int w)) :
    MetFree l (⟨"com/example/weaver_ant/weaverant/simulation/DepartureQueue", "width", "(I)I"⟩ : MethodName) (head1 (Jvm.Cond.code (⟨"com/example/weaver_ant/weaverant/simulation/DepartureQueue", "width", "(I)I"⟩ : MethodName) prog_37_method_11_code 2 (some .int) :: ws) ({ frames := 0, cells := 0, slots := 0, locals := 0 } : Room)) (fun a U => a = #[(.ref q), (.int k)] ∧ Z.Warmed39 U.vm ∧ U.heap = h0) (fun _ _ _ _ _ => True) (fun _ U o U' => ∃ v L, o = .returned v ∧ own_G (.int w) h0 n0 v U'.heap L ∧ FrameEnd U o U' L ({ frames := 0, cells := 0, slots := 0, locals := 0 } : Room).cells ({ frames := 0, cells := 0, slots := 0, locals := 0 } : Room).slots) := by
  refine MetFree.of_bodySF (plainFor_of_name pn_1) hisR ?_
  intro p e s m args below meth c s₁ Bd hml0 hP hK
  obtain ⟨rfl, hZ, hh⟩ := hP
  have hx := Bd.exec
  have hby := Bd.bytes
  have hml : c.maxLocals = 2 := hml0
  have hown : s.vm.findClass "com/example/weaver_ant/weaverant/simulation/DepartureQueue" = some m.cls := findClass_of_methodNamed Bd.named
  have X0 : Stand p l e ({ frames := 0, cells := 0, slots := 0, locals := 0 } : Room) s m #[(.ref q), (.int k)] below meth c s₁ [] 0 0 := Stand.of_body Bd
  have e0 : s₁.heap = h0 := by rw [← hh, Bd.state]; rfl
  have N0 := Fr.nil n0
  have pre0 : ∀ t, Steps p.tables e below (s₁.setTop (mkF m 0 #[.val (.ref q), .val (.int k)] [])) t → Steps p.tables e below (s₁.setTop (entryFrame m #[(.ref q), (.int k)] 2)) t := fun t kt => castTop (ef_rmD m q k) kt
  obtain ⟨T1, X1, e1, st1⟩ := getF X0 hx hZ hown (host := "") (Or.inl (hw _ (List.mem_of_getElem? (i := 25) rfl))) Via.refl e0 (own_f6 Q) (g := (mkF m 1 #[.val (.ref q), .val (.int k)] [(.ref q)])) rfl rfl (hb hby dd_1)
  obtain ⟨c2, A2, K2, S2, G2⟩ := Q.2.2 6 (by decide)
  obtain ⟨v2, at2, pv2⟩ := G2 (k).toNatClampNeg (own_lt ik)
  have pw2 := pv2.trans hv
  rw [pw2] at at2
  obtain ⟨fs, hr, hrun, hended, hW, hsame⟩ := X1.leave (v := some (.int w)) (fun h => by rw [Bd.returns] at h; cases h)
  refine ⟨_, _, pre0 _ ?_, hrun, hended, _, _, rfl, ?_, ⟨_, rfl⟩, hW, hsame.mono (by decide) (by decide)⟩
  · show Steps p.tables e below (s₁.setTop (mkF m 0 #[.val (.ref q), .val (.int k)] [])) _
    refine XS.aloadN X0.here hx rfl (hb hby dd_0) rfl rfl ?_
    show Steps p.tables e below (s₁.setTop (mkF m 1 #[.val (.ref q), .val (.int k)] [(.ref q)])) _
    refine st1 _ ?_
    show Steps p.tables e below (T1.setTop (mkF m 4 #[.val (.ref q), .val (.int k)] [(.ref (ad 6))])) _
    refine XS.iloadN X1.here hx rfl (hb hby dd_4) rfl ?_
    show Steps p.tables e below (T1.setTop (mkF m 5 #[.val (.ref q), .val (.int k)] [(.int k), (.ref (ad 6))])) _
    refine X1.iaload hx (j := k) (v := (.int w)) (by rw [e1]; exact A2.1) (State.isArrayOf_alike hZ.alike A2.2.1) A2.2.2 (own_inb S2 ik) at2 (g := (mkF m 5 #[.val (.ref q), .val (.int k)] [(.int k), (.ref (ad 6))])) rfl rfl (hb hby dd_5) _ ?_
    show Steps p.tables e below (T1.setTop (mkF m 6 #[.val (.ref q), .val (.int k)] [(.int w)])) _
    exact retI X1 hx Bd.returns (hb hby dd_6) hr
  · show own_G (.int w) h0 n0 _ T1.heap _
    rw [e1]
    exact ⟨rfl, N0, rfl⟩
theorem db_0 : decode prog_37_method_12_code 0 = .ok (.aload_n 0, 1) := by decide +kernel
theorem db_1 : decode prog_37_method_12_code 1 = .ok (.getfield 34, 3) := by decide +kernel
theorem db_4 : decode prog_37_method_12_code 4 = .ok (.iload_n 1, 1) := by decide +kernel
theorem db_5 : decode prog_37_method_12_code 5 = .ok (.aaload, 1) := by decide +kernel
theorem db_6 : decode prog_37_method_12_code 6 = .ok (.areturn, 1) := by decide +kernel
theorem ef_rmB (m : MethodId) (x0 : Addr) (x1 : Int32) : entryFrame m #[(.ref x0), (.int x1)] 2 = mkF m 0 #[.val (.ref x0), .val (.int x1)] [] := by first | (simp [entryFrame, mkF, argsToLocals, Value.category]; done) | rfl
set_option maxRecDepth 65536 in
set_option maxHeartbeats 40000000 in
theorem rmB (l : Launch) (Z : State) (a0 : Array Value) (hw : ∀ d ∈ tables_1, d.before a0 Z = true) (ws : List Jvm.Cond) (q : Addr) (ad : Nat → Addr) (kk : Nat → ClassId) (n : Int32) (f : Nat → Nat → Value) (k : Int32) (w : Value) (h0 : Heap) (n0 : Nat) (Q : own_Q Z h0 q ad kk n f) (ik : ¬ k < 0 ∧ k < 64) (hv : f 7 k.toNatClampNeg = w) (hr0 : w.isRef = true) :
    MetFree l (⟨"com/example/weaver_ant/weaverant/simulation/DepartureQueue", "backup", "(I)[I"⟩ : MethodName) (head1 (Jvm.Cond.code (⟨"com/example/weaver_ant/weaverant/simulation/DepartureQueue", "backup", "(I)[I"⟩ : MethodName) prog_37_method_12_code 2 (some (.array .int)) :: ws) ({ frames := 0, cells := 0, slots := 0, locals := 0 } : Room)) (fun a U => a = #[(.ref q), (.int k)] ∧ Z.Warmed39 U.vm ∧ U.heap = h0) (fun _ _ _ _ _ => True) (fun _ U o U' => ∃ v L, o = .returned v ∧ own_G w h0 n0 v U'.heap L ∧ FrameEnd U o U' L ({ frames := 0, cells := 0, slots := 0, locals := 0 } : Room).cells ({ frames := 0, cells := 0, slots := 0, locals := 0 } : Room).slots) := by
  refine MetFree.of_bodySF (plainFor_of_name pn_1) hisR ?_
  intro p e s m args below meth c s₁ Bd hml0 hP hK
  obtain ⟨rfl, hZ, hh⟩ := hP
  have hx := Bd.exec
  have hby := Bd.bytes
  have hml : c.maxLocals = 2 := hml0
  have hown : s.vm.findClass "com/example/weaver_ant/weaverant/simulation/DepartureQueue" = some m.cls := findClass_of_methodNamed Bd.named
  have X0 : Stand p l e ({ frames := 0, cells := 0, slots := 0, locals := 0 } : Room) s m #[(.ref q), (.int k)] below meth c s₁ [] 0 0 := Stand.of_body Bd
  have e0 : s₁.heap = h0 := by rw [← hh, Bd.state]; rfl
  have N0 := Fr.nil n0
  have pre0 : ∀ t, Steps p.tables e below (s₁.setTop (mkF m 0 #[.val (.ref q), .val (.int k)] [])) t → Steps p.tables e below (s₁.setTop (entryFrame m #[(.ref q), (.int k)] 2)) t := fun t kt => castTop (ef_rmB m q k) kt
  obtain ⟨T1, X1, e1, st1⟩ := getF X0 hx hZ hown (host := "") (Or.inl (hw _ (List.mem_of_getElem? (i := 27) rfl))) Via.refl e0 (own_f7 Q) (g := (mkF m 1 #[.val (.ref q), .val (.int k)] [(.ref q)])) rfl rfl (hb hby db_1)
  obtain ⟨c2, A2, K2, S2, G2⟩ := Q.2.2 7 (by decide)
  obtain ⟨v2, at2, pv2⟩ := G2 (k).toNatClampNeg (own_lt ik)
  have pw2 := pv2.trans hv
  rw [pw2] at at2
  obtain ⟨fs, hr, hrun, hended, hW, hsame⟩ := X1.leave (v := some w) (fun h => by rw [Bd.returns] at h; cases h)
  refine ⟨_, _, pre0 _ ?_, hrun, hended, _, _, rfl, ?_, ⟨_, rfl⟩, hW, hsame.mono (by decide) (by decide)⟩
  · show Steps p.tables e below (s₁.setTop (mkF m 0 #[.val (.ref q), .val (.int k)] [])) _
    refine XS.aloadN X0.here hx rfl (hb hby db_0) rfl rfl ?_
    show Steps p.tables e below (s₁.setTop (mkF m 1 #[.val (.ref q), .val (.int k)] [(.ref q)])) _
    refine st1 _ ?_
    show Steps p.tables e below (T1.setTop (mkF m 4 #[.val (.ref q), .val (.int k)] [(.ref (ad 7))])) _
    refine XS.iloadN X1.here hx rfl (hb hby db_4) rfl ?_
    show Steps p.tables e below (T1.setTop (mkF m 5 #[.val (.ref q), .val (.int k)] [(.int k), (.ref (ad 7))])) _
    refine X1.aaload hx (j := k) (v := w) (by rw [e1]; exact A2.1) (State.isArrayOf_alike hZ.alike A2.2.1) rfl A2.2.2 (own_inb S2 ik) at2 (g := (mkF m 5 #[.val (.ref q), .val (.int k)] [(.int k), (.ref (ad 7))])) rfl rfl (hb hby db_5) _ ?_
    show Steps p.tables e below (T1.setTop (mkF m 6 #[.val (.ref q), .val (.int k)] [w])) _
    exact retOut X1 hx Bd.returns (own_narrow rfl hr0) (Or.inr (Or.inr (Or.inr (Or.inr ⟨rfl, rfl, hr0⟩)))) (hb hby db_6) hr
  · show own_G w h0 n0 _ T1.heap _
    rw [e1]
    exact ⟨rfl, N0, rfl⟩
theorem dc_0 : decode prog_37_method_1_code 0 = .ok (.aload_n 0, 1) := by decide +kernel
theorem dc_1 : decode prog_37_method_1_code 1 = .ok (.invokespecial 1, 3) := by decide +kernel
theorem dc_4 : decode prog_37_method_1_code 4 = .ok (.aload_n 0, 1) := by decide +kernel
theorem dc_5 : decode prog_37_method_1_code 5 = .ok (.bipush 64, 2) := by decide +kernel
theorem dc_7 : decode prog_37_method_1_code 7 = .ok (.newarray .double, 2) := by decide +kernel
theorem dc_9 : decode prog_37_method_1_code 9 = .ok (.putfield 9, 3) := by decide +kernel
theorem dc_12 : decode prog_37_method_1_code 12 = .ok (.aload_n 0, 1) := by decide +kernel
theorem dc_13 : decode prog_37_method_1_code 13 = .ok (.bipush 64, 2) := by decide +kernel
theorem dc_15 : decode prog_37_method_1_code 15 = .ok (.newarray .int, 2) := by decide +kernel
theorem dc_17 : decode prog_37_method_1_code 17 = .ok (.putfield 13, 3) := by decide +kernel
theorem dc_20 : decode prog_37_method_1_code 20 = .ok (.aload_n 0, 1) := by decide +kernel
theorem dc_21 : decode prog_37_method_1_code 21 = .ok (.bipush 64, 2) := by decide +kernel
theorem dc_23 : decode prog_37_method_1_code 23 = .ok (.newarray .int, 2) := by decide +kernel
theorem dc_25 : decode prog_37_method_1_code 25 = .ok (.putfield 17, 3) := by decide +kernel
theorem dc_28 : decode prog_37_method_1_code 28 = .ok (.aload_n 0, 1) := by decide +kernel
theorem dc_29 : decode prog_37_method_1_code 29 = .ok (.bipush 64, 2) := by decide +kernel
theorem dc_31 : decode prog_37_method_1_code 31 = .ok (.newarray .int, 2) := by decide +kernel
theorem dc_33 : decode prog_37_method_1_code 33 = .ok (.putfield 20, 3) := by decide +kernel
theorem dc_36 : decode prog_37_method_1_code 36 = .ok (.aload_n 0, 1) := by decide +kernel
theorem dc_37 : decode prog_37_method_1_code 37 = .ok (.bipush 64, 2) := by decide +kernel
theorem dc_39 : decode prog_37_method_1_code 39 = .ok (.anewarray 23, 3) := by decide +kernel
theorem dc_42 : decode prog_37_method_1_code 42 = .ok (.putfield 24, 3) := by decide +kernel
theorem dc_45 : decode prog_37_method_1_code 45 = .ok (.aload_n 0, 1) := by decide +kernel
theorem dc_46 : decode prog_37_method_1_code 46 = .ok (.bipush 64, 2) := by decide +kernel
theorem dc_48 : decode prog_37_method_1_code 48 = .ok (.newarray .int, 2) := by decide +kernel
theorem dc_50 : decode prog_37_method_1_code 50 = .ok (.putfield 28, 3) := by decide +kernel
theorem dc_53 : decode prog_37_method_1_code 53 = .ok (.aload_n 0, 1) := by decide +kernel
theorem dc_54 : decode prog_37_method_1_code 54 = .ok (.bipush 64, 2) := by decide +kernel
theorem dc_56 : decode prog_37_method_1_code 56 = .ok (.newarray .int, 2) := by decide +kernel
theorem dc_58 : decode prog_37_method_1_code 58 = .ok (.putfield 31, 3) := by decide +kernel
theorem dc_61 : decode prog_37_method_1_code 61 = .ok (.aload_n 0, 1) := by decide +kernel
theorem dc_62 : decode prog_37_method_1_code 62 = .ok (.bipush 64, 2) := by decide +kernel
theorem dc_64 : decode prog_37_method_1_code 64 = .ok (.anewarray 23, 3) := by decide +kernel
theorem dc_67 : decode prog_37_method_1_code 67 = .ok (.putfield 34, 3) := by decide +kernel
theorem dc_70 : decode prog_37_method_1_code 70 = .ok (.aload_n 0, 1) := by decide +kernel
theorem dc_71 : decode prog_37_method_1_code 71 = .ok (.bipush 64, 2) := by decide +kernel
theorem dc_73 : decode prog_37_method_1_code 73 = .ok (.newarray .int, 2) := by decide +kernel
theorem dc_75 : decode prog_37_method_1_code 75 = .ok (.putfield 37, 3) := by decide +kernel
theorem dc_78 : decode prog_37_method_1_code 78 = .ok (.aload_n 0, 1) := by decide +kernel
theorem dc_79 : decode prog_37_method_1_code 79 = .ok (.bipush 64, 2) := by decide +kernel
theorem dc_81 : decode prog_37_method_1_code 81 = .ok (.newarray .int, 2) := by decide +kernel
theorem dc_83 : decode prog_37_method_1_code 83 = .ok (.putfield 40, 3) := by decide +kernel
theorem dc_86 : decode prog_37_method_1_code 86 = .ok (.aload_n 0, 1) := by decide +kernel
theorem dc_87 : decode prog_37_method_1_code 87 = .ok (.bipush 64, 2) := by decide +kernel
theorem dc_89 : decode prog_37_method_1_code 89 = .ok (.newarray .int, 2) := by decide +kernel
theorem dc_91 : decode prog_37_method_1_code 91 = .ok (.putfield 43, 3) := by decide +kernel
theorem dc_94 : decode prog_37_method_1_code 94 = .ok (.return_, 1) := by decide +kernel
theorem own_D_of {q n0 : Nat} {ad : Nat → Nat} (h0 : n0 ≤ q) (h1 : q < ad 0) (h2 : ∀ i, i < 9 → ad i < ad (i + 1)) : own_D q ad n0 := by
  have lt : ∀ d i, i + (d + 1) < 10 → ad i < ad (i + (d + 1)) := by
    intro d
    induction d with
    | zero => intro i hi; exact h2 i (by omega)
    | succ d ih =>
      intro i hi
      have a := ih i (by omega)
      have b := h2 (i + (d + 1)) (by omega)
      exact Nat.lt_trans a b
  have ql : ∀ i, i < 10 → q < ad i := by
    intro i hi
    cases i with
    | zero => exact h1
    | succ i =>
      have := lt i 0 (by omega)
      rw [Nat.zero_add] at this
      exact Nat.lt_trans h1 this
  refine ⟨h0, fun i hi => ⟨Nat.ne_of_lt (ql i hi), Nat.le_trans h0 (Nat.le_of_lt (ql i hi))⟩, fun i hi j hj ne => ?_⟩
  rcases Nat.lt_or_gt_of_ne ne with h | h
  · have := lt (j - i - 1) i (by omega)
    rw [show i + (j - i - 1 + 1) = j by omega] at this
    exact Nat.ne_of_lt this
  · have := lt (i - j - 1) j (by omega)
    rw [show j + (i - j - 1 + 1) = i by omega] at this
    exact (Nat.ne_of_lt this).symm
def own_ad (b0 b1 b2 b3 b4 b5 b6 b7 b8 b9 b10 : Nat) : Nat → Nat
  | 0 => b0 | 1 => b1 | 2 => b2 | 3 => b3 | 4 => b4 | 5 => b5 | 6 => b6 | 7 => b7 | 8 => b8 | 9 => b9 | _ => b10
def own_I (Z : State) (q : Addr) (h0 : Heap) (n0 : Nat) (v : Option Value) (h : Heap) (L : List Loc) : Prop := v = none ∧ Fr n0 L ∧ Keep h0 h [q] ∧ ∃ (ad : Nat → Addr) (kk : Nat → ClassId), own_D q ad n0 ∧ own_Q Z h q ad kk 0 own_new ∧ OvrA Z (kk 4) .int "[I" ∧ OvrA Z (kk 7) .int "[I"
theorem ef_rmC (m : MethodId) (x0 : Addr) : entryFrame m #[(.ref x0)] 1 = mkF m 0 #[.val (.ref x0)] [] := by first | (simp [entryFrame, mkF, argsToLocals, Value.category]; done) | rfl
set_option maxRecDepth 65536 in
set_option maxHeartbeats 40000000 in
theorem rmC (l : Launch) (Z : State) (a0 : Array Value) (hw : ∀ d ∈ tables_1, d.before a0 Z = true) (ws : List Jvm.Cond) (q : Addr) (h0 : Heap) (n0 : Nat) (E : Exa Z h0 q "com/example/weaver_ant/weaverant/simulation/DepartureQueue") (F : own_F Z h0 q (fun i => defaultValue (own_dt i))) (g0 : n0 ≤ q) :
    MetFree l (⟨"com/example/weaver_ant/weaverant/simulation/DepartureQueue", "<init>", "()V"⟩ : MethodName) (head1 (Jvm.Cond.code (⟨"com/example/weaver_ant/weaverant/simulation/DepartureQueue", "<init>", "()V"⟩ : MethodName) prog_37_method_1_code 1 none :: ws) ({ frames := 1, cells := 11, slots := 704, locals := 12 } : Room)) (fun a U => a = #[(.ref q)] ∧ Z.Warmed39 U.vm ∧ U.heap = h0) (fun _ _ _ _ _ => True) (fun _ U o U' => ∃ v L, o = .returned v ∧ own_I Z q h0 n0 v U'.heap L ∧ FrameEnd U o U' L ({ frames := 1, cells := 11, slots := 704, locals := 12 } : Room).cells ({ frames := 1, cells := 11, slots := 704, locals := 12 } : Room).slots) := by
  refine MetFree.of_bodySF (plainFor_of_name pn_1) hisR ?_
  intro p e s m args below meth c s₁ Bd hml0 hP hK
  obtain ⟨rfl, hZ, hh⟩ := hP
  have hx := Bd.exec
  have hby := Bd.bytes
  have hml : c.maxLocals = 1 := hml0
  have hown : s.vm.findClass "com/example/weaver_ant/weaverant/simulation/DepartureQueue" = some m.cls := findClass_of_methodNamed Bd.named
  have X0 : Stand p l e ({ frames := 1, cells := 11, slots := 704, locals := 12 } : Room) s m #[(.ref q)] below meth c s₁ [] 0 0 := Stand.of_body Bd
  have e0 : s₁.heap = h0 := by rw [← hh, Bd.state]; rfl
  have N0 := Fr.nil n0
  have pre0 : ∀ t, Steps p.tables e below (s₁.setTop (mkF m 0 #[.val (.ref q)] [])) t → Steps p.tables e below (s₁.setTop (entryFrame m #[(.ref q)] 1)) t := fun t kt => castTop (ef_rmC m q) kt
  obtain ⟨T1, X1, e1, st1⟩ := initO X0 hx hZ hown (hw _ (List.mem_of_getElem? (i := 7) rfl)) (hw _ (List.mem_of_getElem? (i := 8) rfl)) (hw _ (List.mem_of_getElem? (i := 9) rfl)) e0 (g := (mkF m 1 #[.val (.ref q)] [(.ref q)])) rfl (by rw [hml]; rfl) rfl (hb hby dc_1) (by decide) (W := 0) (by show 2 * 0 + _ ≤ _; exact Nat.le_of_eq rfl) (by decide)
  obtain ⟨T2, h2, k0, X2, e2, E2, A2, st2⟩ := newP X1 hx hZ (aty := .double) (hw _ (List.mem_of_getElem? (i := 10) rfl)) e1 (g := (mkF m 7 #[.val (.ref q)] [(.int (64 : Int32)), (.ref q)])) rfl (hb hby dc_7) rfl (by decide) (cap := 64) (by decide) (by decide) (by decide) (by decide)
  obtain ⟨b0, g0b⟩ : ∃ z, z = h0.size := ⟨_, rfl⟩
  rw [← g0b] at A2 st2
  have z0 : q < b0 := by rw [g0b]; exact E.lt
  have Ee2 := E.ext E2
  have Fe2 := own_F_ext E2 F
  have P2 : Keep h0 h2 [q] := (Keep.refl _ _).ext E2
  have V0_2 : own_A Z h2 b0 k0 (own_ty 0) (own_P own_new 0) := own_A_new A2 (fun _ => ⟨0, rfl⟩)
  have Fx3 : Fld Z h2 q "com/example/weaver_ant/weaverant/simulation/DepartureQueue" "times" "[D" .null := Fe2 0 (by decide)
  obtain ⟨T3, h3, X3, e3, W3, st3⟩ := putF X2 hx hZ hown (host := "") (Or.inl (hw _ (List.mem_of_getElem? (i := 11) rfl))) Via.refl e2 Fx3 Ee2 (Or.inl (hw _ (List.mem_of_getElem? (i := 12) rfl))) (hw _ (List.mem_of_getElem? (i := 2) rfl)) (ty := own_dt 0) (by decide) rfl rfl (g := (mkF m 9 #[.val (.ref q)] [(.ref b0), (.ref q)])) rfl rfl (hb hby dc_9)
  have N3 := Fr.snoc X3 N0 g0
  have Ee3 := Ee2.wr W3
  have Fe3 := own_F_set hw Fe2 0 (by decide) W3
  have P3 : Keep h0 h3 [q] := P2.wr W3 (Or.inl List.mem_cons_self)
  have V0_3 := own_A_other V0_2 W3 (Nat.ne_of_gt z0)
  obtain ⟨T4, h4, k1, X4, e4, E4, A4, st4⟩ := newP X3 hx hZ (aty := .int) (hw _ (List.mem_of_getElem? (i := 0) rfl)) e3 (g := (mkF m 15 #[.val (.ref q)] [(.int (64 : Int32)), (.ref q)])) rfl (hb hby dc_15) rfl (by decide) (cap := 64) (by decide) (by decide) (by decide) (by decide)
  obtain ⟨b1, g1b⟩ : ∃ z, z = h3.size := ⟨_, rfl⟩
  rw [← g1b] at A4 st4
  have z1 : b0 < b1 := by rw [g1b]; exact (by rw [W3.size]; exact A2.lt)
  have Ee4 := Ee3.ext E4
  have Fe4 := own_F_ext E4 Fe3
  have P4 : Keep h0 h4 [q] := P3.ext E4
  have V0_4 := own_A_ext E4 V0_3
  have V1_4 : own_A Z h4 b1 k1 (own_ty 1) (own_P own_new 1) := own_A_new A4 (fun _ => ⟨0, rfl, by decide⟩)
  have Fx5 : Fld Z h4 q "com/example/weaver_ant/weaverant/simulation/DepartureQueue" "heapSlots" "[I" .null := Fe4 1 (by decide)
  obtain ⟨T5, h5, X5, e5, W5, st5⟩ := putF X4 hx hZ hown (host := "") (Or.inl (hw _ (List.mem_of_getElem? (i := 13) rfl))) Via.refl e4 Fx5 Ee4 (Or.inl (hw _ (List.mem_of_getElem? (i := 14) rfl))) (hw _ (List.mem_of_getElem? (i := 2) rfl)) (ty := own_dt 1) (by decide) rfl rfl (g := (mkF m 17 #[.val (.ref q)] [(.ref b1), (.ref q)])) rfl rfl (hb hby dc_17)
  have N5 := Fr.snoc X5 N3 g0
  have Ee5 := Ee4.wr W5
  have Fe5 := own_F_set hw Fe4 1 (by decide) W5
  have P5 : Keep h0 h5 [q] := P4.wr W5 (Or.inl List.mem_cons_self)
  have zq1 : q < b1 := Nat.lt_trans z0 z1
  have V0_5 := own_A_other V0_4 W5 (Nat.ne_of_gt z0)
  have V1_5 := own_A_other V1_4 W5 (Nat.ne_of_gt zq1)
  obtain ⟨T6, h6, k2, X6, e6, E6, A6, st6⟩ := newP X5 hx hZ (aty := .int) (hw _ (List.mem_of_getElem? (i := 0) rfl)) e5 (g := (mkF m 23 #[.val (.ref q)] [(.int (64 : Int32)), (.ref q)])) rfl (hb hby dc_23) rfl (by decide) (cap := 64) (by decide) (by decide) (by decide) (by decide)
  obtain ⟨b2, g2b⟩ : ∃ z, z = h5.size := ⟨_, rfl⟩
  rw [← g2b] at A6 st6
  have z2 : b1 < b2 := by rw [g2b]; exact (by rw [W5.size]; exact A4.lt)
  have Ee6 := Ee5.ext E6
  have Fe6 := own_F_ext E6 Fe5
  have P6 : Keep h0 h6 [q] := P5.ext E6
  have V0_6 := own_A_ext E6 V0_5
  have V1_6 := own_A_ext E6 V1_5
  have V2_6 : own_A Z h6 b2 k2 (own_ty 2) (own_P own_new 2) := own_A_new A6 (fun _ => trivial)
  have Fx7 : Fld Z h6 q "com/example/weaver_ant/weaverant/simulation/DepartureQueue" "positions" "[I" .null := Fe6 2 (by decide)
  obtain ⟨T7, h7, X7, e7, W7, st7⟩ := putF X6 hx hZ hown (host := "") (Or.inl (hw _ (List.mem_of_getElem? (i := 15) rfl))) Via.refl e6 Fx7 Ee6 (Or.inl (hw _ (List.mem_of_getElem? (i := 16) rfl))) (hw _ (List.mem_of_getElem? (i := 2) rfl)) (ty := own_dt 2) (by decide) rfl rfl (g := (mkF m 25 #[.val (.ref q)] [(.ref b2), (.ref q)])) rfl rfl (hb hby dc_25)
  have N7 := Fr.snoc X7 N5 g0
  have Ee7 := Ee6.wr W7
  have Fe7 := own_F_set hw Fe6 2 (by decide) W7
  have P7 : Keep h0 h7 [q] := P6.wr W7 (Or.inl List.mem_cons_self)
  have zq2 : q < b2 := Nat.lt_trans zq1 z2
  have V0_7 := own_A_other V0_6 W7 (Nat.ne_of_gt z0)
  have V1_7 := own_A_other V1_6 W7 (Nat.ne_of_gt zq1)
  have V2_7 := own_A_other V2_6 W7 (Nat.ne_of_gt zq2)
  obtain ⟨T8, h8, k3, X8, e8, E8, A8, st8⟩ := newP X7 hx hZ (aty := .int) (hw _ (List.mem_of_getElem? (i := 0) rfl)) e7 (g := (mkF m 31 #[.val (.ref q)] [(.int (64 : Int32)), (.ref q)])) rfl (hb hby dc_31) rfl (by decide) (cap := 64) (by decide) (by decide) (by decide) (by decide)
  obtain ⟨b3, g3b⟩ : ∃ z, z = h7.size := ⟨_, rfl⟩
  rw [← g3b] at A8 st8
  have z3 : b2 < b3 := by rw [g3b]; exact (by rw [W7.size]; exact A6.lt)
  have Ee8 := Ee7.ext E8
  have Fe8 := own_F_ext E8 Fe7
  have P8 : Keep h0 h8 [q] := P7.ext E8
  have V0_8 := own_A_ext E8 V0_7
  have V1_8 := own_A_ext E8 V1_7
  have V2_8 := own_A_ext E8 V2_7
  have V3_8 : own_A Z h8 b3 k3 (own_ty 3) (own_P own_new 3) := own_A_new A8 (fun _ => trivial)
  have Fx9 : Fld Z h8 q "com/example/weaver_ant/weaverant/simulation/DepartureQueue" "pairs" "[I" .null := Fe8 3 (by decide)
  obtain ⟨T9, h9, X9, e9, W9, st9⟩ := putF X8 hx hZ hown (host := "") (Or.inl (hw _ (List.mem_of_getElem? (i := 17) rfl))) Via.refl e8 Fx9 Ee8 (Or.inl (hw _ (List.mem_of_getElem? (i := 18) rfl))) (hw _ (List.mem_of_getElem? (i := 2) rfl)) (ty := own_dt 3) (by decide) rfl rfl (g := (mkF m 33 #[.val (.ref q)] [(.ref b3), (.ref q)])) rfl rfl (hb hby dc_33)
  have N9 := Fr.snoc X9 N7 g0
  have Ee9 := Ee8.wr W9
  have Fe9 := own_F_set hw Fe8 3 (by decide) W9
  have P9 : Keep h0 h9 [q] := P8.wr W9 (Or.inl List.mem_cons_self)
  have zq3 : q < b3 := Nat.lt_trans zq2 z3
  have V0_9 := own_A_other V0_8 W9 (Nat.ne_of_gt z0)
  have V1_9 := own_A_other V1_8 W9 (Nat.ne_of_gt zq1)
  have V2_9 := own_A_other V2_8 W9 (Nat.ne_of_gt zq2)
  have V3_9 := own_A_other V3_8 W9 (Nat.ne_of_gt zq3)
  obtain ⟨T10, h10, k4, X10, e10, E10, A10, Ex10, O4, st10⟩ := newRA X9 hx hZ (ty := .int) hown (C := "[I") (by decide) (hw _ (List.mem_of_getElem? (i := 19) rfl)) (hw _ (List.mem_of_getElem? (i := 20) rfl)) e9 (g := (mkF m 39 #[.val (.ref q)] [(.int (64 : Int32)), (.ref q)])) rfl (hb hby dc_39) rfl (by decide) (cap := 64) (by decide) (by decide) (by decide) (by decide) (ad := "[[I") (by decide)
  obtain ⟨b4, g4b⟩ : ∃ z, z = h9.size := ⟨_, rfl⟩
  rw [← g4b] at A10 st10
  have z4 : b3 < b4 := by rw [g4b]; exact (by rw [W9.size]; exact A8.lt)
  have Ee10 := Ee9.ext E10
  have Fe10 := own_F_ext E10 Fe9
  have P10 : Keep h0 h10 [q] := P9.ext E10
  have V0_10 := own_A_ext E10 V0_9
  have V1_10 := own_A_ext E10 V1_9
  have V2_10 := own_A_ext E10 V2_9
  have V3_10 := own_A_ext E10 V3_9
  have V4_10 : own_A Z h10 b4 k4 (own_ty 4) (own_P own_new 4) := own_A_new A10 (fun _ => rfl)
  have Fx11 : Fld Z h10 q "com/example/weaver_ant/weaverant/simulation/DepartureQueue" "routes" "[[I" .null := Fe10 4 (by decide)
  obtain ⟨T11, h11, X11, e11, W11, st11⟩ := putF X10 hx hZ hown (host := "") (Or.inl (hw _ (List.mem_of_getElem? (i := 21) rfl))) Via.refl e10 Fx11 Ee10 (Or.inl (hw _ (List.mem_of_getElem? (i := 22) rfl))) (hw _ (List.mem_of_getElem? (i := 2) rfl)) (ty := own_dt 4) (by decide) rfl rfl (g := (mkF m 42 #[.val (.ref q)] [(.ref b4), (.ref q)])) rfl rfl (hb hby dc_42)
  have N11 := Fr.snoc X11 N9 g0
  have Ee11 := Ee10.wr W11
  have Fe11 := own_F_set hw Fe10 4 (by decide) W11
  have P11 : Keep h0 h11 [q] := P10.wr W11 (Or.inl List.mem_cons_self)
  have zq4 : q < b4 := Nat.lt_trans zq3 z4
  have V0_11 := own_A_other V0_10 W11 (Nat.ne_of_gt z0)
  have V1_11 := own_A_other V1_10 W11 (Nat.ne_of_gt zq1)
  have V2_11 := own_A_other V2_10 W11 (Nat.ne_of_gt zq2)
  have V3_11 := own_A_other V3_10 W11 (Nat.ne_of_gt zq3)
  have V4_11 := own_A_other V4_10 W11 (Nat.ne_of_gt zq4)
  obtain ⟨T12, h12, k5, X12, e12, E12, A12, st12⟩ := newP X11 hx hZ (aty := .int) (hw _ (List.mem_of_getElem? (i := 0) rfl)) e11 (g := (mkF m 48 #[.val (.ref q)] [(.int (64 : Int32)), (.ref q)])) rfl (hb hby dc_48) rfl (by decide) (cap := 64) (by decide) (by decide) (by decide) (by decide)
  obtain ⟨b5, g5b⟩ : ∃ z, z = h11.size := ⟨_, rfl⟩
  rw [← g5b] at A12 st12
  have z5 : b4 < b5 := by rw [g5b]; exact (by rw [W11.size]; exact A10.lt)
  have Ee12 := Ee11.ext E12
  have Fe12 := own_F_ext E12 Fe11
  have P12 : Keep h0 h12 [q] := P11.ext E12
  have V0_12 := own_A_ext E12 V0_11
  have V1_12 := own_A_ext E12 V1_11
  have V2_12 := own_A_ext E12 V2_11
  have V3_12 := own_A_ext E12 V3_11
  have V4_12 := own_A_ext E12 V4_11
  have V5_12 : own_A Z h12 b5 k5 (own_ty 5) (own_P own_new 5) := own_A_new A12 (fun _ => rfl)
  have Fx13 : Fld Z h12 q "com/example/weaver_ant/weaverant/simulation/DepartureQueue" "starts" "[I" .null := Fe12 5 (by decide)
  obtain ⟨T13, h13, X13, e13, W13, st13⟩ := putF X12 hx hZ hown (host := "") (Or.inl (hw _ (List.mem_of_getElem? (i := 23) rfl))) Via.refl e12 Fx13 Ee12 (Or.inl (hw _ (List.mem_of_getElem? (i := 24) rfl))) (hw _ (List.mem_of_getElem? (i := 2) rfl)) (ty := own_dt 5) (by decide) rfl rfl (g := (mkF m 50 #[.val (.ref q)] [(.ref b5), (.ref q)])) rfl rfl (hb hby dc_50)
  have N13 := Fr.snoc X13 N11 g0
  have Ee13 := Ee12.wr W13
  have Fe13 := own_F_set hw Fe12 5 (by decide) W13
  have P13 : Keep h0 h13 [q] := P12.wr W13 (Or.inl List.mem_cons_self)
  have zq5 : q < b5 := Nat.lt_trans zq4 z5
  have V0_13 := own_A_other V0_12 W13 (Nat.ne_of_gt z0)
  have V1_13 := own_A_other V1_12 W13 (Nat.ne_of_gt zq1)
  have V2_13 := own_A_other V2_12 W13 (Nat.ne_of_gt zq2)
  have V3_13 := own_A_other V3_12 W13 (Nat.ne_of_gt zq3)
  have V4_13 := own_A_other V4_12 W13 (Nat.ne_of_gt zq4)
  have V5_13 := own_A_other V5_12 W13 (Nat.ne_of_gt zq5)
  obtain ⟨T14, h14, k6, X14, e14, E14, A14, st14⟩ := newP X13 hx hZ (aty := .int) (hw _ (List.mem_of_getElem? (i := 0) rfl)) e13 (g := (mkF m 56 #[.val (.ref q)] [(.int (64 : Int32)), (.ref q)])) rfl (hb hby dc_56) rfl (by decide) (cap := 64) (by decide) (by decide) (by decide) (by decide)
  obtain ⟨b6, g6b⟩ : ∃ z, z = h13.size := ⟨_, rfl⟩
  rw [← g6b] at A14 st14
  have z6 : b5 < b6 := by rw [g6b]; exact (by rw [W13.size]; exact A12.lt)
  have Ee14 := Ee13.ext E14
  have Fe14 := own_F_ext E14 Fe13
  have P14 : Keep h0 h14 [q] := P13.ext E14
  have V0_14 := own_A_ext E14 V0_13
  have V1_14 := own_A_ext E14 V1_13
  have V2_14 := own_A_ext E14 V2_13
  have V3_14 := own_A_ext E14 V3_13
  have V4_14 := own_A_ext E14 V4_13
  have V5_14 := own_A_ext E14 V5_13
  have V6_14 : own_A Z h14 b6 k6 (own_ty 6) (own_P own_new 6) := own_A_new A14 (fun _ => rfl)
  have Fx15 : Fld Z h14 q "com/example/weaver_ant/weaverant/simulation/DepartureQueue" "widths" "[I" .null := Fe14 6 (by decide)
  obtain ⟨T15, h15, X15, e15, W15, st15⟩ := putF X14 hx hZ hown (host := "") (Or.inl (hw _ (List.mem_of_getElem? (i := 25) rfl))) Via.refl e14 Fx15 Ee14 (Or.inl (hw _ (List.mem_of_getElem? (i := 26) rfl))) (hw _ (List.mem_of_getElem? (i := 2) rfl)) (ty := own_dt 6) (by decide) rfl rfl (g := (mkF m 58 #[.val (.ref q)] [(.ref b6), (.ref q)])) rfl rfl (hb hby dc_58)
  have N15 := Fr.snoc X15 N13 g0
  have Ee15 := Ee14.wr W15
  have Fe15 := own_F_set hw Fe14 6 (by decide) W15
  have P15 : Keep h0 h15 [q] := P14.wr W15 (Or.inl List.mem_cons_self)
  have zq6 : q < b6 := Nat.lt_trans zq5 z6
  have V0_15 := own_A_other V0_14 W15 (Nat.ne_of_gt z0)
  have V1_15 := own_A_other V1_14 W15 (Nat.ne_of_gt zq1)
  have V2_15 := own_A_other V2_14 W15 (Nat.ne_of_gt zq2)
  have V3_15 := own_A_other V3_14 W15 (Nat.ne_of_gt zq3)
  have V4_15 := own_A_other V4_14 W15 (Nat.ne_of_gt zq4)
  have V5_15 := own_A_other V5_14 W15 (Nat.ne_of_gt zq5)
  have V6_15 := own_A_other V6_14 W15 (Nat.ne_of_gt zq6)
  obtain ⟨T16, h16, k7, X16, e16, E16, A16, Ex16, O7, st16⟩ := newRA X15 hx hZ (ty := .int) hown (C := "[I") (by decide) (hw _ (List.mem_of_getElem? (i := 19) rfl)) (hw _ (List.mem_of_getElem? (i := 20) rfl)) e15 (g := (mkF m 64 #[.val (.ref q)] [(.int (64 : Int32)), (.ref q)])) rfl (hb hby dc_64) rfl (by decide) (cap := 64) (by decide) (by decide) (by decide) (by decide) (ad := "[[I") (by decide)
  obtain ⟨b7, g7b⟩ : ∃ z, z = h15.size := ⟨_, rfl⟩
  rw [← g7b] at A16 st16
  have z7 : b6 < b7 := by rw [g7b]; exact (by rw [W15.size]; exact A14.lt)
  have Ee16 := Ee15.ext E16
  have Fe16 := own_F_ext E16 Fe15
  have P16 : Keep h0 h16 [q] := P15.ext E16
  have V0_16 := own_A_ext E16 V0_15
  have V1_16 := own_A_ext E16 V1_15
  have V2_16 := own_A_ext E16 V2_15
  have V3_16 := own_A_ext E16 V3_15
  have V4_16 := own_A_ext E16 V4_15
  have V5_16 := own_A_ext E16 V5_15
  have V6_16 := own_A_ext E16 V6_15
  have V7_16 : own_A Z h16 b7 k7 (own_ty 7) (own_P own_new 7) := own_A_new A16 (fun _ => rfl)
  have Fx17 : Fld Z h16 q "com/example/weaver_ant/weaverant/simulation/DepartureQueue" "backups" "[[I" .null := Fe16 7 (by decide)
  obtain ⟨T17, h17, X17, e17, W17, st17⟩ := putF X16 hx hZ hown (host := "") (Or.inl (hw _ (List.mem_of_getElem? (i := 27) rfl))) Via.refl e16 Fx17 Ee16 (Or.inl (hw _ (List.mem_of_getElem? (i := 28) rfl))) (hw _ (List.mem_of_getElem? (i := 2) rfl)) (ty := own_dt 7) (by decide) rfl rfl (g := (mkF m 67 #[.val (.ref q)] [(.ref b7), (.ref q)])) rfl rfl (hb hby dc_67)
  have N17 := Fr.snoc X17 N15 g0
  have Ee17 := Ee16.wr W17
  have Fe17 := own_F_set hw Fe16 7 (by decide) W17
  have P17 : Keep h0 h17 [q] := P16.wr W17 (Or.inl List.mem_cons_self)
  have zq7 : q < b7 := Nat.lt_trans zq6 z7
  have V0_17 := own_A_other V0_16 W17 (Nat.ne_of_gt z0)
  have V1_17 := own_A_other V1_16 W17 (Nat.ne_of_gt zq1)
  have V2_17 := own_A_other V2_16 W17 (Nat.ne_of_gt zq2)
  have V3_17 := own_A_other V3_16 W17 (Nat.ne_of_gt zq3)
  have V4_17 := own_A_other V4_16 W17 (Nat.ne_of_gt zq4)
  have V5_17 := own_A_other V5_16 W17 (Nat.ne_of_gt zq5)
  have V6_17 := own_A_other V6_16 W17 (Nat.ne_of_gt zq6)
  have V7_17 := own_A_other V7_16 W17 (Nat.ne_of_gt zq7)
  obtain ⟨T18, h18, k8, X18, e18, E18, A18, st18⟩ := newP X17 hx hZ (aty := .int) (hw _ (List.mem_of_getElem? (i := 0) rfl)) e17 (g := (mkF m 73 #[.val (.ref q)] [(.int (64 : Int32)), (.ref q)])) rfl (hb hby dc_73) rfl (by decide) (cap := 64) (by decide) (by decide) (by decide) (by decide)
  obtain ⟨b8, g8b⟩ : ∃ z, z = h17.size := ⟨_, rfl⟩
  rw [← g8b] at A18 st18
  have z8 : b7 < b8 := by rw [g8b]; exact (by rw [W17.size]; exact A16.lt)
  have Ee18 := Ee17.ext E18
  have Fe18 := own_F_ext E18 Fe17
  have P18 : Keep h0 h18 [q] := P17.ext E18
  have V0_18 := own_A_ext E18 V0_17
  have V1_18 := own_A_ext E18 V1_17
  have V2_18 := own_A_ext E18 V2_17
  have V3_18 := own_A_ext E18 V3_17
  have V4_18 := own_A_ext E18 V4_17
  have V5_18 := own_A_ext E18 V5_17
  have V6_18 := own_A_ext E18 V6_17
  have V7_18 := own_A_ext E18 V7_17
  have V8_18 : own_A Z h18 b8 k8 (own_ty 8) (own_P own_new 8) := own_A_new A18 (fun _ => rfl)
  have Fx19 : Fld Z h18 q "com/example/weaver_ant/weaverant/simulation/DepartureQueue" "backupStarts" "[I" .null := Fe18 8 (by decide)
  obtain ⟨T19, h19, X19, e19, W19, st19⟩ := putF X18 hx hZ hown (host := "") (Or.inl (hw _ (List.mem_of_getElem? (i := 29) rfl))) Via.refl e18 Fx19 Ee18 (Or.inl (hw _ (List.mem_of_getElem? (i := 30) rfl))) (hw _ (List.mem_of_getElem? (i := 2) rfl)) (ty := own_dt 8) (by decide) rfl rfl (g := (mkF m 75 #[.val (.ref q)] [(.ref b8), (.ref q)])) rfl rfl (hb hby dc_75)
  have N19 := Fr.snoc X19 N17 g0
  have Ee19 := Ee18.wr W19
  have Fe19 := own_F_set hw Fe18 8 (by decide) W19
  have P19 : Keep h0 h19 [q] := P18.wr W19 (Or.inl List.mem_cons_self)
  have zq8 : q < b8 := Nat.lt_trans zq7 z8
  have V0_19 := own_A_other V0_18 W19 (Nat.ne_of_gt z0)
  have V1_19 := own_A_other V1_18 W19 (Nat.ne_of_gt zq1)
  have V2_19 := own_A_other V2_18 W19 (Nat.ne_of_gt zq2)
  have V3_19 := own_A_other V3_18 W19 (Nat.ne_of_gt zq3)
  have V4_19 := own_A_other V4_18 W19 (Nat.ne_of_gt zq4)
  have V5_19 := own_A_other V5_18 W19 (Nat.ne_of_gt zq5)
  have V6_19 := own_A_other V6_18 W19 (Nat.ne_of_gt zq6)
  have V7_19 := own_A_other V7_18 W19 (Nat.ne_of_gt zq7)
  have V8_19 := own_A_other V8_18 W19 (Nat.ne_of_gt zq8)
  obtain ⟨T20, h20, k9, X20, e20, E20, A20, st20⟩ := newP X19 hx hZ (aty := .int) (hw _ (List.mem_of_getElem? (i := 0) rfl)) e19 (g := (mkF m 81 #[.val (.ref q)] [(.int (64 : Int32)), (.ref q)])) rfl (hb hby dc_81) rfl (by decide) (cap := 64) (by decide) (by decide) (by decide) (by decide)
  obtain ⟨b9, g9b⟩ : ∃ z, z = h19.size := ⟨_, rfl⟩
  rw [← g9b] at A20 st20
  have z9 : b8 < b9 := by rw [g9b]; exact (by rw [W19.size]; exact A18.lt)
  have Ee20 := Ee19.ext E20
  have Fe20 := own_F_ext E20 Fe19
  have P20 : Keep h0 h20 [q] := P19.ext E20
  have V0_20 := own_A_ext E20 V0_19
  have V1_20 := own_A_ext E20 V1_19
  have V2_20 := own_A_ext E20 V2_19
  have V3_20 := own_A_ext E20 V3_19
  have V4_20 := own_A_ext E20 V4_19
  have V5_20 := own_A_ext E20 V5_19
  have V6_20 := own_A_ext E20 V6_19
  have V7_20 := own_A_ext E20 V7_19
  have V8_20 := own_A_ext E20 V8_19
  have V9_20 : own_A Z h20 b9 k9 (own_ty 9) (own_P own_new 9) := own_A_new A20 (fun _ => rfl)
  have Fx21 : Fld Z h20 q "com/example/weaver_ant/weaverant/simulation/DepartureQueue" "backupWidths" "[I" .null := Fe20 9 (by decide)
  obtain ⟨T21, h21, X21, e21, W21, st21⟩ := putF X20 hx hZ hown (host := "") (Or.inl (hw _ (List.mem_of_getElem? (i := 31) rfl))) Via.refl e20 Fx21 Ee20 (Or.inl (hw _ (List.mem_of_getElem? (i := 32) rfl))) (hw _ (List.mem_of_getElem? (i := 2) rfl)) (ty := own_dt 9) (by decide) rfl rfl (g := (mkF m 83 #[.val (.ref q)] [(.ref b9), (.ref q)])) rfl rfl (hb hby dc_83)
  have N21 := Fr.snoc X21 N19 g0
  have Ee21 := Ee20.wr W21
  have Fe21 := own_F_set hw Fe20 9 (by decide) W21
  have P21 : Keep h0 h21 [q] := P20.wr W21 (Or.inl List.mem_cons_self)
  have zq9 : q < b9 := Nat.lt_trans zq8 z9
  have V0_21 := own_A_other V0_20 W21 (Nat.ne_of_gt z0)
  have V1_21 := own_A_other V1_20 W21 (Nat.ne_of_gt zq1)
  have V2_21 := own_A_other V2_20 W21 (Nat.ne_of_gt zq2)
  have V3_21 := own_A_other V3_20 W21 (Nat.ne_of_gt zq3)
  have V4_21 := own_A_other V4_20 W21 (Nat.ne_of_gt zq4)
  have V5_21 := own_A_other V5_20 W21 (Nat.ne_of_gt zq5)
  have V6_21 := own_A_other V6_20 W21 (Nat.ne_of_gt zq6)
  have V7_21 := own_A_other V7_20 W21 (Nat.ne_of_gt zq7)
  have V8_21 := own_A_other V8_20 W21 (Nat.ne_of_gt zq8)
  have V9_21 := own_A_other V9_20 W21 (Nat.ne_of_gt zq9)
  obtain ⟨T22, h22, k10, X22, e22, E22, A22, st22⟩ := newP X21 hx hZ (aty := .int) (hw _ (List.mem_of_getElem? (i := 0) rfl)) e21 (g := (mkF m 89 #[.val (.ref q)] [(.int (64 : Int32)), (.ref q)])) rfl (hb hby dc_89) rfl (by decide) (cap := 64) (by decide) (by decide) (by decide) (by decide)
  obtain ⟨b10, g10b⟩ : ∃ z, z = h21.size := ⟨_, rfl⟩
  rw [← g10b] at A22 st22
  have z10 : b9 < b10 := by rw [g10b]; exact (by rw [W21.size]; exact A20.lt)
  have Ee22 := Ee21.ext E22
  have Fe22 := own_F_ext E22 Fe21
  have P22 : Keep h0 h22 [q] := P21.ext E22
  have V0_22 := own_A_ext E22 V0_21
  have V1_22 := own_A_ext E22 V1_21
  have V2_22 := own_A_ext E22 V2_21
  have V3_22 := own_A_ext E22 V3_21
  have V4_22 := own_A_ext E22 V4_21
  have V5_22 := own_A_ext E22 V5_21
  have V6_22 := own_A_ext E22 V6_21
  have V7_22 := own_A_ext E22 V7_21
  have V8_22 := own_A_ext E22 V8_21
  have V9_22 := own_A_ext E22 V9_21
  have Fx23 : Fld Z h22 q "com/example/weaver_ant/weaverant/simulation/DepartureQueue" "freeSlots" "[I" .null := Fe22 10 (by decide)
  obtain ⟨T23, h23, X23, e23, W23, st23⟩ := putF X22 hx hZ hown (host := "") (Or.inl (hw _ (List.mem_of_getElem? (i := 33) rfl))) Via.refl e22 Fx23 Ee22 (Or.inl (hw _ (List.mem_of_getElem? (i := 34) rfl))) (hw _ (List.mem_of_getElem? (i := 2) rfl)) (ty := own_dt 10) (by decide) rfl rfl (g := (mkF m 91 #[.val (.ref q)] [(.ref b10), (.ref q)])) rfl rfl (hb hby dc_91)
  have N23 := Fr.snoc X23 N21 g0
  have Ee23 := Ee22.wr W23
  have Fe23 := own_F_set hw Fe22 10 (by decide) W23
  have P23 : Keep h0 h23 [q] := P22.wr W23 (Or.inl List.mem_cons_self)
  have V0_23 := own_A_other V0_22 W23 (Nat.ne_of_gt z0)
  have V1_23 := own_A_other V1_22 W23 (Nat.ne_of_gt zq1)
  have V2_23 := own_A_other V2_22 W23 (Nat.ne_of_gt zq2)
  have V3_23 := own_A_other V3_22 W23 (Nat.ne_of_gt zq3)
  have V4_23 := own_A_other V4_22 W23 (Nat.ne_of_gt zq4)
  have V5_23 := own_A_other V5_22 W23 (Nat.ne_of_gt zq5)
  have V6_23 := own_A_other V6_22 W23 (Nat.ne_of_gt zq6)
  have V7_23 := own_A_other V7_22 W23 (Nat.ne_of_gt zq7)
  have V8_23 := own_A_other V8_22 W23 (Nat.ne_of_gt zq8)
  have V9_23 := own_A_other V9_22 W23 (Nat.ne_of_gt zq9)
  have hD : own_D q (own_ad b0 b1 b2 b3 b4 b5 b6 b7 b8 b9 b10) n0 := own_D_of g0 z0 (fun i hi => by
    match i, hi with
    | 0, _ => exact z1
    | 1, _ => exact z2
    | 2, _ => exact z3
    | 3, _ => exact z4
    | 4, _ => exact z5
    | 5, _ => exact z6
    | 6, _ => exact z7
    | 7, _ => exact z8
    | 8, _ => exact z9
    | i + 9, h => exact absurd h (by omega))
  have hF : own_F Z h23 q (own_val (own_ad b0 b1 b2 b3 b4 b5 b6 b7 b8 b9 b10) 0) := fun i hi => by
    match i, hi with
    | 0, _ => exact Fe23 0 (by decide)
    | 1, _ => exact Fe23 1 (by decide)
    | 2, _ => exact Fe23 2 (by decide)
    | 3, _ => exact Fe23 3 (by decide)
    | 4, _ => exact Fe23 4 (by decide)
    | 5, _ => exact Fe23 5 (by decide)
    | 6, _ => exact Fe23 6 (by decide)
    | 7, _ => exact Fe23 7 (by decide)
    | 8, _ => exact Fe23 8 (by decide)
    | 9, _ => exact Fe23 9 (by decide)
    | 10, _ => exact Fe23 10 (by decide)
    | 11, _ => exact Fe23 11 (by decide)
    | 12, _ => exact Fe23 12 (by decide)
    | i + 13, h => exact absurd h (by omega)
  have hA : own_As Z h23 (own_ad b0 b1 b2 b3 b4 b5 b6 b7 b8 b9 b10) (own_ad k0 k1 k2 k3 k4 k5 k6 k7 k8 k9 k10) own_new := fun i hi => by
    match i, hi with
    | 0, _ => exact V0_23
    | 1, _ => exact V1_23
    | 2, _ => exact V2_23
    | 3, _ => exact V3_23
    | 4, _ => exact V4_23
    | 5, _ => exact V5_23
    | 6, _ => exact V6_23
    | 7, _ => exact V7_23
    | 8, _ => exact V8_23
    | 9, _ => exact V9_23
    | i + 10, h => exact absurd h (by omega)
  obtain ⟨fs, hr, hrun, hended, hW, hsame⟩ := X23.leave (v := none) (fun _ => rfl)
  refine ⟨_, _, pre0 _ ?_, hrun, hended, _, _, rfl, ?_, ⟨_, rfl⟩, hW, hsame.mono (by decide) (by decide)⟩
  · show Steps p.tables e below (s₁.setTop (mkF m 0 #[.val (.ref q)] [])) _
    refine XS.aloadN X0.here hx rfl (hb hby dc_0) rfl rfl ?_
    show Steps p.tables e below (s₁.setTop (mkF m 1 #[.val (.ref q)] [(.ref q)])) _
    refine st1 _ ?_
    show Steps p.tables e below (T1.setTop (mkF m 4 #[.val (.ref q)] [])) _
    refine XS.aloadN X1.here hx rfl (hb hby dc_4) rfl rfl ?_
    show Steps p.tables e below (T1.setTop (mkF m 5 #[.val (.ref q)] [(.ref q)])) _
    refine XS.bipush X1.here hx rfl (hb hby dc_5) ?_
    show Steps p.tables e below (T1.setTop (mkF m 7 #[.val (.ref q)] [(.int (64 : Int32)), (.ref q)])) _
    refine st2 _ ?_
    show Steps p.tables e below (T2.setTop (mkF m 9 #[.val (.ref q)] [(.ref b0), (.ref q)])) _
    refine st3 _ ?_
    show Steps p.tables e below (T3.setTop (mkF m 12 #[.val (.ref q)] [])) _
    refine XS.aloadN X3.here hx rfl (hb hby dc_12) rfl rfl ?_
    show Steps p.tables e below (T3.setTop (mkF m 13 #[.val (.ref q)] [(.ref q)])) _
    refine XS.bipush X3.here hx rfl (hb hby dc_13) ?_
    show Steps p.tables e below (T3.setTop (mkF m 15 #[.val (.ref q)] [(.int (64 : Int32)), (.ref q)])) _
    refine st4 _ ?_
    show Steps p.tables e below (T4.setTop (mkF m 17 #[.val (.ref q)] [(.ref b1), (.ref q)])) _
    refine st5 _ ?_
    show Steps p.tables e below (T5.setTop (mkF m 20 #[.val (.ref q)] [])) _
    refine XS.aloadN X5.here hx rfl (hb hby dc_20) rfl rfl ?_
    show Steps p.tables e below (T5.setTop (mkF m 21 #[.val (.ref q)] [(.ref q)])) _
    refine XS.bipush X5.here hx rfl (hb hby dc_21) ?_
    show Steps p.tables e below (T5.setTop (mkF m 23 #[.val (.ref q)] [(.int (64 : Int32)), (.ref q)])) _
    refine st6 _ ?_
    show Steps p.tables e below (T6.setTop (mkF m 25 #[.val (.ref q)] [(.ref b2), (.ref q)])) _
    refine st7 _ ?_
    show Steps p.tables e below (T7.setTop (mkF m 28 #[.val (.ref q)] [])) _
    refine XS.aloadN X7.here hx rfl (hb hby dc_28) rfl rfl ?_
    show Steps p.tables e below (T7.setTop (mkF m 29 #[.val (.ref q)] [(.ref q)])) _
    refine XS.bipush X7.here hx rfl (hb hby dc_29) ?_
    show Steps p.tables e below (T7.setTop (mkF m 31 #[.val (.ref q)] [(.int (64 : Int32)), (.ref q)])) _
    refine st8 _ ?_
    show Steps p.tables e below (T8.setTop (mkF m 33 #[.val (.ref q)] [(.ref b3), (.ref q)])) _
    refine st9 _ ?_
    show Steps p.tables e below (T9.setTop (mkF m 36 #[.val (.ref q)] [])) _
    refine XS.aloadN X9.here hx rfl (hb hby dc_36) rfl rfl ?_
    show Steps p.tables e below (T9.setTop (mkF m 37 #[.val (.ref q)] [(.ref q)])) _
    refine XS.bipush X9.here hx rfl (hb hby dc_37) ?_
    show Steps p.tables e below (T9.setTop (mkF m 39 #[.val (.ref q)] [(.int (64 : Int32)), (.ref q)])) _
    refine st10 _ ?_
    show Steps p.tables e below (T10.setTop (mkF m 42 #[.val (.ref q)] [(.ref b4), (.ref q)])) _
    refine st11 _ ?_
    show Steps p.tables e below (T11.setTop (mkF m 45 #[.val (.ref q)] [])) _
    refine XS.aloadN X11.here hx rfl (hb hby dc_45) rfl rfl ?_
    show Steps p.tables e below (T11.setTop (mkF m 46 #[.val (.ref q)] [(.ref q)])) _
    refine XS.bipush X11.here hx rfl (hb hby dc_46) ?_
    show Steps p.tables e below (T11.setTop (mkF m 48 #[.val (.ref q)] [(.int (64 : Int32)), (.ref q)])) _
    refine st12 _ ?_
    show Steps p.tables e below (T12.setTop (mkF m 50 #[.val (.ref q)] [(.ref b5), (.ref q)])) _
    refine st13 _ ?_
    show Steps p.tables e below (T13.setTop (mkF m 53 #[.val (.ref q)] [])) _
    refine XS.aloadN X13.here hx rfl (hb hby dc_53) rfl rfl ?_
    show Steps p.tables e below (T13.setTop (mkF m 54 #[.val (.ref q)] [(.ref q)])) _
    refine XS.bipush X13.here hx rfl (hb hby dc_54) ?_
    show Steps p.tables e below (T13.setTop (mkF m 56 #[.val (.ref q)] [(.int (64 : Int32)), (.ref q)])) _
    refine st14 _ ?_
    show Steps p.tables e below (T14.setTop (mkF m 58 #[.val (.ref q)] [(.ref b6), (.ref q)])) _
    refine st15 _ ?_
    show Steps p.tables e below (T15.setTop (mkF m 61 #[.val (.ref q)] [])) _
    refine XS.aloadN X15.here hx rfl (hb hby dc_61) rfl rfl ?_
    show Steps p.tables e below (T15.setTop (mkF m 62 #[.val (.ref q)] [(.ref q)])) _
    refine XS.bipush X15.here hx rfl (hb hby dc_62) ?_
    show Steps p.tables e below (T15.setTop (mkF m 64 #[.val (.ref q)] [(.int (64 : Int32)), (.ref q)])) _
    refine st16 _ ?_
    show Steps p.tables e below (T16.setTop (mkF m 67 #[.val (.ref q)] [(.ref b7), (.ref q)])) _
    refine st17 _ ?_
    show Steps p.tables e below (T17.setTop (mkF m 70 #[.val (.ref q)] [])) _
    refine XS.aloadN X17.here hx rfl (hb hby dc_70) rfl rfl ?_
    show Steps p.tables e below (T17.setTop (mkF m 71 #[.val (.ref q)] [(.ref q)])) _
    refine XS.bipush X17.here hx rfl (hb hby dc_71) ?_
    show Steps p.tables e below (T17.setTop (mkF m 73 #[.val (.ref q)] [(.int (64 : Int32)), (.ref q)])) _
    refine st18 _ ?_
    show Steps p.tables e below (T18.setTop (mkF m 75 #[.val (.ref q)] [(.ref b8), (.ref q)])) _
    refine st19 _ ?_
    show Steps p.tables e below (T19.setTop (mkF m 78 #[.val (.ref q)] [])) _
    refine XS.aloadN X19.here hx rfl (hb hby dc_78) rfl rfl ?_
    show Steps p.tables e below (T19.setTop (mkF m 79 #[.val (.ref q)] [(.ref q)])) _
    refine XS.bipush X19.here hx rfl (hb hby dc_79) ?_
    show Steps p.tables e below (T19.setTop (mkF m 81 #[.val (.ref q)] [(.int (64 : Int32)), (.ref q)])) _
    refine st20 _ ?_
    show Steps p.tables e below (T20.setTop (mkF m 83 #[.val (.ref q)] [(.ref b9), (.ref q)])) _
    refine st21 _ ?_
    show Steps p.tables e below (T21.setTop (mkF m 86 #[.val (.ref q)] [])) _
    refine XS.aloadN X21.here hx rfl (hb hby dc_86) rfl rfl ?_
    show Steps p.tables e below (T21.setTop (mkF m 87 #[.val (.ref q)] [(.ref q)])) _
    refine XS.bipush X21.here hx rfl (hb hby dc_87) ?_
    show Steps p.tables e below (T21.setTop (mkF m 89 #[.val (.ref q)] [(.int (64 : Int32)), (.ref q)])) _
    refine st22 _ ?_
    show Steps p.tables e below (T22.setTop (mkF m 91 #[.val (.ref q)] [(.ref b10), (.ref q)])) _
    refine st23 _ ?_
    show Steps p.tables e below (T23.setTop (mkF m 94 #[.val (.ref q)] [])) _
    exact X23.returnOut hx Bd.returns (hb hby dc_94) hr
  · show own_I Z q h0 n0 _ T23.heap _
    rw [e23]
    exact ⟨rfl, N23, P23, own_ad b0 b1 b2 b3 b4 b5 b6 b7 b8 b9 b10, own_ad k0 k1 k2 k3 k4 k5 k6 k7 k8 k9 k10, hD, ⟨Ee23, hF, hA⟩, O4, O7⟩
def own_L (n0 : Nat) (v : Option Value) (h : Heap) (L : List Loc) : Prop := v = some (.int (1 : Int32)) ∧ Fr n0 L
theorem own_bit (y : Int32) : y &&& (1 : Int32) = 0 ∨ y &&& (1 : Int32) = 1 := by
  have h := c_and y 1 (by decide)
  have e1 : (1 : Int32).toInt = 1 := rfl
  rw [e1] at h
  have h2 : (y &&& 1).toInt = 0 ∨ (y &&& 1).toInt = 1 := by omega
  rcases h2 with h2 | h2
  · exact Or.inl (Int32.toInt_inj.mp h2)
  · exact Or.inr (Int32.toInt_inj.mp h2)
theorem own_z0 : (0 : Int32).toNatClampNeg = 0 := by decide
theorem own_z1 : (1 : Int32).toNatClampNeg = 1 := by decide
theorem own_01 : (0 : Int32) + 1 = 1 := by decide
theorem own_s0 : (1 : Int32) - 0 = 1 := by decide
theorem own_s1 : (1 : Int32) - 1 = 0 := by decide
theorem ef_rmL (m : MethodId) (x0 : Int32) (x1 : Int32) (x2 : Int32) (x3 : Int32) (x4 : Int32) (x5 : Int32) : entryFrame m #[(.int x0), (.int x1), (.int x2), (.int x3), (.int x4), (.int x5)] maxLocals = mkF m 0 #[.val (.int x0), .val (.int x1), .val (.int x2), .val (.int x3), .val (.int x4), .val (.int x5), .unset, .unset, .unset, .unset, .unset, .unset, .unset, .unset, .unset, .unset, .unset, .unset] [] := by first | (simp [entryFrame, mkF, argsToLocals, Value.category, maxLocals]; done) | rfl
set_option maxRecDepth 65536 in
set_option maxHeartbeats 40000000 in
theorem rmL (l : Launch) (Z : State) (a0 : Array Value) (hw : ∀ d ∈ tables_1, d.before a0 Z = true) (ws : List Jvm.Cond) (i0 i1 i2 i3 i4 i5 : Int32) (h0 : Heap) (n0 : Nat) (Z0 : n0 ≤ h0.size) :
    MetFree l x (head1 (Jvm.Cond.code x code maxLocals ret :: ws) room_1) (fun a U => a = #[(.int i0), (.int i1), (.int i2), (.int i3), (.int i4), (.int i5)] ∧ Z.Warmed39 U.vm ∧ U.heap = h0) (fun _ _ _ _ _ => True) (fun _ U o U' => ∃ v L, o = .returned v ∧ own_L n0 v U'.heap L ∧ FrameEnd U o U' L room_1.cells room_1.slots) := by
  refine MetFree.of_bodySF (plainFor_of_name pn_0) hisR ?_
  intro p e s m args below meth c s₁ Bd hml0 hP hK
  obtain ⟨rfl, hZ, hh⟩ := hP
  have hx := Bd.exec
  have hby := Bd.bytes
  have hml : c.maxLocals = 18 := hml0
  have hown : s.vm.findClass "com/example/weaver_ant/weaverant/simulation/DepartureQueueSwitchToBackupPinLaw" = some m.cls := findClass_of_methodNamed Bd.named
  have X0 : Stand p l e room_1 s m #[(.int i0), (.int i1), (.int i2), (.int i3), (.int i4), (.int i5)] below meth c s₁ [] 0 0 := Stand.of_body Bd
  have e0 : s₁.heap = h0 := by rw [← hh, Bd.state]; rfl
  have N0 := Fr.nil n0
  have pre0 : ∀ t, Steps p.tables e below (s₁.setTop (mkF m 0 #[.val (.int i0), .val (.int i1), .val (.int i2), .val (.int i3), .val (.int i4), .val (.int i5), .unset, .unset, .unset, .unset, .unset, .unset, .unset, .unset, .unset, .unset, .unset, .unset] [])) t → Steps p.tables e below (s₁.setTop (entryFrame m #[(.int i0), (.int i1), (.int i2), (.int i3), (.int i4), (.int i5)] maxLocals)) t := fun t kt => castTop (ef_rmL m i0 i1 i2 i3 i4 i5) kt
  obtain ⟨T1, h1, k1, X1, e1, E1, A1, Ex1, st1⟩ := newPE X0 hx hZ (aty := .int) (hw _ (List.mem_of_getElem? (i := 0) rfl)) e0 (g := (mkF m 1 #[.val (.int i0), .val (.int i1), .val (.int i2), .val (.int i3), .val (.int i4), .val (.int i5), .unset, .unset, .unset, .unset, .unset, .unset, .unset, .unset, .unset, .unset, .unset, .unset] [(.int (1 : Int32))])) rfl (hb hby at_1) rfl (by decide) (cap := 1) (by decide) (by decide) (by decide) (by decide) (ad := "[I") (by decide)
  obtain ⟨r0, gr0⟩ : ∃ z, z = h0.size := ⟨_, rfl⟩
  rw [← gr0] at A1 Ex1 st1
  have qr0 : n0 ≤ r0 := Nat.le_trans Z0 (Nat.le_of_eq gr0.symm)
  have Z1 : n0 ≤ h1.size := Nat.le_trans Z0 E1.1
  obtain ⟨T2, h2, X2, e2, W2, st2⟩ := stI X1 hx hZ e1 A1 (j := (0 : Int32)) (by rw [sz_new]; decide) (g := (mkF m 6 #[.val (.int i0), .val (.int i1), .val (.int i2), .val (.int i3), .val (.int i4), .val (.int i5), .unset, .unset, .unset, .unset, .unset, .unset, .unset, .unset, .unset, .unset, .unset, .unset] [(.int (1 : Int32)), (.int (0 : Int32)), (.ref r0), (.ref r0)])) rfl rfl (hb hby at_6)
  have N2 := Fr.snoc X2 N0 qr0
  have Z2 : n0 ≤ h2.size := by rw [W2.size]; exact Z1
  have Er0_2 := Ex1.wr W2
  obtain ⟨T3, h3, k3, X3, e3, E3, A3, Ex3, st3⟩ := newPE X2 hx hZ (aty := .int) (hw _ (List.mem_of_getElem? (i := 0) rfl)) e2 (g := (mkF m 10 #[.val (.int i0), .val (.int i1), .val (.int i2), .val (.int i3), .val (.int i4), .val (.int i5), .val (.ref r0), .unset, .unset, .unset, .unset, .unset, .unset, .unset, .unset, .unset, .unset, .unset] [(.int (1 : Int32))])) rfl (hb hby at_10) rfl (by decide) (cap := 1) (by decide) (by decide) (by decide) (by decide) (ad := "[I") (by decide)
  obtain ⟨b0, gb0⟩ : ∃ z, z = h2.size := ⟨_, rfl⟩
  rw [← gb0] at A3 Ex3 st3
  have qb0 : n0 ≤ b0 := Nat.le_trans Z2 (Nat.le_of_eq gb0.symm)
  have Z3 : n0 ≤ h3.size := Nat.le_trans Z2 E3.1
  have Er0_3 := Er0_2.ext E3
  obtain ⟨T4, h4, X4, e4, W4, st4⟩ := stI X3 hx hZ e3 A3 (j := (0 : Int32)) (by rw [sz_new]; decide) (g := (mkF m 15 #[.val (.int i0), .val (.int i1), .val (.int i2), .val (.int i3), .val (.int i4), .val (.int i5), .val (.ref r0), .unset, .unset, .unset, .unset, .unset, .unset, .unset, .unset, .unset, .unset, .unset] [(.int (2 : Int32)), (.int (0 : Int32)), (.ref b0), (.ref b0)])) rfl rfl (hb hby at_15)
  have N4 := Fr.snoc X4 N2 qb0
  have Z4 : n0 ≤ h4.size := by rw [W4.size]; exact Z3
  have Er0_4 := Er0_3.wr W4
  have Eb0_4 := Ex3.wr W4
  obtain ⟨T5, h5, k5, X5, e5, E5, A5, Ex5, st5⟩ := newPE X4 hx hZ (aty := .int) (hw _ (List.mem_of_getElem? (i := 0) rfl)) e4 (g := (mkF m 19 #[.val (.int i0), .val (.int i1), .val (.int i2), .val (.int i3), .val (.int i4), .val (.int i5), .val (.ref r0), .val (.ref b0), .unset, .unset, .unset, .unset, .unset, .unset, .unset, .unset, .unset, .unset] [(.int (1 : Int32))])) rfl (hb hby at_19) rfl (by decide) (cap := 1) (by decide) (by decide) (by decide) (by decide) (ad := "[I") (by decide)
  obtain ⟨r1, gr1⟩ : ∃ z, z = h4.size := ⟨_, rfl⟩
  rw [← gr1] at A5 Ex5 st5
  have qr1 : n0 ≤ r1 := Nat.le_trans Z4 (Nat.le_of_eq gr1.symm)
  have Z5 : n0 ≤ h5.size := Nat.le_trans Z4 E5.1
  have Er0_5 := Er0_4.ext E5
  have Eb0_5 := Eb0_4.ext E5
  obtain ⟨T6, h6, X6, e6, W6, st6⟩ := stI X5 hx hZ e5 A5 (j := (0 : Int32)) (by rw [sz_new]; decide) (g := (mkF m 24 #[.val (.int i0), .val (.int i1), .val (.int i2), .val (.int i3), .val (.int i4), .val (.int i5), .val (.ref r0), .val (.ref b0), .unset, .unset, .unset, .unset, .unset, .unset, .unset, .unset, .unset, .unset] [(.int (3 : Int32)), (.int (0 : Int32)), (.ref r1), (.ref r1)])) rfl rfl (hb hby at_24)
  have N6 := Fr.snoc X6 N4 qr1
  have Z6 : n0 ≤ h6.size := by rw [W6.size]; exact Z5
  have Er0_6 := Er0_5.wr W6
  have Eb0_6 := Eb0_5.wr W6
  have Er1_6 := Ex5.wr W6
  obtain ⟨T7, h7, k7, X7, e7, E7, A7, Ex7, st7⟩ := newPE X6 hx hZ (aty := .int) (hw _ (List.mem_of_getElem? (i := 0) rfl)) e6 (g := (mkF m 28 #[.val (.int i0), .val (.int i1), .val (.int i2), .val (.int i3), .val (.int i4), .val (.int i5), .val (.ref r0), .val (.ref b0), .val (.ref r1), .unset, .unset, .unset, .unset, .unset, .unset, .unset, .unset, .unset] [(.int (1 : Int32))])) rfl (hb hby at_28) rfl (by decide) (cap := 1) (by decide) (by decide) (by decide) (by decide) (ad := "[I") (by decide)
  obtain ⟨b1, gb1⟩ : ∃ z, z = h6.size := ⟨_, rfl⟩
  rw [← gb1] at A7 Ex7 st7
  have qb1 : n0 ≤ b1 := Nat.le_trans Z6 (Nat.le_of_eq gb1.symm)
  have Z7 : n0 ≤ h7.size := Nat.le_trans Z6 E7.1
  have Er0_7 := Er0_6.ext E7
  have Eb0_7 := Eb0_6.ext E7
  have Er1_7 := Er1_6.ext E7
  obtain ⟨T8, h8, X8, e8, W8, st8⟩ := stI X7 hx hZ e7 A7 (j := (0 : Int32)) (by rw [sz_new]; decide) (g := (mkF m 33 #[.val (.int i0), .val (.int i1), .val (.int i2), .val (.int i3), .val (.int i4), .val (.int i5), .val (.ref r0), .val (.ref b0), .val (.ref r1), .unset, .unset, .unset, .unset, .unset, .unset, .unset, .unset, .unset] [(.int (4 : Int32)), (.int (0 : Int32)), (.ref b1), (.ref b1)])) rfl rfl (hb hby at_33)
  have N8 := Fr.snoc X8 N6 qb1
  have Z8 : n0 ≤ h8.size := by rw [W8.size]; exact Z7
  have Er0_8 := Er0_7.wr W8
  have Eb0_8 := Eb0_7.wr W8
  have Er1_8 := Er1_7.wr W8
  have Eb1_8 := Ex7.wr W8
  obtain ⟨T9, h9, X9, e9, E9, A9, D9, -, st9⟩ := newO X8 hx hZ hown (hw _ (List.mem_of_getElem? (i := 1) rfl)) (hw _ (List.mem_of_getElem? (i := 2) rfl)) (hw _ (List.mem_of_getElem? (i := 3) rfl)) e8 (g := (mkF m 36 #[.val (.int i0), .val (.int i1), .val (.int i2), .val (.int i3), .val (.int i4), .val (.int i5), .val (.ref r0), .val (.ref b0), .val (.ref r1), .val (.ref b1), .unset, .unset, .unset, .unset, .unset, .unset, .unset, .unset] [])) rfl (hb hby at_36) (by decide) (by decide)
  obtain ⟨q, gq⟩ : ∃ z, z = h8.size := ⟨_, rfl⟩
  rw [← gq] at A9 D9 st9
  have qq : n0 ≤ q := Nat.le_trans Z8 (Nat.le_of_eq gq.symm)
  have Fq : own_F Z h9 q (fun i => defaultValue (own_dt i)) := fun i hi => D9 (own_laid hw i hi) (own_parse i hi)
  have Er0_9 := Er0_8.ext E9
  have Eb0_9 := Eb0_8.ext E9
  have Er1_9 := Er1_8.ext E9
  have Eb1_9 := Eb1_8.ext E9
  obtain ⟨_, _, ⟨T10, L10, k10, n10⟩, -, X10, ⟨Lc10, hQ10, l10, y10, z10⟩, st10⟩ := X9.specialBack hx (y := (⟨"com/example/weaver_ant/weaverant/simulation/DepartureQueue", "<init>", "()V"⟩ : MethodName)) rfl hown (mvT hZ (hw _ (List.mem_of_getElem? (i := 4) rfl))) (mvT hZ (hw _ (List.mem_of_getElem? (i := 5) rfl))) (mvT hZ (hw _ (List.mem_of_getElem? (i := 6) rfl))) (by decide) (backOf (W := 1) (rmC l Z a0 hw [] q h9 n0 A9 Fq qq) hZ (hw _ (List.mem_of_getElem? (i := 6) rfl)) (hw _ (List.mem_of_getElem? (i := 3) rfl)) (by decide) (by decide)) (g := (mkF m 40 #[.val (.int i0), .val (.int i1), .val (.int i2), .val (.int i3), .val (.int i4), .val (.int i5), .val (.ref r0), .val (.ref b0), .val (.ref r1), .val (.ref b1), .unset, .unset, .unset, .unset, .unset, .unset, .unset, .unset] [(.ref q), (.ref q)])) rfl (by rw [hml]; rfl) (Steps.refl _) (a := q) (argsL := []) (rest := [(.ref q)]) (lenOf pd_I rfl) rfl (by show 2 * 0 + _ ≤ _; exact Nat.le_of_eq rfl) (hb hby at_40) (fun _ _ => ⟨rfl, e9, (by decide : 5 + 11 ≤ _), (by decide : 17 + 704 ≤ _)⟩)
  dsimp only [Pt.U, Pt.locs, Pt.cells, Pt.slots] at X10 l10 y10 z10 st10 hQ10
  subst l10 y10 z10
  obtain ⟨rfl, M10, Kq10, ad, kk, hD, Q10, O4, O7⟩ := hQ10
  have N10 := Fr.app N8 M10
  have Er0_10 := Er0_9.keep Kq10
  have Eb0_10 := Eb0_9.keep Kq10
  have Er1_10 := Er1_9.keep Kq10
  have Eb1_10 := Eb1_9.keep Kq10
  obtain ⟨d1, hd1⟩ : ∃ d, FP.i2d (i5 &&& (7 : Int32)) = d := ⟨_, rfl⟩
  obtain ⟨cq11, kq11, q11a, q11b, q11c⟩ := isOf hZ (rfl) Q10.1
  obtain ⟨_, _, ⟨T11, L11, k11, n11⟩, -, X11, ⟨Lc11, hQ11, l11, y11, z11⟩, st11⟩ := X10.virtualBack hx (y := (⟨"com/example/weaver_ant/weaverant/simulation/DepartureQueue", "add", "(DI[III[III)V"⟩ : MethodName)) (z := (⟨"com/example/weaver_ant/weaverant/simulation/DepartureQueue", "add", "(DI[III[III)V"⟩ : MethodName)) hown (mvT hZ (hw _ (List.mem_of_getElem? (i := 35) rfl))) (mvT hZ (hw _ (List.mem_of_getElem? (i := 36) rfl))) (notFace_of_selects (args := #[]) (mvT hZ (hw _ (List.mem_of_getElem? (i := 38) rfl)))) (mvT hZ (hw _ (List.mem_of_getElem? (i := 38) rfl))) (mvT hZ (hw _ (List.mem_of_getElem? (i := 37) rfl))) (by decide) (backOf (W := 0) (rmA l Z a0 hw [] q ad kk 0 own_new d1 i4 r0 i0 i1 b0 i2 i3 T10.heap n0 hD Q10 (Or.inl rfl) Er0_10 Eb0_10 O4 O7) hZ (hw _ (List.mem_of_getElem? (i := 39) rfl)) (hw _ (List.mem_of_getElem? (i := 3) rfl)) (by decide) (by decide)) q11a q11c (g := (mkF m 63 #[.val (.int i0), .val (.int i1), .val (.int i2), .val (.int i3), .val (.int i4), .val (.int i5), .val (.ref r0), .val (.ref b0), .val (.ref r1), .val (.ref b1), .val (.ref q), .unset, .unset, .unset, .unset, .unset, .unset, .unset] [(.int i3), (.int i2), (.ref b0), (.int i1), (.int i0), (.ref r0), (.int i4), (.double d1), (.ref q)])) rfl (by rw [hml]; rfl) (Steps.refl _) (argsL := [(.double d1), (.int i4), (.ref r0), (.int i0), (.int i1), (.ref b0), (.int i2), (.int i3)]) (rest := []) (lenOf pd_a rfl) rfl (by show 2 * 0 + _ ≤ _; exact Nat.le_of_eq rfl) (hb hby at_63) (fun _ _ => ⟨rfl, (rfl), (by decide : 16 + 0 ≤ _), (by decide : 721 + 0 ≤ _)⟩)
  dsimp only [Pt.U, Pt.locs, Pt.cells, Pt.slots] at X11 l11 y11 z11 st11 hQ11
  subst l11 y11 z11
  obtain ⟨rfl, M11, Kq11, Q11⟩ := hQ11
  have N11 := Fr.app N10 M11
  rw [own_z0, own_01] at Q11
  have Er0_11 := Er0_10.keep Kq11
  have Eb0_11 := Eb0_10.keep Kq11
  have Er1_11 := Er1_10.keep Kq11
  have Eb1_11 := Eb1_10.keep Kq11
  obtain ⟨d2, hd2⟩ : ∃ d, FP.i2d ((i5 >>> ((3 : Int32) &&& 31)) &&& (7 : Int32)) = d := ⟨_, rfl⟩
  obtain ⟨cq12, kq12, q12a, q12b, q12c⟩ := isOf hZ (rfl) Q11.1
  obtain ⟨_, _, ⟨T12, L12, k12, n12⟩, -, X12, ⟨Lc12, hQ12, l12, y12, z12⟩, st12⟩ := X11.virtualBack hx (y := (⟨"com/example/weaver_ant/weaverant/simulation/DepartureQueue", "add", "(DI[III[III)V"⟩ : MethodName)) (z := (⟨"com/example/weaver_ant/weaverant/simulation/DepartureQueue", "add", "(DI[III[III)V"⟩ : MethodName)) hown (mvT hZ (hw _ (List.mem_of_getElem? (i := 35) rfl))) (mvT hZ (hw _ (List.mem_of_getElem? (i := 36) rfl))) (notFace_of_selects (args := #[]) (mvT hZ (hw _ (List.mem_of_getElem? (i := 38) rfl)))) (mvT hZ (hw _ (List.mem_of_getElem? (i := 38) rfl))) (mvT hZ (hw _ (List.mem_of_getElem? (i := 37) rfl))) (by decide) (backOf (W := 0) (rmA l Z a0 hw [] q ad kk 1 (own_add own_new 0 r0 i0 i1 b0 i2 i3) d2 (i4 ^^^ (-1 : Int32)) r1 i3 i2 b1 i1 i0 T11.heap n0 hD Q11 (Or.inr rfl) Er1_11 Eb1_11 O4 O7) hZ (hw _ (List.mem_of_getElem? (i := 39) rfl)) (hw _ (List.mem_of_getElem? (i := 3) rfl)) (by decide) (by decide)) q12a q12c (g := (mkF m 88 #[.val (.int i0), .val (.int i1), .val (.int i2), .val (.int i3), .val (.int i4), .val (.int i5), .val (.ref r0), .val (.ref b0), .val (.ref r1), .val (.ref b1), .val (.ref q), .unset, .unset, .unset, .unset, .unset, .unset, .unset] [(.int i0), (.int i1), (.ref b1), (.int i2), (.int i3), (.ref r1), (.int (i4 ^^^ (-1 : Int32))), (.double d2), (.ref q)])) rfl (by rw [hml]; rfl) (Steps.refl _) (argsL := [(.double d2), (.int (i4 ^^^ (-1 : Int32))), (.ref r1), (.int i3), (.int i2), (.ref b1), (.int i1), (.int i0)]) (rest := []) (lenOf pd_a rfl) rfl (by show 2 * 0 + _ ≤ _; exact Nat.le_of_eq rfl) (hb hby at_88) (fun _ _ => ⟨rfl, (rfl), (by decide : 16 + 0 ≤ _), (by decide : 721 + 0 ≤ _)⟩)
  dsimp only [Pt.U, Pt.locs, Pt.cells, Pt.slots] at X12 l12 y12 z12 st12 hQ12
  subst l12 y12 z12
  obtain ⟨rfl, M12, Kq12, Q12⟩ := hQ12
  have N12 := Fr.app N11 M12
  rw [own_z1] at Q12
  have Er0_12 := Er0_11.keep Kq12
  have Eb0_12 := Eb0_11.keep Kq12
  have Er1_12 := Er1_11.keep Kq12
  have Eb1_12 := Eb1_11.keep Kq12
  have hbit := own_bit (i5 >>> ((6 : Int32) &&& 31))
  rcases hbit with ht | ht
  · skip
    obtain ⟨cq13, kq13, q13a, q13b, q13c⟩ := isOf hZ (rfl) Q12.1
    obtain ⟨_, _, ⟨T13, L13, k13, n13⟩, -, X13, ⟨Lc13, hQ13, l13, y13, z13⟩, st13⟩ := X12.virtualBack hx (y := (⟨"com/example/weaver_ant/weaverant/simulation/DepartureQueue", "switchToBackup", "(I)V"⟩ : MethodName)) (z := (⟨"com/example/weaver_ant/weaverant/simulation/DepartureQueue", "switchToBackup", "(I)V"⟩ : MethodName)) hown (mvT hZ (hw _ (List.mem_of_getElem? (i := 53) rfl))) (mvT hZ (hw _ (List.mem_of_getElem? (i := 54) rfl))) (notFace_of_selects (args := #[]) (mvT hZ (hw _ (List.mem_of_getElem? (i := 56) rfl)))) (mvT hZ (hw _ (List.mem_of_getElem? (i := 56) rfl))) (mvT hZ (hw _ (List.mem_of_getElem? (i := 55) rfl))) (by decide) (backOf (W := 0) (rmW l Z a0 hw [] q ad kk (1 + 1) (own_add (own_add own_new 0 r0 i0 i1 b0 i2 i3) 1 r1 i3 i2 b1 i1 i0) (0 : Int32) b0 i2 i3 T12.heap n0 hD Q12 (by decide) (by rw [own_z0]; rfl : (own_add (own_add own_new 0 r0 i0 i1 b0 i2 i3) 1 r1 i3 i2 b1 i1 i0) 7 (0 : Int32).toNatClampNeg = (.ref b0)) (by rw [own_z0]; rfl : (own_add (own_add own_new 0 r0 i0 i1 b0 i2 i3) 1 r1 i3 i2 b1 i1 i0) 8 (0 : Int32).toNatClampNeg = (.int i2)) (by rw [own_z0]; rfl : (own_add (own_add own_new 0 r0 i0 i1 b0 i2 i3) 1 r1 i3 i2 b1 i1 i0) 9 (0 : Int32).toNatClampNeg = (.int i3)) Eb0_12 O4) hZ (hw _ (List.mem_of_getElem? (i := 57) rfl)) (hw _ (List.mem_of_getElem? (i := 3) rfl)) (by decide) (by decide)) q13a q13c (g := (mkF m 176 #[.val (.int i0), .val (.int i1), .val (.int i2), .val (.int i3), .val (.int i4), .val (.int i5), .val (.ref r0), .val (.ref b0), .val (.ref r1), .val (.ref b1), .val (.ref q), .val (.int (0 : Int32)), .val (.int (1 : Int32)), .val (.ref b0), .val (.int i2), .val (.int i3), .val (.ref r1), .val (.ref b1)] [(.int (0 : Int32)), (.ref q)])) rfl (by rw [hml]; rfl) (Steps.refl _) (argsL := [(.int (0 : Int32))]) (rest := []) (lenOf pd_s rfl) rfl (by show 2 * 0 + _ ≤ _; exact Nat.le_of_eq rfl) (hb hby at_176) (fun _ _ => ⟨rfl, (rfl), (by decide : 16 + 0 ≤ _), (by decide : 721 + 0 ≤ _)⟩)
    dsimp only [Pt.U, Pt.locs, Pt.cells, Pt.slots] at X13 l13 y13 z13 st13 hQ13
    subst l13 y13 z13
    obtain ⟨rfl, M13, Kq13, Q13⟩ := hQ13
    have N13 := Fr.app N12 M13
    rw [own_z0] at Q13
    obtain ⟨cq14, kq14, q14a, q14b, q14c⟩ := isOf hZ (rfl) Q13.1
    obtain ⟨_, _, ⟨T14, L14, k14, n14⟩, -, X14, ⟨Lc14, hQ14, l14, y14, z14⟩, st14⟩ := X13.virtualBack hx (y := (⟨"com/example/weaver_ant/weaverant/simulation/DepartureQueue", "route", "(I)[I"⟩ : MethodName)) (z := (⟨"com/example/weaver_ant/weaverant/simulation/DepartureQueue", "route", "(I)[I"⟩ : MethodName)) hown (mvT hZ (hw _ (List.mem_of_getElem? (i := 58) rfl))) (mvT hZ (hw _ (List.mem_of_getElem? (i := 59) rfl))) (notFace_of_selects (args := #[]) (mvT hZ (hw _ (List.mem_of_getElem? (i := 61) rfl)))) (mvT hZ (hw _ (List.mem_of_getElem? (i := 61) rfl))) (mvT hZ (hw _ (List.mem_of_getElem? (i := 60) rfl))) (by decide) (backOf (W := 0) (rmR l Z a0 hw [] q ad kk (1 + 1) (own_sw (own_add (own_add own_new 0 r0 i0 i1 b0 i2 i3) 1 r1 i3 i2 b1 i1 i0) 0) (0 : Int32) (.ref b0) T13.heap n0 Q13 (by decide) (by rw [own_z0]; rfl : (own_sw (own_add (own_add own_new 0 r0 i0 i1 b0 i2 i3) 1 r1 i3 i2 b1 i1 i0) 0) 4 (0 : Int32).toNatClampNeg = (.ref b0)) rfl) hZ (hw _ (List.mem_of_getElem? (i := 62) rfl)) (hw _ (List.mem_of_getElem? (i := 3) rfl)) (by decide) (by decide)) q14a q14c (g := (mkF m 183 #[.val (.int i0), .val (.int i1), .val (.int i2), .val (.int i3), .val (.int i4), .val (.int i5), .val (.ref r0), .val (.ref b0), .val (.ref r1), .val (.ref b1), .val (.ref q), .val (.int (0 : Int32)), .val (.int (1 : Int32)), .val (.ref b0), .val (.int i2), .val (.int i3), .val (.ref r1), .val (.ref b1)] [(.int (0 : Int32)), (.ref q)])) rfl (by rw [hml]; rfl) (Steps.refl _) (argsL := [(.int (0 : Int32))]) (rest := []) (lenOf pd_r rfl) rfl (by show 2 * 0 + _ ≤ _; exact Nat.le_of_eq rfl) (hb hby at_183) (fun _ _ => ⟨rfl, (rfl), (by decide : 16 + 0 ≤ _), (by decide : 721 + 0 ≤ _)⟩)
    dsimp only [Pt.U, Pt.locs, Pt.cells, Pt.slots] at X14 l14 y14 z14 st14 hQ14
    subst l14 y14 z14
    obtain ⟨rfl, M14, e14⟩ := hQ14
    have N14 := Fr.app N13 M14
    obtain ⟨cq15, kq15, q15a, q15b, q15c⟩ := isOf hZ e14 Q13.1
    obtain ⟨_, _, ⟨T15, L15, k15, n15⟩, -, X15, ⟨Lc15, hQ15, l15, y15, z15⟩, st15⟩ := X14.virtualBack hx (y := (⟨"com/example/weaver_ant/weaverant/simulation/DepartureQueue", "start", "(I)I"⟩ : MethodName)) (z := (⟨"com/example/weaver_ant/weaverant/simulation/DepartureQueue", "start", "(I)I"⟩ : MethodName)) hown (mvT hZ (hw _ (List.mem_of_getElem? (i := 63) rfl))) (mvT hZ (hw _ (List.mem_of_getElem? (i := 64) rfl))) (notFace_of_selects (args := #[]) (mvT hZ (hw _ (List.mem_of_getElem? (i := 66) rfl)))) (mvT hZ (hw _ (List.mem_of_getElem? (i := 66) rfl))) (mvT hZ (hw _ (List.mem_of_getElem? (i := 65) rfl))) (by decide) (backOf (W := 0) (rmT l Z a0 hw [] q ad kk (1 + 1) (own_sw (own_add (own_add own_new 0 r0 i0 i1 b0 i2 i3) 1 r1 i3 i2 b1 i1 i0) 0) (0 : Int32) i2 T13.heap n0 Q13 (by decide) (by rw [own_z0]; rfl : (own_sw (own_add (own_add own_new 0 r0 i0 i1 b0 i2 i3) 1 r1 i3 i2 b1 i1 i0) 0) 5 (0 : Int32).toNatClampNeg = (.int i2))) hZ (hw _ (List.mem_of_getElem? (i := 67) rfl)) (hw _ (List.mem_of_getElem? (i := 3) rfl)) (by decide) (by decide)) q15a q15c (g := (mkF m 195 #[.val (.int i0), .val (.int i1), .val (.int i2), .val (.int i3), .val (.int i4), .val (.int i5), .val (.ref r0), .val (.ref b0), .val (.ref r1), .val (.ref b1), .val (.ref q), .val (.int (0 : Int32)), .val (.int (1 : Int32)), .val (.ref b0), .val (.int i2), .val (.int i3), .val (.ref r1), .val (.ref b1)] [(.int (0 : Int32)), (.ref q)])) rfl (by rw [hml]; rfl) (Steps.refl _) (argsL := [(.int (0 : Int32))]) (rest := []) (lenOf pd_i rfl) rfl (by show 2 * 0 + _ ≤ _; exact Nat.le_of_eq rfl) (hb hby at_195) (fun _ _ => ⟨rfl, e14, (by decide : 16 + 0 ≤ _), (by decide : 721 + 0 ≤ _)⟩)
    dsimp only [Pt.U, Pt.locs, Pt.cells, Pt.slots] at X15 l15 y15 z15 st15 hQ15
    subst l15 y15 z15
    obtain ⟨rfl, M15, e15⟩ := hQ15
    have N15 := Fr.app N14 M15
    obtain ⟨cq16, kq16, q16a, q16b, q16c⟩ := isOf hZ e15 Q13.1
    obtain ⟨_, _, ⟨T16, L16, k16, n16⟩, -, X16, ⟨Lc16, hQ16, l16, y16, z16⟩, st16⟩ := X15.virtualBack hx (y := (⟨"com/example/weaver_ant/weaverant/simulation/DepartureQueue", "width", "(I)I"⟩ : MethodName)) (z := (⟨"com/example/weaver_ant/weaverant/simulation/DepartureQueue", "width", "(I)I"⟩ : MethodName)) hown (mvT hZ (hw _ (List.mem_of_getElem? (i := 68) rfl))) (mvT hZ (hw _ (List.mem_of_getElem? (i := 69) rfl))) (notFace_of_selects (args := #[]) (mvT hZ (hw _ (List.mem_of_getElem? (i := 71) rfl)))) (mvT hZ (hw _ (List.mem_of_getElem? (i := 71) rfl))) (mvT hZ (hw _ (List.mem_of_getElem? (i := 70) rfl))) (by decide) (backOf (W := 0) (rmD l Z a0 hw [] q ad kk (1 + 1) (own_sw (own_add (own_add own_new 0 r0 i0 i1 b0 i2 i3) 1 r1 i3 i2 b1 i1 i0) 0) (0 : Int32) i3 T13.heap n0 Q13 (by decide) (by rw [own_z0]; rfl : (own_sw (own_add (own_add own_new 0 r0 i0 i1 b0 i2 i3) 1 r1 i3 i2 b1 i1 i0) 0) 6 (0 : Int32).toNatClampNeg = (.int i3))) hZ (hw _ (List.mem_of_getElem? (i := 72) rfl)) (hw _ (List.mem_of_getElem? (i := 3) rfl)) (by decide) (by decide)) q16a q16c (g := (mkF m 207 #[.val (.int i0), .val (.int i1), .val (.int i2), .val (.int i3), .val (.int i4), .val (.int i5), .val (.ref r0), .val (.ref b0), .val (.ref r1), .val (.ref b1), .val (.ref q), .val (.int (0 : Int32)), .val (.int (1 : Int32)), .val (.ref b0), .val (.int i2), .val (.int i3), .val (.ref r1), .val (.ref b1)] [(.int (0 : Int32)), (.ref q)])) rfl (by rw [hml]; rfl) (Steps.refl _) (argsL := [(.int (0 : Int32))]) (rest := []) (lenOf pd_i rfl) rfl (by show 2 * 0 + _ ≤ _; exact Nat.le_of_eq rfl) (hb hby at_207) (fun _ _ => ⟨rfl, e15, (by decide : 16 + 0 ≤ _), (by decide : 721 + 0 ≤ _)⟩)
    dsimp only [Pt.U, Pt.locs, Pt.cells, Pt.slots] at X16 l16 y16 z16 st16 hQ16
    subst l16 y16 z16
    obtain ⟨rfl, M16, e16⟩ := hQ16
    have N16 := Fr.app N15 M16
    obtain ⟨cq17, kq17, q17a, q17b, q17c⟩ := isOf hZ e16 Q13.1
    obtain ⟨_, _, ⟨T17, L17, k17, n17⟩, -, X17, ⟨Lc17, hQ17, l17, y17, z17⟩, st17⟩ := X16.virtualBack hx (y := (⟨"com/example/weaver_ant/weaverant/simulation/DepartureQueue", "backup", "(I)[I"⟩ : MethodName)) (z := (⟨"com/example/weaver_ant/weaverant/simulation/DepartureQueue", "backup", "(I)[I"⟩ : MethodName)) hown (mvT hZ (hw _ (List.mem_of_getElem? (i := 73) rfl))) (mvT hZ (hw _ (List.mem_of_getElem? (i := 74) rfl))) (notFace_of_selects (args := #[]) (mvT hZ (hw _ (List.mem_of_getElem? (i := 76) rfl)))) (mvT hZ (hw _ (List.mem_of_getElem? (i := 76) rfl))) (mvT hZ (hw _ (List.mem_of_getElem? (i := 75) rfl))) (by decide) (backOf (W := 0) (rmB l Z a0 hw [] q ad kk (1 + 1) (own_sw (own_add (own_add own_new 0 r0 i0 i1 b0 i2 i3) 1 r1 i3 i2 b1 i1 i0) 0) (0 : Int32) .null T13.heap n0 Q13 (by decide) (by rw [own_z0]; rfl : (own_sw (own_add (own_add own_new 0 r0 i0 i1 b0 i2 i3) 1 r1 i3 i2 b1 i1 i0) 0) 7 (0 : Int32).toNatClampNeg = .null) rfl) hZ (hw _ (List.mem_of_getElem? (i := 77) rfl)) (hw _ (List.mem_of_getElem? (i := 3) rfl)) (by decide) (by decide)) q17a q17c (g := (mkF m 219 #[.val (.int i0), .val (.int i1), .val (.int i2), .val (.int i3), .val (.int i4), .val (.int i5), .val (.ref r0), .val (.ref b0), .val (.ref r1), .val (.ref b1), .val (.ref q), .val (.int (0 : Int32)), .val (.int (1 : Int32)), .val (.ref b0), .val (.int i2), .val (.int i3), .val (.ref r1), .val (.ref b1)] [(.int (0 : Int32)), (.ref q)])) rfl (by rw [hml]; rfl) (Steps.refl _) (argsL := [(.int (0 : Int32))]) (rest := []) (lenOf pd_r rfl) rfl (by show 2 * 0 + _ ≤ _; exact Nat.le_of_eq rfl) (hb hby at_219) (fun _ _ => ⟨rfl, e16, (by decide : 16 + 0 ≤ _), (by decide : 721 + 0 ≤ _)⟩)
    dsimp only [Pt.U, Pt.locs, Pt.cells, Pt.slots] at X17 l17 y17 z17 st17 hQ17
    subst l17 y17 z17
    obtain ⟨rfl, M17, e17⟩ := hQ17
    have N17 := Fr.app N16 M17
    obtain ⟨cq18, kq18, q18a, q18b, q18c⟩ := isOf hZ e17 Q13.1
    obtain ⟨_, _, ⟨T18, L18, k18, n18⟩, -, X18, ⟨Lc18, hQ18, l18, y18, z18⟩, st18⟩ := X17.virtualBack hx (y := (⟨"com/example/weaver_ant/weaverant/simulation/DepartureQueue", "route", "(I)[I"⟩ : MethodName)) (z := (⟨"com/example/weaver_ant/weaverant/simulation/DepartureQueue", "route", "(I)[I"⟩ : MethodName)) hown (mvT hZ (hw _ (List.mem_of_getElem? (i := 58) rfl))) (mvT hZ (hw _ (List.mem_of_getElem? (i := 59) rfl))) (notFace_of_selects (args := #[]) (mvT hZ (hw _ (List.mem_of_getElem? (i := 61) rfl)))) (mvT hZ (hw _ (List.mem_of_getElem? (i := 61) rfl))) (mvT hZ (hw _ (List.mem_of_getElem? (i := 60) rfl))) (by decide) (backOf (W := 0) (rmR l Z a0 hw [] q ad kk (1 + 1) (own_sw (own_add (own_add own_new 0 r0 i0 i1 b0 i2 i3) 1 r1 i3 i2 b1 i1 i0) 0) (1 : Int32) (.ref r1) T13.heap n0 Q13 (by decide) (by rw [own_z1]; rfl : (own_sw (own_add (own_add own_new 0 r0 i0 i1 b0 i2 i3) 1 r1 i3 i2 b1 i1 i0) 0) 4 (1 : Int32).toNatClampNeg = (.ref r1)) rfl) hZ (hw _ (List.mem_of_getElem? (i := 62) rfl)) (hw _ (List.mem_of_getElem? (i := 3) rfl)) (by decide) (by decide)) q18a q18c (g := (mkF m 229 #[.val (.int i0), .val (.int i1), .val (.int i2), .val (.int i3), .val (.int i4), .val (.int i5), .val (.ref r0), .val (.ref b0), .val (.ref r1), .val (.ref b1), .val (.ref q), .val (.int (0 : Int32)), .val (.int (1 : Int32)), .val (.ref b0), .val (.int i2), .val (.int i3), .val (.ref r1), .val (.ref b1)] [(.int (1 : Int32)), (.ref q)])) rfl (by rw [hml]; rfl) (Steps.refl _) (argsL := [(.int (1 : Int32))]) (rest := []) (lenOf pd_r rfl) rfl (by show 2 * 0 + _ ≤ _; exact Nat.le_of_eq rfl) (hb hby at_229) (fun _ _ => ⟨rfl, e17, (by decide : 16 + 0 ≤ _), (by decide : 721 + 0 ≤ _)⟩)
    dsimp only [Pt.U, Pt.locs, Pt.cells, Pt.slots] at X18 l18 y18 z18 st18 hQ18
    subst l18 y18 z18
    obtain ⟨rfl, M18, e18⟩ := hQ18
    have N18 := Fr.app N17 M18
    obtain ⟨cq19, kq19, q19a, q19b, q19c⟩ := isOf hZ e18 Q13.1
    obtain ⟨_, _, ⟨T19, L19, k19, n19⟩, -, X19, ⟨Lc19, hQ19, l19, y19, z19⟩, st19⟩ := X18.virtualBack hx (y := (⟨"com/example/weaver_ant/weaverant/simulation/DepartureQueue", "backup", "(I)[I"⟩ : MethodName)) (z := (⟨"com/example/weaver_ant/weaverant/simulation/DepartureQueue", "backup", "(I)[I"⟩ : MethodName)) hown (mvT hZ (hw _ (List.mem_of_getElem? (i := 73) rfl))) (mvT hZ (hw _ (List.mem_of_getElem? (i := 74) rfl))) (notFace_of_selects (args := #[]) (mvT hZ (hw _ (List.mem_of_getElem? (i := 76) rfl)))) (mvT hZ (hw _ (List.mem_of_getElem? (i := 76) rfl))) (mvT hZ (hw _ (List.mem_of_getElem? (i := 75) rfl))) (by decide) (backOf (W := 0) (rmB l Z a0 hw [] q ad kk (1 + 1) (own_sw (own_add (own_add own_new 0 r0 i0 i1 b0 i2 i3) 1 r1 i3 i2 b1 i1 i0) 0) (1 : Int32) (.ref b1) T13.heap n0 Q13 (by decide) (by rw [own_z1]; rfl : (own_sw (own_add (own_add own_new 0 r0 i0 i1 b0 i2 i3) 1 r1 i3 i2 b1 i1 i0) 0) 7 (1 : Int32).toNatClampNeg = (.ref b1)) rfl) hZ (hw _ (List.mem_of_getElem? (i := 77) rfl)) (hw _ (List.mem_of_getElem? (i := 3) rfl)) (by decide) (by decide)) q19a q19c (g := (mkF m 241 #[.val (.int i0), .val (.int i1), .val (.int i2), .val (.int i3), .val (.int i4), .val (.int i5), .val (.ref r0), .val (.ref b0), .val (.ref r1), .val (.ref b1), .val (.ref q), .val (.int (0 : Int32)), .val (.int (1 : Int32)), .val (.ref b0), .val (.int i2), .val (.int i3), .val (.ref r1), .val (.ref b1)] [(.int (1 : Int32)), (.ref q)])) rfl (by rw [hml]; rfl) (Steps.refl _) (argsL := [(.int (1 : Int32))]) (rest := []) (lenOf pd_r rfl) rfl (by show 2 * 0 + _ ≤ _; exact Nat.le_of_eq rfl) (hb hby at_241) (fun _ _ => ⟨rfl, e18, (by decide : 16 + 0 ≤ _), (by decide : 721 + 0 ≤ _)⟩)
    dsimp only [Pt.U, Pt.locs, Pt.cells, Pt.slots] at X19 l19 y19 z19 st19 hQ19
    subst l19 y19 z19
    obtain ⟨rfl, M19, e19⟩ := hQ19
    have N19 := Fr.app N18 M19
    obtain ⟨fs, hr, hrun, hended, hW, hsame⟩ := X19.leave (v := some (.int (1 : Int32))) (fun h => by rw [Bd.returns] at h; cases h)
    refine ⟨_, _, pre0 _ ?_, hrun, hended, _, _, rfl, ?_, ⟨_, rfl⟩, hW, hsame.mono (by decide) (by decide)⟩
    · show Steps p.tables e below (s₁.setTop (mkF m 0 #[.val (.int i0), .val (.int i1), .val (.int i2), .val (.int i3), .val (.int i4), .val (.int i5), .unset, .unset, .unset, .unset, .unset, .unset, .unset, .unset, .unset, .unset, .unset, .unset] [])) _
      refine XS.iconst X0.here hx rfl (hb hby at_0) ?_
      show Steps p.tables e below (s₁.setTop (mkF m 1 #[.val (.int i0), .val (.int i1), .val (.int i2), .val (.int i3), .val (.int i4), .val (.int i5), .unset, .unset, .unset, .unset, .unset, .unset, .unset, .unset, .unset, .unset, .unset, .unset] [(.int (1 : Int32))])) _
      refine st1 _ ?_
      show Steps p.tables e below (T1.setTop (mkF m 3 #[.val (.int i0), .val (.int i1), .val (.int i2), .val (.int i3), .val (.int i4), .val (.int i5), .unset, .unset, .unset, .unset, .unset, .unset, .unset, .unset, .unset, .unset, .unset, .unset] [(.ref r0)])) _
      refine XS.dup X1.here hx rfl (hb hby at_3) rfl rfl ?_
      show Steps p.tables e below (T1.setTop (mkF m 4 #[.val (.int i0), .val (.int i1), .val (.int i2), .val (.int i3), .val (.int i4), .val (.int i5), .unset, .unset, .unset, .unset, .unset, .unset, .unset, .unset, .unset, .unset, .unset, .unset] [(.ref r0), (.ref r0)])) _
      refine XS.iconst X1.here hx rfl (hb hby at_4) ?_
      show Steps p.tables e below (T1.setTop (mkF m 5 #[.val (.int i0), .val (.int i1), .val (.int i2), .val (.int i3), .val (.int i4), .val (.int i5), .unset, .unset, .unset, .unset, .unset, .unset, .unset, .unset, .unset, .unset, .unset, .unset] [(.int (0 : Int32)), (.ref r0), (.ref r0)])) _
      refine XS.iconst X1.here hx rfl (hb hby at_5) ?_
      show Steps p.tables e below (T1.setTop (mkF m 6 #[.val (.int i0), .val (.int i1), .val (.int i2), .val (.int i3), .val (.int i4), .val (.int i5), .unset, .unset, .unset, .unset, .unset, .unset, .unset, .unset, .unset, .unset, .unset, .unset] [(.int (1 : Int32)), (.int (0 : Int32)), (.ref r0), (.ref r0)])) _
      refine st2 _ ?_
      show Steps p.tables e below (T2.setTop (mkF m 7 #[.val (.int i0), .val (.int i1), .val (.int i2), .val (.int i3), .val (.int i4), .val (.int i5), .unset, .unset, .unset, .unset, .unset, .unset, .unset, .unset, .unset, .unset, .unset, .unset] [(.ref r0)])) _
      refine XS.astore X2.here hx rfl (hb hby at_7) rfl rfl (l' := #[.val (.int i0), .val (.int i1), .val (.int i2), .val (.int i3), .val (.int i4), .val (.int i5), .val (.ref r0), .unset, .unset, .unset, .unset, .unset, .unset, .unset, .unset, .unset, .unset, .unset]) rfl ?_
      show Steps p.tables e below (T2.setTop (mkF m 9 #[.val (.int i0), .val (.int i1), .val (.int i2), .val (.int i3), .val (.int i4), .val (.int i5), .val (.ref r0), .unset, .unset, .unset, .unset, .unset, .unset, .unset, .unset, .unset, .unset, .unset] [])) _
      refine XS.iconst X2.here hx rfl (hb hby at_9) ?_
      show Steps p.tables e below (T2.setTop (mkF m 10 #[.val (.int i0), .val (.int i1), .val (.int i2), .val (.int i3), .val (.int i4), .val (.int i5), .val (.ref r0), .unset, .unset, .unset, .unset, .unset, .unset, .unset, .unset, .unset, .unset, .unset] [(.int (1 : Int32))])) _
      refine st3 _ ?_
      show Steps p.tables e below (T3.setTop (mkF m 12 #[.val (.int i0), .val (.int i1), .val (.int i2), .val (.int i3), .val (.int i4), .val (.int i5), .val (.ref r0), .unset, .unset, .unset, .unset, .unset, .unset, .unset, .unset, .unset, .unset, .unset] [(.ref b0)])) _
      refine XS.dup X3.here hx rfl (hb hby at_12) rfl rfl ?_
      show Steps p.tables e below (T3.setTop (mkF m 13 #[.val (.int i0), .val (.int i1), .val (.int i2), .val (.int i3), .val (.int i4), .val (.int i5), .val (.ref r0), .unset, .unset, .unset, .unset, .unset, .unset, .unset, .unset, .unset, .unset, .unset] [(.ref b0), (.ref b0)])) _
      refine XS.iconst X3.here hx rfl (hb hby at_13) ?_
      show Steps p.tables e below (T3.setTop (mkF m 14 #[.val (.int i0), .val (.int i1), .val (.int i2), .val (.int i3), .val (.int i4), .val (.int i5), .val (.ref r0), .unset, .unset, .unset, .unset, .unset, .unset, .unset, .unset, .unset, .unset, .unset] [(.int (0 : Int32)), (.ref b0), (.ref b0)])) _
      refine XS.iconst X3.here hx rfl (hb hby at_14) ?_
      show Steps p.tables e below (T3.setTop (mkF m 15 #[.val (.int i0), .val (.int i1), .val (.int i2), .val (.int i3), .val (.int i4), .val (.int i5), .val (.ref r0), .unset, .unset, .unset, .unset, .unset, .unset, .unset, .unset, .unset, .unset, .unset] [(.int (2 : Int32)), (.int (0 : Int32)), (.ref b0), (.ref b0)])) _
      refine st4 _ ?_
      show Steps p.tables e below (T4.setTop (mkF m 16 #[.val (.int i0), .val (.int i1), .val (.int i2), .val (.int i3), .val (.int i4), .val (.int i5), .val (.ref r0), .unset, .unset, .unset, .unset, .unset, .unset, .unset, .unset, .unset, .unset, .unset] [(.ref b0)])) _
      refine XS.astore X4.here hx rfl (hb hby at_16) rfl rfl (l' := #[.val (.int i0), .val (.int i1), .val (.int i2), .val (.int i3), .val (.int i4), .val (.int i5), .val (.ref r0), .val (.ref b0), .unset, .unset, .unset, .unset, .unset, .unset, .unset, .unset, .unset, .unset]) rfl ?_
      show Steps p.tables e below (T4.setTop (mkF m 18 #[.val (.int i0), .val (.int i1), .val (.int i2), .val (.int i3), .val (.int i4), .val (.int i5), .val (.ref r0), .val (.ref b0), .unset, .unset, .unset, .unset, .unset, .unset, .unset, .unset, .unset, .unset] [])) _
      refine XS.iconst X4.here hx rfl (hb hby at_18) ?_
      show Steps p.tables e below (T4.setTop (mkF m 19 #[.val (.int i0), .val (.int i1), .val (.int i2), .val (.int i3), .val (.int i4), .val (.int i5), .val (.ref r0), .val (.ref b0), .unset, .unset, .unset, .unset, .unset, .unset, .unset, .unset, .unset, .unset] [(.int (1 : Int32))])) _
      refine st5 _ ?_
      show Steps p.tables e below (T5.setTop (mkF m 21 #[.val (.int i0), .val (.int i1), .val (.int i2), .val (.int i3), .val (.int i4), .val (.int i5), .val (.ref r0), .val (.ref b0), .unset, .unset, .unset, .unset, .unset, .unset, .unset, .unset, .unset, .unset] [(.ref r1)])) _
      refine XS.dup X5.here hx rfl (hb hby at_21) rfl rfl ?_
      show Steps p.tables e below (T5.setTop (mkF m 22 #[.val (.int i0), .val (.int i1), .val (.int i2), .val (.int i3), .val (.int i4), .val (.int i5), .val (.ref r0), .val (.ref b0), .unset, .unset, .unset, .unset, .unset, .unset, .unset, .unset, .unset, .unset] [(.ref r1), (.ref r1)])) _
      refine XS.iconst X5.here hx rfl (hb hby at_22) ?_
      show Steps p.tables e below (T5.setTop (mkF m 23 #[.val (.int i0), .val (.int i1), .val (.int i2), .val (.int i3), .val (.int i4), .val (.int i5), .val (.ref r0), .val (.ref b0), .unset, .unset, .unset, .unset, .unset, .unset, .unset, .unset, .unset, .unset] [(.int (0 : Int32)), (.ref r1), (.ref r1)])) _
      refine XS.iconst X5.here hx rfl (hb hby at_23) ?_
      show Steps p.tables e below (T5.setTop (mkF m 24 #[.val (.int i0), .val (.int i1), .val (.int i2), .val (.int i3), .val (.int i4), .val (.int i5), .val (.ref r0), .val (.ref b0), .unset, .unset, .unset, .unset, .unset, .unset, .unset, .unset, .unset, .unset] [(.int (3 : Int32)), (.int (0 : Int32)), (.ref r1), (.ref r1)])) _
      refine st6 _ ?_
      show Steps p.tables e below (T6.setTop (mkF m 25 #[.val (.int i0), .val (.int i1), .val (.int i2), .val (.int i3), .val (.int i4), .val (.int i5), .val (.ref r0), .val (.ref b0), .unset, .unset, .unset, .unset, .unset, .unset, .unset, .unset, .unset, .unset] [(.ref r1)])) _
      refine XS.astore X6.here hx rfl (hb hby at_25) rfl rfl (l' := #[.val (.int i0), .val (.int i1), .val (.int i2), .val (.int i3), .val (.int i4), .val (.int i5), .val (.ref r0), .val (.ref b0), .val (.ref r1), .unset, .unset, .unset, .unset, .unset, .unset, .unset, .unset, .unset]) rfl ?_
      show Steps p.tables e below (T6.setTop (mkF m 27 #[.val (.int i0), .val (.int i1), .val (.int i2), .val (.int i3), .val (.int i4), .val (.int i5), .val (.ref r0), .val (.ref b0), .val (.ref r1), .unset, .unset, .unset, .unset, .unset, .unset, .unset, .unset, .unset] [])) _
      refine XS.iconst X6.here hx rfl (hb hby at_27) ?_
      show Steps p.tables e below (T6.setTop (mkF m 28 #[.val (.int i0), .val (.int i1), .val (.int i2), .val (.int i3), .val (.int i4), .val (.int i5), .val (.ref r0), .val (.ref b0), .val (.ref r1), .unset, .unset, .unset, .unset, .unset, .unset, .unset, .unset, .unset] [(.int (1 : Int32))])) _
      refine st7 _ ?_
      show Steps p.tables e below (T7.setTop (mkF m 30 #[.val (.int i0), .val (.int i1), .val (.int i2), .val (.int i3), .val (.int i4), .val (.int i5), .val (.ref r0), .val (.ref b0), .val (.ref r1), .unset, .unset, .unset, .unset, .unset, .unset, .unset, .unset, .unset] [(.ref b1)])) _
      refine XS.dup X7.here hx rfl (hb hby at_30) rfl rfl ?_
      show Steps p.tables e below (T7.setTop (mkF m 31 #[.val (.int i0), .val (.int i1), .val (.int i2), .val (.int i3), .val (.int i4), .val (.int i5), .val (.ref r0), .val (.ref b0), .val (.ref r1), .unset, .unset, .unset, .unset, .unset, .unset, .unset, .unset, .unset] [(.ref b1), (.ref b1)])) _
      refine XS.iconst X7.here hx rfl (hb hby at_31) ?_
      show Steps p.tables e below (T7.setTop (mkF m 32 #[.val (.int i0), .val (.int i1), .val (.int i2), .val (.int i3), .val (.int i4), .val (.int i5), .val (.ref r0), .val (.ref b0), .val (.ref r1), .unset, .unset, .unset, .unset, .unset, .unset, .unset, .unset, .unset] [(.int (0 : Int32)), (.ref b1), (.ref b1)])) _
      refine XS.iconst X7.here hx rfl (hb hby at_32) ?_
      show Steps p.tables e below (T7.setTop (mkF m 33 #[.val (.int i0), .val (.int i1), .val (.int i2), .val (.int i3), .val (.int i4), .val (.int i5), .val (.ref r0), .val (.ref b0), .val (.ref r1), .unset, .unset, .unset, .unset, .unset, .unset, .unset, .unset, .unset] [(.int (4 : Int32)), (.int (0 : Int32)), (.ref b1), (.ref b1)])) _
      refine st8 _ ?_
      show Steps p.tables e below (T8.setTop (mkF m 34 #[.val (.int i0), .val (.int i1), .val (.int i2), .val (.int i3), .val (.int i4), .val (.int i5), .val (.ref r0), .val (.ref b0), .val (.ref r1), .unset, .unset, .unset, .unset, .unset, .unset, .unset, .unset, .unset] [(.ref b1)])) _
      refine XS.astore X8.here hx rfl (hb hby at_34) rfl rfl (l' := #[.val (.int i0), .val (.int i1), .val (.int i2), .val (.int i3), .val (.int i4), .val (.int i5), .val (.ref r0), .val (.ref b0), .val (.ref r1), .val (.ref b1), .unset, .unset, .unset, .unset, .unset, .unset, .unset, .unset]) rfl ?_
      show Steps p.tables e below (T8.setTop (mkF m 36 #[.val (.int i0), .val (.int i1), .val (.int i2), .val (.int i3), .val (.int i4), .val (.int i5), .val (.ref r0), .val (.ref b0), .val (.ref r1), .val (.ref b1), .unset, .unset, .unset, .unset, .unset, .unset, .unset, .unset] [])) _
      refine st9 _ ?_
      show Steps p.tables e below (T9.setTop (mkF m 39 #[.val (.int i0), .val (.int i1), .val (.int i2), .val (.int i3), .val (.int i4), .val (.int i5), .val (.ref r0), .val (.ref b0), .val (.ref r1), .val (.ref b1), .unset, .unset, .unset, .unset, .unset, .unset, .unset, .unset] [(.ref q)])) _
      refine XS.dup X9.here hx rfl (hb hby at_39) rfl rfl ?_
      show Steps p.tables e below (T9.setTop (mkF m 40 #[.val (.int i0), .val (.int i1), .val (.int i2), .val (.int i3), .val (.int i4), .val (.int i5), .val (.ref r0), .val (.ref b0), .val (.ref r1), .val (.ref b1), .unset, .unset, .unset, .unset, .unset, .unset, .unset, .unset] [(.ref q), (.ref q)])) _
      refine st10.trans ?_
      show Steps p.tables e below (T10.setTop (mkF m 43 #[.val (.int i0), .val (.int i1), .val (.int i2), .val (.int i3), .val (.int i4), .val (.int i5), .val (.ref r0), .val (.ref b0), .val (.ref r1), .val (.ref b1), .unset, .unset, .unset, .unset, .unset, .unset, .unset, .unset] [(.ref q)])) _
      refine XS.astore X10.here hx rfl (hb hby at_43) rfl rfl (l' := #[.val (.int i0), .val (.int i1), .val (.int i2), .val (.int i3), .val (.int i4), .val (.int i5), .val (.ref r0), .val (.ref b0), .val (.ref r1), .val (.ref b1), .val (.ref q), .unset, .unset, .unset, .unset, .unset, .unset, .unset]) rfl ?_
      show Steps p.tables e below (T10.setTop (mkF m 45 #[.val (.int i0), .val (.int i1), .val (.int i2), .val (.int i3), .val (.int i4), .val (.int i5), .val (.ref r0), .val (.ref b0), .val (.ref r1), .val (.ref b1), .val (.ref q), .unset, .unset, .unset, .unset, .unset, .unset, .unset] [])) _
      refine XS.aload X10.here hx rfl (hb hby at_45) rfl rfl ?_
      show Steps p.tables e below (T10.setTop (mkF m 47 #[.val (.int i0), .val (.int i1), .val (.int i2), .val (.int i3), .val (.int i4), .val (.int i5), .val (.ref r0), .val (.ref b0), .val (.ref r1), .val (.ref b1), .val (.ref q), .unset, .unset, .unset, .unset, .unset, .unset, .unset] [(.ref q)])) _
      refine XS.iload X10.here hx rfl (hb hby at_47) rfl ?_
      show Steps p.tables e below (T10.setTop (mkF m 49 #[.val (.int i0), .val (.int i1), .val (.int i2), .val (.int i3), .val (.int i4), .val (.int i5), .val (.ref r0), .val (.ref b0), .val (.ref r1), .val (.ref b1), .val (.ref q), .unset, .unset, .unset, .unset, .unset, .unset, .unset] [(.int i5), (.ref q)])) _
      refine XS.bipush X10.here hx rfl (hb hby at_49) ?_
      show Steps p.tables e below (T10.setTop (mkF m 51 #[.val (.int i0), .val (.int i1), .val (.int i2), .val (.int i3), .val (.int i4), .val (.int i5), .val (.ref r0), .val (.ref b0), .val (.ref r1), .val (.ref b1), .val (.ref q), .unset, .unset, .unset, .unset, .unset, .unset, .unset] [(.int (7 : Int32)), (.int i5), (.ref q)])) _
      refine XS.iand X10.here hx rfl (hb hby at_51) rfl ?_
      show Steps p.tables e below (T10.setTop (mkF m 52 #[.val (.int i0), .val (.int i1), .val (.int i2), .val (.int i3), .val (.int i4), .val (.int i5), .val (.ref r0), .val (.ref b0), .val (.ref r1), .val (.ref b1), .val (.ref q), .unset, .unset, .unset, .unset, .unset, .unset, .unset] [(.int (i5 &&& (7 : Int32))), (.ref q)])) _
      refine XS.i2dS X10.here hx rfl (hb hby at_52) rfl hd1 ?_
      show Steps p.tables e below (T10.setTop (mkF m 53 #[.val (.int i0), .val (.int i1), .val (.int i2), .val (.int i3), .val (.int i4), .val (.int i5), .val (.ref r0), .val (.ref b0), .val (.ref r1), .val (.ref b1), .val (.ref q), .unset, .unset, .unset, .unset, .unset, .unset, .unset] [(.double d1), (.ref q)])) _
      refine XS.iload X10.here hx rfl (hb hby at_53) rfl ?_
      show Steps p.tables e below (T10.setTop (mkF m 55 #[.val (.int i0), .val (.int i1), .val (.int i2), .val (.int i3), .val (.int i4), .val (.int i5), .val (.ref r0), .val (.ref b0), .val (.ref r1), .val (.ref b1), .val (.ref q), .unset, .unset, .unset, .unset, .unset, .unset, .unset] [(.int i4), (.double d1), (.ref q)])) _
      refine XS.aload X10.here hx rfl (hb hby at_55) rfl rfl ?_
      show Steps p.tables e below (T10.setTop (mkF m 57 #[.val (.int i0), .val (.int i1), .val (.int i2), .val (.int i3), .val (.int i4), .val (.int i5), .val (.ref r0), .val (.ref b0), .val (.ref r1), .val (.ref b1), .val (.ref q), .unset, .unset, .unset, .unset, .unset, .unset, .unset] [(.ref r0), (.int i4), (.double d1), (.ref q)])) _
      refine XS.iloadN X10.here hx rfl (hb hby at_57) rfl ?_
      show Steps p.tables e below (T10.setTop (mkF m 58 #[.val (.int i0), .val (.int i1), .val (.int i2), .val (.int i3), .val (.int i4), .val (.int i5), .val (.ref r0), .val (.ref b0), .val (.ref r1), .val (.ref b1), .val (.ref q), .unset, .unset, .unset, .unset, .unset, .unset, .unset] [(.int i0), (.ref r0), (.int i4), (.double d1), (.ref q)])) _
      refine XS.iloadN X10.here hx rfl (hb hby at_58) rfl ?_
      show Steps p.tables e below (T10.setTop (mkF m 59 #[.val (.int i0), .val (.int i1), .val (.int i2), .val (.int i3), .val (.int i4), .val (.int i5), .val (.ref r0), .val (.ref b0), .val (.ref r1), .val (.ref b1), .val (.ref q), .unset, .unset, .unset, .unset, .unset, .unset, .unset] [(.int i1), (.int i0), (.ref r0), (.int i4), (.double d1), (.ref q)])) _
      refine XS.aload X10.here hx rfl (hb hby at_59) rfl rfl ?_
      show Steps p.tables e below (T10.setTop (mkF m 61 #[.val (.int i0), .val (.int i1), .val (.int i2), .val (.int i3), .val (.int i4), .val (.int i5), .val (.ref r0), .val (.ref b0), .val (.ref r1), .val (.ref b1), .val (.ref q), .unset, .unset, .unset, .unset, .unset, .unset, .unset] [(.ref b0), (.int i1), (.int i0), (.ref r0), (.int i4), (.double d1), (.ref q)])) _
      refine XS.iloadN X10.here hx rfl (hb hby at_61) rfl ?_
      show Steps p.tables e below (T10.setTop (mkF m 62 #[.val (.int i0), .val (.int i1), .val (.int i2), .val (.int i3), .val (.int i4), .val (.int i5), .val (.ref r0), .val (.ref b0), .val (.ref r1), .val (.ref b1), .val (.ref q), .unset, .unset, .unset, .unset, .unset, .unset, .unset] [(.int i2), (.ref b0), (.int i1), (.int i0), (.ref r0), (.int i4), (.double d1), (.ref q)])) _
      refine XS.iloadN X10.here hx rfl (hb hby at_62) rfl ?_
      show Steps p.tables e below (T10.setTop (mkF m 63 #[.val (.int i0), .val (.int i1), .val (.int i2), .val (.int i3), .val (.int i4), .val (.int i5), .val (.ref r0), .val (.ref b0), .val (.ref r1), .val (.ref b1), .val (.ref q), .unset, .unset, .unset, .unset, .unset, .unset, .unset] [(.int i3), (.int i2), (.ref b0), (.int i1), (.int i0), (.ref r0), (.int i4), (.double d1), (.ref q)])) _
      refine st11.trans ?_
      show Steps p.tables e below (T11.setTop (mkF m 66 #[.val (.int i0), .val (.int i1), .val (.int i2), .val (.int i3), .val (.int i4), .val (.int i5), .val (.ref r0), .val (.ref b0), .val (.ref r1), .val (.ref b1), .val (.ref q), .unset, .unset, .unset, .unset, .unset, .unset, .unset] [])) _
      refine XS.aload X11.here hx rfl (hb hby at_66) rfl rfl ?_
      show Steps p.tables e below (T11.setTop (mkF m 68 #[.val (.int i0), .val (.int i1), .val (.int i2), .val (.int i3), .val (.int i4), .val (.int i5), .val (.ref r0), .val (.ref b0), .val (.ref r1), .val (.ref b1), .val (.ref q), .unset, .unset, .unset, .unset, .unset, .unset, .unset] [(.ref q)])) _
      refine XS.iload X11.here hx rfl (hb hby at_68) rfl ?_
      show Steps p.tables e below (T11.setTop (mkF m 70 #[.val (.int i0), .val (.int i1), .val (.int i2), .val (.int i3), .val (.int i4), .val (.int i5), .val (.ref r0), .val (.ref b0), .val (.ref r1), .val (.ref b1), .val (.ref q), .unset, .unset, .unset, .unset, .unset, .unset, .unset] [(.int i5), (.ref q)])) _
      refine XS.iconst X11.here hx rfl (hb hby at_70) ?_
      show Steps p.tables e below (T11.setTop (mkF m 71 #[.val (.int i0), .val (.int i1), .val (.int i2), .val (.int i3), .val (.int i4), .val (.int i5), .val (.ref r0), .val (.ref b0), .val (.ref r1), .val (.ref b1), .val (.ref q), .unset, .unset, .unset, .unset, .unset, .unset, .unset] [(.int (3 : Int32)), (.int i5), (.ref q)])) _
      refine XS.ishr X11.here hx rfl (hb hby at_71) rfl ?_
      show Steps p.tables e below (T11.setTop (mkF m 72 #[.val (.int i0), .val (.int i1), .val (.int i2), .val (.int i3), .val (.int i4), .val (.int i5), .val (.ref r0), .val (.ref b0), .val (.ref r1), .val (.ref b1), .val (.ref q), .unset, .unset, .unset, .unset, .unset, .unset, .unset] [(.int (i5 >>> ((3 : Int32) &&& 31))), (.ref q)])) _
      refine XS.bipush X11.here hx rfl (hb hby at_72) ?_
      show Steps p.tables e below (T11.setTop (mkF m 74 #[.val (.int i0), .val (.int i1), .val (.int i2), .val (.int i3), .val (.int i4), .val (.int i5), .val (.ref r0), .val (.ref b0), .val (.ref r1), .val (.ref b1), .val (.ref q), .unset, .unset, .unset, .unset, .unset, .unset, .unset] [(.int (7 : Int32)), (.int (i5 >>> ((3 : Int32) &&& 31))), (.ref q)])) _
      refine XS.iand X11.here hx rfl (hb hby at_74) rfl ?_
      show Steps p.tables e below (T11.setTop (mkF m 75 #[.val (.int i0), .val (.int i1), .val (.int i2), .val (.int i3), .val (.int i4), .val (.int i5), .val (.ref r0), .val (.ref b0), .val (.ref r1), .val (.ref b1), .val (.ref q), .unset, .unset, .unset, .unset, .unset, .unset, .unset] [(.int ((i5 >>> ((3 : Int32) &&& 31)) &&& (7 : Int32))), (.ref q)])) _
      refine XS.i2dS X11.here hx rfl (hb hby at_75) rfl hd2 ?_
      show Steps p.tables e below (T11.setTop (mkF m 76 #[.val (.int i0), .val (.int i1), .val (.int i2), .val (.int i3), .val (.int i4), .val (.int i5), .val (.ref r0), .val (.ref b0), .val (.ref r1), .val (.ref b1), .val (.ref q), .unset, .unset, .unset, .unset, .unset, .unset, .unset] [(.double d2), (.ref q)])) _
      refine XS.iload X11.here hx rfl (hb hby at_76) rfl ?_
      show Steps p.tables e below (T11.setTop (mkF m 78 #[.val (.int i0), .val (.int i1), .val (.int i2), .val (.int i3), .val (.int i4), .val (.int i5), .val (.ref r0), .val (.ref b0), .val (.ref r1), .val (.ref b1), .val (.ref q), .unset, .unset, .unset, .unset, .unset, .unset, .unset] [(.int i4), (.double d2), (.ref q)])) _
      refine XS.iconst X11.here hx rfl (hb hby at_78) ?_
      show Steps p.tables e below (T11.setTop (mkF m 79 #[.val (.int i0), .val (.int i1), .val (.int i2), .val (.int i3), .val (.int i4), .val (.int i5), .val (.ref r0), .val (.ref b0), .val (.ref r1), .val (.ref b1), .val (.ref q), .unset, .unset, .unset, .unset, .unset, .unset, .unset] [(.int (-1 : Int32)), (.int i4), (.double d2), (.ref q)])) _
      refine XS.ixor X11.here hx rfl (hb hby at_79) rfl ?_
      show Steps p.tables e below (T11.setTop (mkF m 80 #[.val (.int i0), .val (.int i1), .val (.int i2), .val (.int i3), .val (.int i4), .val (.int i5), .val (.ref r0), .val (.ref b0), .val (.ref r1), .val (.ref b1), .val (.ref q), .unset, .unset, .unset, .unset, .unset, .unset, .unset] [(.int (i4 ^^^ (-1 : Int32))), (.double d2), (.ref q)])) _
      refine XS.aload X11.here hx rfl (hb hby at_80) rfl rfl ?_
      show Steps p.tables e below (T11.setTop (mkF m 82 #[.val (.int i0), .val (.int i1), .val (.int i2), .val (.int i3), .val (.int i4), .val (.int i5), .val (.ref r0), .val (.ref b0), .val (.ref r1), .val (.ref b1), .val (.ref q), .unset, .unset, .unset, .unset, .unset, .unset, .unset] [(.ref r1), (.int (i4 ^^^ (-1 : Int32))), (.double d2), (.ref q)])) _
      refine XS.iloadN X11.here hx rfl (hb hby at_82) rfl ?_
      show Steps p.tables e below (T11.setTop (mkF m 83 #[.val (.int i0), .val (.int i1), .val (.int i2), .val (.int i3), .val (.int i4), .val (.int i5), .val (.ref r0), .val (.ref b0), .val (.ref r1), .val (.ref b1), .val (.ref q), .unset, .unset, .unset, .unset, .unset, .unset, .unset] [(.int i3), (.ref r1), (.int (i4 ^^^ (-1 : Int32))), (.double d2), (.ref q)])) _
      refine XS.iloadN X11.here hx rfl (hb hby at_83) rfl ?_
      show Steps p.tables e below (T11.setTop (mkF m 84 #[.val (.int i0), .val (.int i1), .val (.int i2), .val (.int i3), .val (.int i4), .val (.int i5), .val (.ref r0), .val (.ref b0), .val (.ref r1), .val (.ref b1), .val (.ref q), .unset, .unset, .unset, .unset, .unset, .unset, .unset] [(.int i2), (.int i3), (.ref r1), (.int (i4 ^^^ (-1 : Int32))), (.double d2), (.ref q)])) _
      refine XS.aload X11.here hx rfl (hb hby at_84) rfl rfl ?_
      show Steps p.tables e below (T11.setTop (mkF m 86 #[.val (.int i0), .val (.int i1), .val (.int i2), .val (.int i3), .val (.int i4), .val (.int i5), .val (.ref r0), .val (.ref b0), .val (.ref r1), .val (.ref b1), .val (.ref q), .unset, .unset, .unset, .unset, .unset, .unset, .unset] [(.ref b1), (.int i2), (.int i3), (.ref r1), (.int (i4 ^^^ (-1 : Int32))), (.double d2), (.ref q)])) _
      refine XS.iloadN X11.here hx rfl (hb hby at_86) rfl ?_
      show Steps p.tables e below (T11.setTop (mkF m 87 #[.val (.int i0), .val (.int i1), .val (.int i2), .val (.int i3), .val (.int i4), .val (.int i5), .val (.ref r0), .val (.ref b0), .val (.ref r1), .val (.ref b1), .val (.ref q), .unset, .unset, .unset, .unset, .unset, .unset, .unset] [(.int i1), (.ref b1), (.int i2), (.int i3), (.ref r1), (.int (i4 ^^^ (-1 : Int32))), (.double d2), (.ref q)])) _
      refine XS.iloadN X11.here hx rfl (hb hby at_87) rfl ?_
      show Steps p.tables e below (T11.setTop (mkF m 88 #[.val (.int i0), .val (.int i1), .val (.int i2), .val (.int i3), .val (.int i4), .val (.int i5), .val (.ref r0), .val (.ref b0), .val (.ref r1), .val (.ref b1), .val (.ref q), .unset, .unset, .unset, .unset, .unset, .unset, .unset] [(.int i0), (.int i1), (.ref b1), (.int i2), (.int i3), (.ref r1), (.int (i4 ^^^ (-1 : Int32))), (.double d2), (.ref q)])) _
      refine st12.trans ?_
      show Steps p.tables e below (T12.setTop (mkF m 91 #[.val (.int i0), .val (.int i1), .val (.int i2), .val (.int i3), .val (.int i4), .val (.int i5), .val (.ref r0), .val (.ref b0), .val (.ref r1), .val (.ref b1), .val (.ref q), .unset, .unset, .unset, .unset, .unset, .unset, .unset] [])) _
      refine XS.iload X12.here hx rfl (hb hby at_91) rfl ?_
      show Steps p.tables e below (T12.setTop (mkF m 93 #[.val (.int i0), .val (.int i1), .val (.int i2), .val (.int i3), .val (.int i4), .val (.int i5), .val (.ref r0), .val (.ref b0), .val (.ref r1), .val (.ref b1), .val (.ref q), .unset, .unset, .unset, .unset, .unset, .unset, .unset] [(.int i5)])) _
      refine XS.bipush X12.here hx rfl (hb hby at_93) ?_
      show Steps p.tables e below (T12.setTop (mkF m 95 #[.val (.int i0), .val (.int i1), .val (.int i2), .val (.int i3), .val (.int i4), .val (.int i5), .val (.ref r0), .val (.ref b0), .val (.ref r1), .val (.ref b1), .val (.ref q), .unset, .unset, .unset, .unset, .unset, .unset, .unset] [(.int (6 : Int32)), (.int i5)])) _
      refine XS.ishr X12.here hx rfl (hb hby at_95) rfl ?_
      show Steps p.tables e below (T12.setTop (mkF m 96 #[.val (.int i0), .val (.int i1), .val (.int i2), .val (.int i3), .val (.int i4), .val (.int i5), .val (.ref r0), .val (.ref b0), .val (.ref r1), .val (.ref b1), .val (.ref q), .unset, .unset, .unset, .unset, .unset, .unset, .unset] [(.int (i5 >>> ((6 : Int32) &&& 31)))])) _
      refine XS.iconst X12.here hx rfl (hb hby at_96) ?_
      show Steps p.tables e below (T12.setTop (mkF m 97 #[.val (.int i0), .val (.int i1), .val (.int i2), .val (.int i3), .val (.int i4), .val (.int i5), .val (.ref r0), .val (.ref b0), .val (.ref r1), .val (.ref b1), .val (.ref q), .unset, .unset, .unset, .unset, .unset, .unset, .unset] [(.int (1 : Int32)), (.int (i5 >>> ((6 : Int32) &&& 31)))])) _
      refine XS.iand X12.here hx rfl (hb hby at_97) rfl ?_
      rw [ht]
      show Steps p.tables e below (T12.setTop (mkF m 98 #[.val (.int i0), .val (.int i1), .val (.int i2), .val (.int i3), .val (.int i4), .val (.int i5), .val (.ref r0), .val (.ref b0), .val (.ref r1), .val (.ref b1), .val (.ref q), .unset, .unset, .unset, .unset, .unset, .unset, .unset] [(.int (0 : Int32))])) _
      refine XS.istore X12.here hx rfl (hb hby at_98) rfl (l' := #[.val (.int i0), .val (.int i1), .val (.int i2), .val (.int i3), .val (.int i4), .val (.int i5), .val (.ref r0), .val (.ref b0), .val (.ref r1), .val (.ref b1), .val (.ref q), .val (.int (0 : Int32)), .unset, .unset, .unset, .unset, .unset, .unset]) rfl ?_
      show Steps p.tables e below (T12.setTop (mkF m 100 #[.val (.int i0), .val (.int i1), .val (.int i2), .val (.int i3), .val (.int i4), .val (.int i5), .val (.ref r0), .val (.ref b0), .val (.ref r1), .val (.ref b1), .val (.ref q), .val (.int (0 : Int32)), .unset, .unset, .unset, .unset, .unset, .unset] [])) _
      refine XS.iconst X12.here hx rfl (hb hby at_100) ?_
      show Steps p.tables e below (T12.setTop (mkF m 101 #[.val (.int i0), .val (.int i1), .val (.int i2), .val (.int i3), .val (.int i4), .val (.int i5), .val (.ref r0), .val (.ref b0), .val (.ref r1), .val (.ref b1), .val (.ref q), .val (.int (0 : Int32)), .unset, .unset, .unset, .unset, .unset, .unset] [(.int (1 : Int32))])) _
      refine XS.iload X12.here hx rfl (hb hby at_101) rfl ?_
      show Steps p.tables e below (T12.setTop (mkF m 103 #[.val (.int i0), .val (.int i1), .val (.int i2), .val (.int i3), .val (.int i4), .val (.int i5), .val (.ref r0), .val (.ref b0), .val (.ref r1), .val (.ref b1), .val (.ref q), .val (.int (0 : Int32)), .unset, .unset, .unset, .unset, .unset, .unset] [(.int (0 : Int32)), (.int (1 : Int32))])) _
      refine XS.isub X12.here hx rfl (hb hby at_103) rfl ?_
      rw [own_s0]
      show Steps p.tables e below (T12.setTop (mkF m 104 #[.val (.int i0), .val (.int i1), .val (.int i2), .val (.int i3), .val (.int i4), .val (.int i5), .val (.ref r0), .val (.ref b0), .val (.ref r1), .val (.ref b1), .val (.ref q), .val (.int (0 : Int32)), .unset, .unset, .unset, .unset, .unset, .unset] [(.int (1 : Int32))])) _
      refine XS.istore X12.here hx rfl (hb hby at_104) rfl (l' := #[.val (.int i0), .val (.int i1), .val (.int i2), .val (.int i3), .val (.int i4), .val (.int i5), .val (.ref r0), .val (.ref b0), .val (.ref r1), .val (.ref b1), .val (.ref q), .val (.int (0 : Int32)), .val (.int (1 : Int32)), .unset, .unset, .unset, .unset, .unset]) rfl ?_
      show Steps p.tables e below (T12.setTop (mkF m 106 #[.val (.int i0), .val (.int i1), .val (.int i2), .val (.int i3), .val (.int i4), .val (.int i5), .val (.ref r0), .val (.ref b0), .val (.ref r1), .val (.ref b1), .val (.ref q), .val (.int (0 : Int32)), .val (.int (1 : Int32)), .unset, .unset, .unset, .unset, .unset] [])) _
      refine XS.iload X12.here hx rfl (hb hby at_106) rfl ?_
      show Steps p.tables e below (T12.setTop (mkF m 108 #[.val (.int i0), .val (.int i1), .val (.int i2), .val (.int i3), .val (.int i4), .val (.int i5), .val (.ref r0), .val (.ref b0), .val (.ref r1), .val (.ref b1), .val (.ref q), .val (.int (0 : Int32)), .val (.int (1 : Int32)), .unset, .unset, .unset, .unset, .unset] [(.int (0 : Int32))])) _
      refine XS.ifNo X12.here hx rfl (hb hby at_108) rfl (by decide) ?_
      show Steps p.tables e below (T12.setTop (mkF m 111 #[.val (.int i0), .val (.int i1), .val (.int i2), .val (.int i3), .val (.int i4), .val (.int i5), .val (.ref r0), .val (.ref b0), .val (.ref r1), .val (.ref b1), .val (.ref q), .val (.int (0 : Int32)), .val (.int (1 : Int32)), .unset, .unset, .unset, .unset, .unset] [])) _
      refine XS.aload X12.here hx rfl (hb hby at_111) rfl rfl ?_
      show Steps p.tables e below (T12.setTop (mkF m 113 #[.val (.int i0), .val (.int i1), .val (.int i2), .val (.int i3), .val (.int i4), .val (.int i5), .val (.ref r0), .val (.ref b0), .val (.ref r1), .val (.ref b1), .val (.ref q), .val (.int (0 : Int32)), .val (.int (1 : Int32)), .unset, .unset, .unset, .unset, .unset] [(.ref b0)])) _
      refine XS.goto X12.here hx rfl (pc0 := 113) (pc' := 118) rfl (hb hby at_113) (by decide) (by decide) ?_
      show Steps p.tables e below (T12.setTop (mkF m 118 #[.val (.int i0), .val (.int i1), .val (.int i2), .val (.int i3), .val (.int i4), .val (.int i5), .val (.ref r0), .val (.ref b0), .val (.ref r1), .val (.ref b1), .val (.ref q), .val (.int (0 : Int32)), .val (.int (1 : Int32)), .unset, .unset, .unset, .unset, .unset] [(.ref b0)])) _
      refine XS.astore X12.here hx rfl (hb hby at_118) rfl rfl (l' := #[.val (.int i0), .val (.int i1), .val (.int i2), .val (.int i3), .val (.int i4), .val (.int i5), .val (.ref r0), .val (.ref b0), .val (.ref r1), .val (.ref b1), .val (.ref q), .val (.int (0 : Int32)), .val (.int (1 : Int32)), .val (.ref b0), .unset, .unset, .unset, .unset]) rfl ?_
      show Steps p.tables e below (T12.setTop (mkF m 120 #[.val (.int i0), .val (.int i1), .val (.int i2), .val (.int i3), .val (.int i4), .val (.int i5), .val (.ref r0), .val (.ref b0), .val (.ref r1), .val (.ref b1), .val (.ref q), .val (.int (0 : Int32)), .val (.int (1 : Int32)), .val (.ref b0), .unset, .unset, .unset, .unset] [])) _
      refine XS.iload X12.here hx rfl (hb hby at_120) rfl ?_
      show Steps p.tables e below (T12.setTop (mkF m 122 #[.val (.int i0), .val (.int i1), .val (.int i2), .val (.int i3), .val (.int i4), .val (.int i5), .val (.ref r0), .val (.ref b0), .val (.ref r1), .val (.ref b1), .val (.ref q), .val (.int (0 : Int32)), .val (.int (1 : Int32)), .val (.ref b0), .unset, .unset, .unset, .unset] [(.int (0 : Int32))])) _
      refine XS.ifNo X12.here hx rfl (hb hby at_122) rfl (by decide) ?_
      show Steps p.tables e below (T12.setTop (mkF m 125 #[.val (.int i0), .val (.int i1), .val (.int i2), .val (.int i3), .val (.int i4), .val (.int i5), .val (.ref r0), .val (.ref b0), .val (.ref r1), .val (.ref b1), .val (.ref q), .val (.int (0 : Int32)), .val (.int (1 : Int32)), .val (.ref b0), .unset, .unset, .unset, .unset] [])) _
      refine XS.iloadN X12.here hx rfl (hb hby at_125) rfl ?_
      show Steps p.tables e below (T12.setTop (mkF m 126 #[.val (.int i0), .val (.int i1), .val (.int i2), .val (.int i3), .val (.int i4), .val (.int i5), .val (.ref r0), .val (.ref b0), .val (.ref r1), .val (.ref b1), .val (.ref q), .val (.int (0 : Int32)), .val (.int (1 : Int32)), .val (.ref b0), .unset, .unset, .unset, .unset] [(.int i2)])) _
      refine XS.goto X12.here hx rfl (pc0 := 126) (pc' := 130) rfl (hb hby at_126) (by decide) (by decide) ?_
      show Steps p.tables e below (T12.setTop (mkF m 130 #[.val (.int i0), .val (.int i1), .val (.int i2), .val (.int i3), .val (.int i4), .val (.int i5), .val (.ref r0), .val (.ref b0), .val (.ref r1), .val (.ref b1), .val (.ref q), .val (.int (0 : Int32)), .val (.int (1 : Int32)), .val (.ref b0), .unset, .unset, .unset, .unset] [(.int i2)])) _
      refine XS.istore X12.here hx rfl (hb hby at_130) rfl (l' := #[.val (.int i0), .val (.int i1), .val (.int i2), .val (.int i3), .val (.int i4), .val (.int i5), .val (.ref r0), .val (.ref b0), .val (.ref r1), .val (.ref b1), .val (.ref q), .val (.int (0 : Int32)), .val (.int (1 : Int32)), .val (.ref b0), .val (.int i2), .unset, .unset, .unset]) rfl ?_
      show Steps p.tables e below (T12.setTop (mkF m 132 #[.val (.int i0), .val (.int i1), .val (.int i2), .val (.int i3), .val (.int i4), .val (.int i5), .val (.ref r0), .val (.ref b0), .val (.ref r1), .val (.ref b1), .val (.ref q), .val (.int (0 : Int32)), .val (.int (1 : Int32)), .val (.ref b0), .val (.int i2), .unset, .unset, .unset] [])) _
      refine XS.iload X12.here hx rfl (hb hby at_132) rfl ?_
      show Steps p.tables e below (T12.setTop (mkF m 134 #[.val (.int i0), .val (.int i1), .val (.int i2), .val (.int i3), .val (.int i4), .val (.int i5), .val (.ref r0), .val (.ref b0), .val (.ref r1), .val (.ref b1), .val (.ref q), .val (.int (0 : Int32)), .val (.int (1 : Int32)), .val (.ref b0), .val (.int i2), .unset, .unset, .unset] [(.int (0 : Int32))])) _
      refine XS.ifNo X12.here hx rfl (hb hby at_134) rfl (by decide) ?_
      show Steps p.tables e below (T12.setTop (mkF m 137 #[.val (.int i0), .val (.int i1), .val (.int i2), .val (.int i3), .val (.int i4), .val (.int i5), .val (.ref r0), .val (.ref b0), .val (.ref r1), .val (.ref b1), .val (.ref q), .val (.int (0 : Int32)), .val (.int (1 : Int32)), .val (.ref b0), .val (.int i2), .unset, .unset, .unset] [])) _
      refine XS.iloadN X12.here hx rfl (hb hby at_137) rfl ?_
      show Steps p.tables e below (T12.setTop (mkF m 138 #[.val (.int i0), .val (.int i1), .val (.int i2), .val (.int i3), .val (.int i4), .val (.int i5), .val (.ref r0), .val (.ref b0), .val (.ref r1), .val (.ref b1), .val (.ref q), .val (.int (0 : Int32)), .val (.int (1 : Int32)), .val (.ref b0), .val (.int i2), .unset, .unset, .unset] [(.int i3)])) _
      refine XS.goto X12.here hx rfl (pc0 := 138) (pc' := 142) rfl (hb hby at_138) (by decide) (by decide) ?_
      show Steps p.tables e below (T12.setTop (mkF m 142 #[.val (.int i0), .val (.int i1), .val (.int i2), .val (.int i3), .val (.int i4), .val (.int i5), .val (.ref r0), .val (.ref b0), .val (.ref r1), .val (.ref b1), .val (.ref q), .val (.int (0 : Int32)), .val (.int (1 : Int32)), .val (.ref b0), .val (.int i2), .unset, .unset, .unset] [(.int i3)])) _
      refine XS.istore X12.here hx rfl (hb hby at_142) rfl (l' := #[.val (.int i0), .val (.int i1), .val (.int i2), .val (.int i3), .val (.int i4), .val (.int i5), .val (.ref r0), .val (.ref b0), .val (.ref r1), .val (.ref b1), .val (.ref q), .val (.int (0 : Int32)), .val (.int (1 : Int32)), .val (.ref b0), .val (.int i2), .val (.int i3), .unset, .unset]) rfl ?_
      show Steps p.tables e below (T12.setTop (mkF m 144 #[.val (.int i0), .val (.int i1), .val (.int i2), .val (.int i3), .val (.int i4), .val (.int i5), .val (.ref r0), .val (.ref b0), .val (.ref r1), .val (.ref b1), .val (.ref q), .val (.int (0 : Int32)), .val (.int (1 : Int32)), .val (.ref b0), .val (.int i2), .val (.int i3), .unset, .unset] [])) _
      refine XS.iload X12.here hx rfl (hb hby at_144) rfl ?_
      show Steps p.tables e below (T12.setTop (mkF m 146 #[.val (.int i0), .val (.int i1), .val (.int i2), .val (.int i3), .val (.int i4), .val (.int i5), .val (.ref r0), .val (.ref b0), .val (.ref r1), .val (.ref b1), .val (.ref q), .val (.int (0 : Int32)), .val (.int (1 : Int32)), .val (.ref b0), .val (.int i2), .val (.int i3), .unset, .unset] [(.int (0 : Int32))])) _
      refine XS.ifNo X12.here hx rfl (hb hby at_146) rfl (by decide) ?_
      show Steps p.tables e below (T12.setTop (mkF m 149 #[.val (.int i0), .val (.int i1), .val (.int i2), .val (.int i3), .val (.int i4), .val (.int i5), .val (.ref r0), .val (.ref b0), .val (.ref r1), .val (.ref b1), .val (.ref q), .val (.int (0 : Int32)), .val (.int (1 : Int32)), .val (.ref b0), .val (.int i2), .val (.int i3), .unset, .unset] [])) _
      refine XS.aload X12.here hx rfl (hb hby at_149) rfl rfl ?_
      show Steps p.tables e below (T12.setTop (mkF m 151 #[.val (.int i0), .val (.int i1), .val (.int i2), .val (.int i3), .val (.int i4), .val (.int i5), .val (.ref r0), .val (.ref b0), .val (.ref r1), .val (.ref b1), .val (.ref q), .val (.int (0 : Int32)), .val (.int (1 : Int32)), .val (.ref b0), .val (.int i2), .val (.int i3), .unset, .unset] [(.ref r1)])) _
      refine XS.goto X12.here hx rfl (pc0 := 151) (pc' := 156) rfl (hb hby at_151) (by decide) (by decide) ?_
      show Steps p.tables e below (T12.setTop (mkF m 156 #[.val (.int i0), .val (.int i1), .val (.int i2), .val (.int i3), .val (.int i4), .val (.int i5), .val (.ref r0), .val (.ref b0), .val (.ref r1), .val (.ref b1), .val (.ref q), .val (.int (0 : Int32)), .val (.int (1 : Int32)), .val (.ref b0), .val (.int i2), .val (.int i3), .unset, .unset] [(.ref r1)])) _
      refine XS.astore X12.here hx rfl (hb hby at_156) rfl rfl (l' := #[.val (.int i0), .val (.int i1), .val (.int i2), .val (.int i3), .val (.int i4), .val (.int i5), .val (.ref r0), .val (.ref b0), .val (.ref r1), .val (.ref b1), .val (.ref q), .val (.int (0 : Int32)), .val (.int (1 : Int32)), .val (.ref b0), .val (.int i2), .val (.int i3), .val (.ref r1), .unset]) rfl ?_
      show Steps p.tables e below (T12.setTop (mkF m 158 #[.val (.int i0), .val (.int i1), .val (.int i2), .val (.int i3), .val (.int i4), .val (.int i5), .val (.ref r0), .val (.ref b0), .val (.ref r1), .val (.ref b1), .val (.ref q), .val (.int (0 : Int32)), .val (.int (1 : Int32)), .val (.ref b0), .val (.int i2), .val (.int i3), .val (.ref r1), .unset] [])) _
      refine XS.iload X12.here hx rfl (hb hby at_158) rfl ?_
      show Steps p.tables e below (T12.setTop (mkF m 160 #[.val (.int i0), .val (.int i1), .val (.int i2), .val (.int i3), .val (.int i4), .val (.int i5), .val (.ref r0), .val (.ref b0), .val (.ref r1), .val (.ref b1), .val (.ref q), .val (.int (0 : Int32)), .val (.int (1 : Int32)), .val (.ref b0), .val (.int i2), .val (.int i3), .val (.ref r1), .unset] [(.int (0 : Int32))])) _
      refine XS.ifNo X12.here hx rfl (hb hby at_160) rfl (by decide) ?_
      show Steps p.tables e below (T12.setTop (mkF m 163 #[.val (.int i0), .val (.int i1), .val (.int i2), .val (.int i3), .val (.int i4), .val (.int i5), .val (.ref r0), .val (.ref b0), .val (.ref r1), .val (.ref b1), .val (.ref q), .val (.int (0 : Int32)), .val (.int (1 : Int32)), .val (.ref b0), .val (.int i2), .val (.int i3), .val (.ref r1), .unset] [])) _
      refine XS.aload X12.here hx rfl (hb hby at_163) rfl rfl ?_
      show Steps p.tables e below (T12.setTop (mkF m 165 #[.val (.int i0), .val (.int i1), .val (.int i2), .val (.int i3), .val (.int i4), .val (.int i5), .val (.ref r0), .val (.ref b0), .val (.ref r1), .val (.ref b1), .val (.ref q), .val (.int (0 : Int32)), .val (.int (1 : Int32)), .val (.ref b0), .val (.int i2), .val (.int i3), .val (.ref r1), .unset] [(.ref b1)])) _
      refine XS.goto X12.here hx rfl (pc0 := 165) (pc' := 170) rfl (hb hby at_165) (by decide) (by decide) ?_
      show Steps p.tables e below (T12.setTop (mkF m 170 #[.val (.int i0), .val (.int i1), .val (.int i2), .val (.int i3), .val (.int i4), .val (.int i5), .val (.ref r0), .val (.ref b0), .val (.ref r1), .val (.ref b1), .val (.ref q), .val (.int (0 : Int32)), .val (.int (1 : Int32)), .val (.ref b0), .val (.int i2), .val (.int i3), .val (.ref r1), .unset] [(.ref b1)])) _
      refine XS.astore X12.here hx rfl (hb hby at_170) rfl rfl (l' := #[.val (.int i0), .val (.int i1), .val (.int i2), .val (.int i3), .val (.int i4), .val (.int i5), .val (.ref r0), .val (.ref b0), .val (.ref r1), .val (.ref b1), .val (.ref q), .val (.int (0 : Int32)), .val (.int (1 : Int32)), .val (.ref b0), .val (.int i2), .val (.int i3), .val (.ref r1), .val (.ref b1)]) rfl ?_
      show Steps p.tables e below (T12.setTop (mkF m 172 #[.val (.int i0), .val (.int i1), .val (.int i2), .val (.int i3), .val (.int i4), .val (.int i5), .val (.ref r0), .val (.ref b0), .val (.ref r1), .val (.ref b1), .val (.ref q), .val (.int (0 : Int32)), .val (.int (1 : Int32)), .val (.ref b0), .val (.int i2), .val (.int i3), .val (.ref r1), .val (.ref b1)] [])) _
      refine XS.aload X12.here hx rfl (hb hby at_172) rfl rfl ?_
      show Steps p.tables e below (T12.setTop (mkF m 174 #[.val (.int i0), .val (.int i1), .val (.int i2), .val (.int i3), .val (.int i4), .val (.int i5), .val (.ref r0), .val (.ref b0), .val (.ref r1), .val (.ref b1), .val (.ref q), .val (.int (0 : Int32)), .val (.int (1 : Int32)), .val (.ref b0), .val (.int i2), .val (.int i3), .val (.ref r1), .val (.ref b1)] [(.ref q)])) _
      refine XS.iload X12.here hx rfl (hb hby at_174) rfl ?_
      show Steps p.tables e below (T12.setTop (mkF m 176 #[.val (.int i0), .val (.int i1), .val (.int i2), .val (.int i3), .val (.int i4), .val (.int i5), .val (.ref r0), .val (.ref b0), .val (.ref r1), .val (.ref b1), .val (.ref q), .val (.int (0 : Int32)), .val (.int (1 : Int32)), .val (.ref b0), .val (.int i2), .val (.int i3), .val (.ref r1), .val (.ref b1)] [(.int (0 : Int32)), (.ref q)])) _
      refine st13.trans ?_
      show Steps p.tables e below (T13.setTop (mkF m 179 #[.val (.int i0), .val (.int i1), .val (.int i2), .val (.int i3), .val (.int i4), .val (.int i5), .val (.ref r0), .val (.ref b0), .val (.ref r1), .val (.ref b1), .val (.ref q), .val (.int (0 : Int32)), .val (.int (1 : Int32)), .val (.ref b0), .val (.int i2), .val (.int i3), .val (.ref r1), .val (.ref b1)] [])) _
      refine XS.aload X13.here hx rfl (hb hby at_179) rfl rfl ?_
      show Steps p.tables e below (T13.setTop (mkF m 181 #[.val (.int i0), .val (.int i1), .val (.int i2), .val (.int i3), .val (.int i4), .val (.int i5), .val (.ref r0), .val (.ref b0), .val (.ref r1), .val (.ref b1), .val (.ref q), .val (.int (0 : Int32)), .val (.int (1 : Int32)), .val (.ref b0), .val (.int i2), .val (.int i3), .val (.ref r1), .val (.ref b1)] [(.ref q)])) _
      refine XS.iload X13.here hx rfl (hb hby at_181) rfl ?_
      show Steps p.tables e below (T13.setTop (mkF m 183 #[.val (.int i0), .val (.int i1), .val (.int i2), .val (.int i3), .val (.int i4), .val (.int i5), .val (.ref r0), .val (.ref b0), .val (.ref r1), .val (.ref b1), .val (.ref q), .val (.int (0 : Int32)), .val (.int (1 : Int32)), .val (.ref b0), .val (.int i2), .val (.int i3), .val (.ref r1), .val (.ref b1)] [(.int (0 : Int32)), (.ref q)])) _
      refine st14.trans ?_
      show Steps p.tables e below (T14.setTop (mkF m 186 #[.val (.int i0), .val (.int i1), .val (.int i2), .val (.int i3), .val (.int i4), .val (.int i5), .val (.ref r0), .val (.ref b0), .val (.ref r1), .val (.ref b1), .val (.ref q), .val (.int (0 : Int32)), .val (.int (1 : Int32)), .val (.ref b0), .val (.int i2), .val (.int i3), .val (.ref r1), .val (.ref b1)] [(.ref b0)])) _
      refine XS.aload X14.here hx rfl (hb hby at_186) rfl rfl ?_
      show Steps p.tables e below (T14.setTop (mkF m 188 #[.val (.int i0), .val (.int i1), .val (.int i2), .val (.int i3), .val (.int i4), .val (.int i5), .val (.ref r0), .val (.ref b0), .val (.ref r1), .val (.ref b1), .val (.ref q), .val (.int (0 : Int32)), .val (.int (1 : Int32)), .val (.ref b0), .val (.int i2), .val (.int i3), .val (.ref r1), .val (.ref b1)] [(.ref b0), (.ref b0)])) _
      refine XS.acmpNo X14.here hx rfl (hb hby at_188) rfl (by simp [if_acmp.holds]) ?_
      show Steps p.tables e below (T14.setTop (mkF m 191 #[.val (.int i0), .val (.int i1), .val (.int i2), .val (.int i3), .val (.int i4), .val (.int i5), .val (.ref r0), .val (.ref b0), .val (.ref r1), .val (.ref b1), .val (.ref q), .val (.int (0 : Int32)), .val (.int (1 : Int32)), .val (.ref b0), .val (.int i2), .val (.int i3), .val (.ref r1), .val (.ref b1)] [])) _
      refine XS.aload X14.here hx rfl (hb hby at_191) rfl rfl ?_
      show Steps p.tables e below (T14.setTop (mkF m 193 #[.val (.int i0), .val (.int i1), .val (.int i2), .val (.int i3), .val (.int i4), .val (.int i5), .val (.ref r0), .val (.ref b0), .val (.ref r1), .val (.ref b1), .val (.ref q), .val (.int (0 : Int32)), .val (.int (1 : Int32)), .val (.ref b0), .val (.int i2), .val (.int i3), .val (.ref r1), .val (.ref b1)] [(.ref q)])) _
      refine XS.iload X14.here hx rfl (hb hby at_193) rfl ?_
      show Steps p.tables e below (T14.setTop (mkF m 195 #[.val (.int i0), .val (.int i1), .val (.int i2), .val (.int i3), .val (.int i4), .val (.int i5), .val (.ref r0), .val (.ref b0), .val (.ref r1), .val (.ref b1), .val (.ref q), .val (.int (0 : Int32)), .val (.int (1 : Int32)), .val (.ref b0), .val (.int i2), .val (.int i3), .val (.ref r1), .val (.ref b1)] [(.int (0 : Int32)), (.ref q)])) _
      refine st15.trans ?_
      show Steps p.tables e below (T15.setTop (mkF m 198 #[.val (.int i0), .val (.int i1), .val (.int i2), .val (.int i3), .val (.int i4), .val (.int i5), .val (.ref r0), .val (.ref b0), .val (.ref r1), .val (.ref b1), .val (.ref q), .val (.int (0 : Int32)), .val (.int (1 : Int32)), .val (.ref b0), .val (.int i2), .val (.int i3), .val (.ref r1), .val (.ref b1)] [(.int i2)])) _
      refine XS.iload X15.here hx rfl (hb hby at_198) rfl ?_
      show Steps p.tables e below (T15.setTop (mkF m 200 #[.val (.int i0), .val (.int i1), .val (.int i2), .val (.int i3), .val (.int i4), .val (.int i5), .val (.ref r0), .val (.ref b0), .val (.ref r1), .val (.ref b1), .val (.ref q), .val (.int (0 : Int32)), .val (.int (1 : Int32)), .val (.ref b0), .val (.int i2), .val (.int i3), .val (.ref r1), .val (.ref b1)] [(.int i2), (.int i2)])) _
      refine XS.icmpNo X15.here hx rfl (hb hby at_200) rfl (teq rfl).2 ?_
      show Steps p.tables e below (T15.setTop (mkF m 203 #[.val (.int i0), .val (.int i1), .val (.int i2), .val (.int i3), .val (.int i4), .val (.int i5), .val (.ref r0), .val (.ref b0), .val (.ref r1), .val (.ref b1), .val (.ref q), .val (.int (0 : Int32)), .val (.int (1 : Int32)), .val (.ref b0), .val (.int i2), .val (.int i3), .val (.ref r1), .val (.ref b1)] [])) _
      refine XS.aload X15.here hx rfl (hb hby at_203) rfl rfl ?_
      show Steps p.tables e below (T15.setTop (mkF m 205 #[.val (.int i0), .val (.int i1), .val (.int i2), .val (.int i3), .val (.int i4), .val (.int i5), .val (.ref r0), .val (.ref b0), .val (.ref r1), .val (.ref b1), .val (.ref q), .val (.int (0 : Int32)), .val (.int (1 : Int32)), .val (.ref b0), .val (.int i2), .val (.int i3), .val (.ref r1), .val (.ref b1)] [(.ref q)])) _
      refine XS.iload X15.here hx rfl (hb hby at_205) rfl ?_
      show Steps p.tables e below (T15.setTop (mkF m 207 #[.val (.int i0), .val (.int i1), .val (.int i2), .val (.int i3), .val (.int i4), .val (.int i5), .val (.ref r0), .val (.ref b0), .val (.ref r1), .val (.ref b1), .val (.ref q), .val (.int (0 : Int32)), .val (.int (1 : Int32)), .val (.ref b0), .val (.int i2), .val (.int i3), .val (.ref r1), .val (.ref b1)] [(.int (0 : Int32)), (.ref q)])) _
      refine st16.trans ?_
      show Steps p.tables e below (T16.setTop (mkF m 210 #[.val (.int i0), .val (.int i1), .val (.int i2), .val (.int i3), .val (.int i4), .val (.int i5), .val (.ref r0), .val (.ref b0), .val (.ref r1), .val (.ref b1), .val (.ref q), .val (.int (0 : Int32)), .val (.int (1 : Int32)), .val (.ref b0), .val (.int i2), .val (.int i3), .val (.ref r1), .val (.ref b1)] [(.int i3)])) _
      refine XS.iload X16.here hx rfl (hb hby at_210) rfl ?_
      show Steps p.tables e below (T16.setTop (mkF m 212 #[.val (.int i0), .val (.int i1), .val (.int i2), .val (.int i3), .val (.int i4), .val (.int i5), .val (.ref r0), .val (.ref b0), .val (.ref r1), .val (.ref b1), .val (.ref q), .val (.int (0 : Int32)), .val (.int (1 : Int32)), .val (.ref b0), .val (.int i2), .val (.int i3), .val (.ref r1), .val (.ref b1)] [(.int i3), (.int i3)])) _
      refine XS.icmpNo X16.here hx rfl (hb hby at_212) rfl (teq rfl).2 ?_
      show Steps p.tables e below (T16.setTop (mkF m 215 #[.val (.int i0), .val (.int i1), .val (.int i2), .val (.int i3), .val (.int i4), .val (.int i5), .val (.ref r0), .val (.ref b0), .val (.ref r1), .val (.ref b1), .val (.ref q), .val (.int (0 : Int32)), .val (.int (1 : Int32)), .val (.ref b0), .val (.int i2), .val (.int i3), .val (.ref r1), .val (.ref b1)] [])) _
      refine XS.aload X16.here hx rfl (hb hby at_215) rfl rfl ?_
      show Steps p.tables e below (T16.setTop (mkF m 217 #[.val (.int i0), .val (.int i1), .val (.int i2), .val (.int i3), .val (.int i4), .val (.int i5), .val (.ref r0), .val (.ref b0), .val (.ref r1), .val (.ref b1), .val (.ref q), .val (.int (0 : Int32)), .val (.int (1 : Int32)), .val (.ref b0), .val (.int i2), .val (.int i3), .val (.ref r1), .val (.ref b1)] [(.ref q)])) _
      refine XS.iload X16.here hx rfl (hb hby at_217) rfl ?_
      show Steps p.tables e below (T16.setTop (mkF m 219 #[.val (.int i0), .val (.int i1), .val (.int i2), .val (.int i3), .val (.int i4), .val (.int i5), .val (.ref r0), .val (.ref b0), .val (.ref r1), .val (.ref b1), .val (.ref q), .val (.int (0 : Int32)), .val (.int (1 : Int32)), .val (.ref b0), .val (.int i2), .val (.int i3), .val (.ref r1), .val (.ref b1)] [(.int (0 : Int32)), (.ref q)])) _
      refine st17.trans ?_
      show Steps p.tables e below (T17.setTop (mkF m 222 #[.val (.int i0), .val (.int i1), .val (.int i2), .val (.int i3), .val (.int i4), .val (.int i5), .val (.ref r0), .val (.ref b0), .val (.ref r1), .val (.ref b1), .val (.ref q), .val (.int (0 : Int32)), .val (.int (1 : Int32)), .val (.ref b0), .val (.int i2), .val (.int i3), .val (.ref r1), .val (.ref b1)] [.null])) _
      refine XS.ifnonnullNo X17.here hx rfl (hb hby at_222) rfl ?_
      show Steps p.tables e below (T17.setTop (mkF m 225 #[.val (.int i0), .val (.int i1), .val (.int i2), .val (.int i3), .val (.int i4), .val (.int i5), .val (.ref r0), .val (.ref b0), .val (.ref r1), .val (.ref b1), .val (.ref q), .val (.int (0 : Int32)), .val (.int (1 : Int32)), .val (.ref b0), .val (.int i2), .val (.int i3), .val (.ref r1), .val (.ref b1)] [])) _
      refine XS.aload X17.here hx rfl (hb hby at_225) rfl rfl ?_
      show Steps p.tables e below (T17.setTop (mkF m 227 #[.val (.int i0), .val (.int i1), .val (.int i2), .val (.int i3), .val (.int i4), .val (.int i5), .val (.ref r0), .val (.ref b0), .val (.ref r1), .val (.ref b1), .val (.ref q), .val (.int (0 : Int32)), .val (.int (1 : Int32)), .val (.ref b0), .val (.int i2), .val (.int i3), .val (.ref r1), .val (.ref b1)] [(.ref q)])) _
      refine XS.iload X17.here hx rfl (hb hby at_227) rfl ?_
      show Steps p.tables e below (T17.setTop (mkF m 229 #[.val (.int i0), .val (.int i1), .val (.int i2), .val (.int i3), .val (.int i4), .val (.int i5), .val (.ref r0), .val (.ref b0), .val (.ref r1), .val (.ref b1), .val (.ref q), .val (.int (0 : Int32)), .val (.int (1 : Int32)), .val (.ref b0), .val (.int i2), .val (.int i3), .val (.ref r1), .val (.ref b1)] [(.int (1 : Int32)), (.ref q)])) _
      refine st18.trans ?_
      show Steps p.tables e below (T18.setTop (mkF m 232 #[.val (.int i0), .val (.int i1), .val (.int i2), .val (.int i3), .val (.int i4), .val (.int i5), .val (.ref r0), .val (.ref b0), .val (.ref r1), .val (.ref b1), .val (.ref q), .val (.int (0 : Int32)), .val (.int (1 : Int32)), .val (.ref b0), .val (.int i2), .val (.int i3), .val (.ref r1), .val (.ref b1)] [(.ref r1)])) _
      refine XS.aload X18.here hx rfl (hb hby at_232) rfl rfl ?_
      show Steps p.tables e below (T18.setTop (mkF m 234 #[.val (.int i0), .val (.int i1), .val (.int i2), .val (.int i3), .val (.int i4), .val (.int i5), .val (.ref r0), .val (.ref b0), .val (.ref r1), .val (.ref b1), .val (.ref q), .val (.int (0 : Int32)), .val (.int (1 : Int32)), .val (.ref b0), .val (.int i2), .val (.int i3), .val (.ref r1), .val (.ref b1)] [(.ref r1), (.ref r1)])) _
      refine XS.acmpNo X18.here hx rfl (hb hby at_234) rfl (by simp [if_acmp.holds]) ?_
      show Steps p.tables e below (T18.setTop (mkF m 237 #[.val (.int i0), .val (.int i1), .val (.int i2), .val (.int i3), .val (.int i4), .val (.int i5), .val (.ref r0), .val (.ref b0), .val (.ref r1), .val (.ref b1), .val (.ref q), .val (.int (0 : Int32)), .val (.int (1 : Int32)), .val (.ref b0), .val (.int i2), .val (.int i3), .val (.ref r1), .val (.ref b1)] [])) _
      refine XS.aload X18.here hx rfl (hb hby at_237) rfl rfl ?_
      show Steps p.tables e below (T18.setTop (mkF m 239 #[.val (.int i0), .val (.int i1), .val (.int i2), .val (.int i3), .val (.int i4), .val (.int i5), .val (.ref r0), .val (.ref b0), .val (.ref r1), .val (.ref b1), .val (.ref q), .val (.int (0 : Int32)), .val (.int (1 : Int32)), .val (.ref b0), .val (.int i2), .val (.int i3), .val (.ref r1), .val (.ref b1)] [(.ref q)])) _
      refine XS.iload X18.here hx rfl (hb hby at_239) rfl ?_
      show Steps p.tables e below (T18.setTop (mkF m 241 #[.val (.int i0), .val (.int i1), .val (.int i2), .val (.int i3), .val (.int i4), .val (.int i5), .val (.ref r0), .val (.ref b0), .val (.ref r1), .val (.ref b1), .val (.ref q), .val (.int (0 : Int32)), .val (.int (1 : Int32)), .val (.ref b0), .val (.int i2), .val (.int i3), .val (.ref r1), .val (.ref b1)] [(.int (1 : Int32)), (.ref q)])) _
      refine st19.trans ?_
      show Steps p.tables e below (T19.setTop (mkF m 244 #[.val (.int i0), .val (.int i1), .val (.int i2), .val (.int i3), .val (.int i4), .val (.int i5), .val (.ref r0), .val (.ref b0), .val (.ref r1), .val (.ref b1), .val (.ref q), .val (.int (0 : Int32)), .val (.int (1 : Int32)), .val (.ref b0), .val (.int i2), .val (.int i3), .val (.ref r1), .val (.ref b1)] [(.ref b1)])) _
      refine XS.aload X19.here hx rfl (hb hby at_244) rfl rfl ?_
      show Steps p.tables e below (T19.setTop (mkF m 246 #[.val (.int i0), .val (.int i1), .val (.int i2), .val (.int i3), .val (.int i4), .val (.int i5), .val (.ref r0), .val (.ref b0), .val (.ref r1), .val (.ref b1), .val (.ref q), .val (.int (0 : Int32)), .val (.int (1 : Int32)), .val (.ref b0), .val (.int i2), .val (.int i3), .val (.ref r1), .val (.ref b1)] [(.ref b1), (.ref b1)])) _
      refine XS.acmpNo X19.here hx rfl (hb hby at_246) rfl (by simp [if_acmp.holds]) ?_
      show Steps p.tables e below (T19.setTop (mkF m 249 #[.val (.int i0), .val (.int i1), .val (.int i2), .val (.int i3), .val (.int i4), .val (.int i5), .val (.ref r0), .val (.ref b0), .val (.ref r1), .val (.ref b1), .val (.ref q), .val (.int (0 : Int32)), .val (.int (1 : Int32)), .val (.ref b0), .val (.int i2), .val (.int i3), .val (.ref r1), .val (.ref b1)] [])) _
      refine XS.iconst X19.here hx rfl (hb hby at_249) ?_
      show Steps p.tables e below (T19.setTop (mkF m 250 #[.val (.int i0), .val (.int i1), .val (.int i2), .val (.int i3), .val (.int i4), .val (.int i5), .val (.ref r0), .val (.ref b0), .val (.ref r1), .val (.ref b1), .val (.ref q), .val (.int (0 : Int32)), .val (.int (1 : Int32)), .val (.ref b0), .val (.int i2), .val (.int i3), .val (.ref r1), .val (.ref b1)] [(.int (1 : Int32))])) _
      refine XS.goto X19.here hx rfl (pc0 := 250) (pc' := 254) rfl (hb hby at_250) (by decide) (by decide) ?_
      show Steps p.tables e below (T19.setTop (mkF m 254 #[.val (.int i0), .val (.int i1), .val (.int i2), .val (.int i3), .val (.int i4), .val (.int i5), .val (.ref r0), .val (.ref b0), .val (.ref r1), .val (.ref b1), .val (.ref q), .val (.int (0 : Int32)), .val (.int (1 : Int32)), .val (.ref b0), .val (.int i2), .val (.int i3), .val (.ref r1), .val (.ref b1)] [(.int (1 : Int32))])) _
      exact retN X19 hx (t := .boolean) Bd.returns (by simp) (hb hby at_254) hr
    · exact ⟨rfl, N19⟩
  · skip
    obtain ⟨cq13, kq13, q13a, q13b, q13c⟩ := isOf hZ (rfl) Q12.1
    obtain ⟨_, _, ⟨T13, L13, k13, n13⟩, -, X13, ⟨Lc13, hQ13, l13, y13, z13⟩, st13⟩ := X12.virtualBack hx (y := (⟨"com/example/weaver_ant/weaverant/simulation/DepartureQueue", "switchToBackup", "(I)V"⟩ : MethodName)) (z := (⟨"com/example/weaver_ant/weaverant/simulation/DepartureQueue", "switchToBackup", "(I)V"⟩ : MethodName)) hown (mvT hZ (hw _ (List.mem_of_getElem? (i := 53) rfl))) (mvT hZ (hw _ (List.mem_of_getElem? (i := 54) rfl))) (notFace_of_selects (args := #[]) (mvT hZ (hw _ (List.mem_of_getElem? (i := 56) rfl)))) (mvT hZ (hw _ (List.mem_of_getElem? (i := 56) rfl))) (mvT hZ (hw _ (List.mem_of_getElem? (i := 55) rfl))) (by decide) (backOf (W := 0) (rmW l Z a0 hw [] q ad kk (1 + 1) (own_add (own_add own_new 0 r0 i0 i1 b0 i2 i3) 1 r1 i3 i2 b1 i1 i0) (1 : Int32) b1 i1 i0 T12.heap n0 hD Q12 (by decide) (by rw [own_z1]; rfl : (own_add (own_add own_new 0 r0 i0 i1 b0 i2 i3) 1 r1 i3 i2 b1 i1 i0) 7 (1 : Int32).toNatClampNeg = (.ref b1)) (by rw [own_z1]; rfl : (own_add (own_add own_new 0 r0 i0 i1 b0 i2 i3) 1 r1 i3 i2 b1 i1 i0) 8 (1 : Int32).toNatClampNeg = (.int i1)) (by rw [own_z1]; rfl : (own_add (own_add own_new 0 r0 i0 i1 b0 i2 i3) 1 r1 i3 i2 b1 i1 i0) 9 (1 : Int32).toNatClampNeg = (.int i0)) Eb1_12 O4) hZ (hw _ (List.mem_of_getElem? (i := 57) rfl)) (hw _ (List.mem_of_getElem? (i := 3) rfl)) (by decide) (by decide)) q13a q13c (g := (mkF m 176 #[.val (.int i0), .val (.int i1), .val (.int i2), .val (.int i3), .val (.int i4), .val (.int i5), .val (.ref r0), .val (.ref b0), .val (.ref r1), .val (.ref b1), .val (.ref q), .val (.int (1 : Int32)), .val (.int (0 : Int32)), .val (.ref b1), .val (.int i1), .val (.int i0), .val (.ref r0), .val (.ref b0)] [(.int (1 : Int32)), (.ref q)])) rfl (by rw [hml]; rfl) (Steps.refl _) (argsL := [(.int (1 : Int32))]) (rest := []) (lenOf pd_s rfl) rfl (by show 2 * 0 + _ ≤ _; exact Nat.le_of_eq rfl) (hb hby at_176) (fun _ _ => ⟨rfl, (rfl), (by decide : 16 + 0 ≤ _), (by decide : 721 + 0 ≤ _)⟩)
    dsimp only [Pt.U, Pt.locs, Pt.cells, Pt.slots] at X13 l13 y13 z13 st13 hQ13
    subst l13 y13 z13
    obtain ⟨rfl, M13, Kq13, Q13⟩ := hQ13
    have N13 := Fr.app N12 M13
    rw [own_z1] at Q13
    obtain ⟨cq14, kq14, q14a, q14b, q14c⟩ := isOf hZ (rfl) Q13.1
    obtain ⟨_, _, ⟨T14, L14, k14, n14⟩, -, X14, ⟨Lc14, hQ14, l14, y14, z14⟩, st14⟩ := X13.virtualBack hx (y := (⟨"com/example/weaver_ant/weaverant/simulation/DepartureQueue", "route", "(I)[I"⟩ : MethodName)) (z := (⟨"com/example/weaver_ant/weaverant/simulation/DepartureQueue", "route", "(I)[I"⟩ : MethodName)) hown (mvT hZ (hw _ (List.mem_of_getElem? (i := 58) rfl))) (mvT hZ (hw _ (List.mem_of_getElem? (i := 59) rfl))) (notFace_of_selects (args := #[]) (mvT hZ (hw _ (List.mem_of_getElem? (i := 61) rfl)))) (mvT hZ (hw _ (List.mem_of_getElem? (i := 61) rfl))) (mvT hZ (hw _ (List.mem_of_getElem? (i := 60) rfl))) (by decide) (backOf (W := 0) (rmR l Z a0 hw [] q ad kk (1 + 1) (own_sw (own_add (own_add own_new 0 r0 i0 i1 b0 i2 i3) 1 r1 i3 i2 b1 i1 i0) 1) (1 : Int32) (.ref b1) T13.heap n0 Q13 (by decide) (by rw [own_z1]; rfl : (own_sw (own_add (own_add own_new 0 r0 i0 i1 b0 i2 i3) 1 r1 i3 i2 b1 i1 i0) 1) 4 (1 : Int32).toNatClampNeg = (.ref b1)) rfl) hZ (hw _ (List.mem_of_getElem? (i := 62) rfl)) (hw _ (List.mem_of_getElem? (i := 3) rfl)) (by decide) (by decide)) q14a q14c (g := (mkF m 183 #[.val (.int i0), .val (.int i1), .val (.int i2), .val (.int i3), .val (.int i4), .val (.int i5), .val (.ref r0), .val (.ref b0), .val (.ref r1), .val (.ref b1), .val (.ref q), .val (.int (1 : Int32)), .val (.int (0 : Int32)), .val (.ref b1), .val (.int i1), .val (.int i0), .val (.ref r0), .val (.ref b0)] [(.int (1 : Int32)), (.ref q)])) rfl (by rw [hml]; rfl) (Steps.refl _) (argsL := [(.int (1 : Int32))]) (rest := []) (lenOf pd_r rfl) rfl (by show 2 * 0 + _ ≤ _; exact Nat.le_of_eq rfl) (hb hby at_183) (fun _ _ => ⟨rfl, (rfl), (by decide : 16 + 0 ≤ _), (by decide : 721 + 0 ≤ _)⟩)
    dsimp only [Pt.U, Pt.locs, Pt.cells, Pt.slots] at X14 l14 y14 z14 st14 hQ14
    subst l14 y14 z14
    obtain ⟨rfl, M14, e14⟩ := hQ14
    have N14 := Fr.app N13 M14
    obtain ⟨cq15, kq15, q15a, q15b, q15c⟩ := isOf hZ e14 Q13.1
    obtain ⟨_, _, ⟨T15, L15, k15, n15⟩, -, X15, ⟨Lc15, hQ15, l15, y15, z15⟩, st15⟩ := X14.virtualBack hx (y := (⟨"com/example/weaver_ant/weaverant/simulation/DepartureQueue", "start", "(I)I"⟩ : MethodName)) (z := (⟨"com/example/weaver_ant/weaverant/simulation/DepartureQueue", "start", "(I)I"⟩ : MethodName)) hown (mvT hZ (hw _ (List.mem_of_getElem? (i := 63) rfl))) (mvT hZ (hw _ (List.mem_of_getElem? (i := 64) rfl))) (notFace_of_selects (args := #[]) (mvT hZ (hw _ (List.mem_of_getElem? (i := 66) rfl)))) (mvT hZ (hw _ (List.mem_of_getElem? (i := 66) rfl))) (mvT hZ (hw _ (List.mem_of_getElem? (i := 65) rfl))) (by decide) (backOf (W := 0) (rmT l Z a0 hw [] q ad kk (1 + 1) (own_sw (own_add (own_add own_new 0 r0 i0 i1 b0 i2 i3) 1 r1 i3 i2 b1 i1 i0) 1) (1 : Int32) i1 T13.heap n0 Q13 (by decide) (by rw [own_z1]; rfl : (own_sw (own_add (own_add own_new 0 r0 i0 i1 b0 i2 i3) 1 r1 i3 i2 b1 i1 i0) 1) 5 (1 : Int32).toNatClampNeg = (.int i1))) hZ (hw _ (List.mem_of_getElem? (i := 67) rfl)) (hw _ (List.mem_of_getElem? (i := 3) rfl)) (by decide) (by decide)) q15a q15c (g := (mkF m 195 #[.val (.int i0), .val (.int i1), .val (.int i2), .val (.int i3), .val (.int i4), .val (.int i5), .val (.ref r0), .val (.ref b0), .val (.ref r1), .val (.ref b1), .val (.ref q), .val (.int (1 : Int32)), .val (.int (0 : Int32)), .val (.ref b1), .val (.int i1), .val (.int i0), .val (.ref r0), .val (.ref b0)] [(.int (1 : Int32)), (.ref q)])) rfl (by rw [hml]; rfl) (Steps.refl _) (argsL := [(.int (1 : Int32))]) (rest := []) (lenOf pd_i rfl) rfl (by show 2 * 0 + _ ≤ _; exact Nat.le_of_eq rfl) (hb hby at_195) (fun _ _ => ⟨rfl, e14, (by decide : 16 + 0 ≤ _), (by decide : 721 + 0 ≤ _)⟩)
    dsimp only [Pt.U, Pt.locs, Pt.cells, Pt.slots] at X15 l15 y15 z15 st15 hQ15
    subst l15 y15 z15
    obtain ⟨rfl, M15, e15⟩ := hQ15
    have N15 := Fr.app N14 M15
    obtain ⟨cq16, kq16, q16a, q16b, q16c⟩ := isOf hZ e15 Q13.1
    obtain ⟨_, _, ⟨T16, L16, k16, n16⟩, -, X16, ⟨Lc16, hQ16, l16, y16, z16⟩, st16⟩ := X15.virtualBack hx (y := (⟨"com/example/weaver_ant/weaverant/simulation/DepartureQueue", "width", "(I)I"⟩ : MethodName)) (z := (⟨"com/example/weaver_ant/weaverant/simulation/DepartureQueue", "width", "(I)I"⟩ : MethodName)) hown (mvT hZ (hw _ (List.mem_of_getElem? (i := 68) rfl))) (mvT hZ (hw _ (List.mem_of_getElem? (i := 69) rfl))) (notFace_of_selects (args := #[]) (mvT hZ (hw _ (List.mem_of_getElem? (i := 71) rfl)))) (mvT hZ (hw _ (List.mem_of_getElem? (i := 71) rfl))) (mvT hZ (hw _ (List.mem_of_getElem? (i := 70) rfl))) (by decide) (backOf (W := 0) (rmD l Z a0 hw [] q ad kk (1 + 1) (own_sw (own_add (own_add own_new 0 r0 i0 i1 b0 i2 i3) 1 r1 i3 i2 b1 i1 i0) 1) (1 : Int32) i0 T13.heap n0 Q13 (by decide) (by rw [own_z1]; rfl : (own_sw (own_add (own_add own_new 0 r0 i0 i1 b0 i2 i3) 1 r1 i3 i2 b1 i1 i0) 1) 6 (1 : Int32).toNatClampNeg = (.int i0))) hZ (hw _ (List.mem_of_getElem? (i := 72) rfl)) (hw _ (List.mem_of_getElem? (i := 3) rfl)) (by decide) (by decide)) q16a q16c (g := (mkF m 207 #[.val (.int i0), .val (.int i1), .val (.int i2), .val (.int i3), .val (.int i4), .val (.int i5), .val (.ref r0), .val (.ref b0), .val (.ref r1), .val (.ref b1), .val (.ref q), .val (.int (1 : Int32)), .val (.int (0 : Int32)), .val (.ref b1), .val (.int i1), .val (.int i0), .val (.ref r0), .val (.ref b0)] [(.int (1 : Int32)), (.ref q)])) rfl (by rw [hml]; rfl) (Steps.refl _) (argsL := [(.int (1 : Int32))]) (rest := []) (lenOf pd_i rfl) rfl (by show 2 * 0 + _ ≤ _; exact Nat.le_of_eq rfl) (hb hby at_207) (fun _ _ => ⟨rfl, e15, (by decide : 16 + 0 ≤ _), (by decide : 721 + 0 ≤ _)⟩)
    dsimp only [Pt.U, Pt.locs, Pt.cells, Pt.slots] at X16 l16 y16 z16 st16 hQ16
    subst l16 y16 z16
    obtain ⟨rfl, M16, e16⟩ := hQ16
    have N16 := Fr.app N15 M16
    obtain ⟨cq17, kq17, q17a, q17b, q17c⟩ := isOf hZ e16 Q13.1
    obtain ⟨_, _, ⟨T17, L17, k17, n17⟩, -, X17, ⟨Lc17, hQ17, l17, y17, z17⟩, st17⟩ := X16.virtualBack hx (y := (⟨"com/example/weaver_ant/weaverant/simulation/DepartureQueue", "backup", "(I)[I"⟩ : MethodName)) (z := (⟨"com/example/weaver_ant/weaverant/simulation/DepartureQueue", "backup", "(I)[I"⟩ : MethodName)) hown (mvT hZ (hw _ (List.mem_of_getElem? (i := 73) rfl))) (mvT hZ (hw _ (List.mem_of_getElem? (i := 74) rfl))) (notFace_of_selects (args := #[]) (mvT hZ (hw _ (List.mem_of_getElem? (i := 76) rfl)))) (mvT hZ (hw _ (List.mem_of_getElem? (i := 76) rfl))) (mvT hZ (hw _ (List.mem_of_getElem? (i := 75) rfl))) (by decide) (backOf (W := 0) (rmB l Z a0 hw [] q ad kk (1 + 1) (own_sw (own_add (own_add own_new 0 r0 i0 i1 b0 i2 i3) 1 r1 i3 i2 b1 i1 i0) 1) (1 : Int32) .null T13.heap n0 Q13 (by decide) (by rw [own_z1]; rfl : (own_sw (own_add (own_add own_new 0 r0 i0 i1 b0 i2 i3) 1 r1 i3 i2 b1 i1 i0) 1) 7 (1 : Int32).toNatClampNeg = .null) rfl) hZ (hw _ (List.mem_of_getElem? (i := 77) rfl)) (hw _ (List.mem_of_getElem? (i := 3) rfl)) (by decide) (by decide)) q17a q17c (g := (mkF m 219 #[.val (.int i0), .val (.int i1), .val (.int i2), .val (.int i3), .val (.int i4), .val (.int i5), .val (.ref r0), .val (.ref b0), .val (.ref r1), .val (.ref b1), .val (.ref q), .val (.int (1 : Int32)), .val (.int (0 : Int32)), .val (.ref b1), .val (.int i1), .val (.int i0), .val (.ref r0), .val (.ref b0)] [(.int (1 : Int32)), (.ref q)])) rfl (by rw [hml]; rfl) (Steps.refl _) (argsL := [(.int (1 : Int32))]) (rest := []) (lenOf pd_r rfl) rfl (by show 2 * 0 + _ ≤ _; exact Nat.le_of_eq rfl) (hb hby at_219) (fun _ _ => ⟨rfl, e16, (by decide : 16 + 0 ≤ _), (by decide : 721 + 0 ≤ _)⟩)
    dsimp only [Pt.U, Pt.locs, Pt.cells, Pt.slots] at X17 l17 y17 z17 st17 hQ17
    subst l17 y17 z17
    obtain ⟨rfl, M17, e17⟩ := hQ17
    have N17 := Fr.app N16 M17
    obtain ⟨cq18, kq18, q18a, q18b, q18c⟩ := isOf hZ e17 Q13.1
    obtain ⟨_, _, ⟨T18, L18, k18, n18⟩, -, X18, ⟨Lc18, hQ18, l18, y18, z18⟩, st18⟩ := X17.virtualBack hx (y := (⟨"com/example/weaver_ant/weaverant/simulation/DepartureQueue", "route", "(I)[I"⟩ : MethodName)) (z := (⟨"com/example/weaver_ant/weaverant/simulation/DepartureQueue", "route", "(I)[I"⟩ : MethodName)) hown (mvT hZ (hw _ (List.mem_of_getElem? (i := 58) rfl))) (mvT hZ (hw _ (List.mem_of_getElem? (i := 59) rfl))) (notFace_of_selects (args := #[]) (mvT hZ (hw _ (List.mem_of_getElem? (i := 61) rfl)))) (mvT hZ (hw _ (List.mem_of_getElem? (i := 61) rfl))) (mvT hZ (hw _ (List.mem_of_getElem? (i := 60) rfl))) (by decide) (backOf (W := 0) (rmR l Z a0 hw [] q ad kk (1 + 1) (own_sw (own_add (own_add own_new 0 r0 i0 i1 b0 i2 i3) 1 r1 i3 i2 b1 i1 i0) 1) (0 : Int32) (.ref r0) T13.heap n0 Q13 (by decide) (by rw [own_z0]; rfl : (own_sw (own_add (own_add own_new 0 r0 i0 i1 b0 i2 i3) 1 r1 i3 i2 b1 i1 i0) 1) 4 (0 : Int32).toNatClampNeg = (.ref r0)) rfl) hZ (hw _ (List.mem_of_getElem? (i := 62) rfl)) (hw _ (List.mem_of_getElem? (i := 3) rfl)) (by decide) (by decide)) q18a q18c (g := (mkF m 229 #[.val (.int i0), .val (.int i1), .val (.int i2), .val (.int i3), .val (.int i4), .val (.int i5), .val (.ref r0), .val (.ref b0), .val (.ref r1), .val (.ref b1), .val (.ref q), .val (.int (1 : Int32)), .val (.int (0 : Int32)), .val (.ref b1), .val (.int i1), .val (.int i0), .val (.ref r0), .val (.ref b0)] [(.int (0 : Int32)), (.ref q)])) rfl (by rw [hml]; rfl) (Steps.refl _) (argsL := [(.int (0 : Int32))]) (rest := []) (lenOf pd_r rfl) rfl (by show 2 * 0 + _ ≤ _; exact Nat.le_of_eq rfl) (hb hby at_229) (fun _ _ => ⟨rfl, e17, (by decide : 16 + 0 ≤ _), (by decide : 721 + 0 ≤ _)⟩)
    dsimp only [Pt.U, Pt.locs, Pt.cells, Pt.slots] at X18 l18 y18 z18 st18 hQ18
    subst l18 y18 z18
    obtain ⟨rfl, M18, e18⟩ := hQ18
    have N18 := Fr.app N17 M18
    obtain ⟨cq19, kq19, q19a, q19b, q19c⟩ := isOf hZ e18 Q13.1
    obtain ⟨_, _, ⟨T19, L19, k19, n19⟩, -, X19, ⟨Lc19, hQ19, l19, y19, z19⟩, st19⟩ := X18.virtualBack hx (y := (⟨"com/example/weaver_ant/weaverant/simulation/DepartureQueue", "backup", "(I)[I"⟩ : MethodName)) (z := (⟨"com/example/weaver_ant/weaverant/simulation/DepartureQueue", "backup", "(I)[I"⟩ : MethodName)) hown (mvT hZ (hw _ (List.mem_of_getElem? (i := 73) rfl))) (mvT hZ (hw _ (List.mem_of_getElem? (i := 74) rfl))) (notFace_of_selects (args := #[]) (mvT hZ (hw _ (List.mem_of_getElem? (i := 76) rfl)))) (mvT hZ (hw _ (List.mem_of_getElem? (i := 76) rfl))) (mvT hZ (hw _ (List.mem_of_getElem? (i := 75) rfl))) (by decide) (backOf (W := 0) (rmB l Z a0 hw [] q ad kk (1 + 1) (own_sw (own_add (own_add own_new 0 r0 i0 i1 b0 i2 i3) 1 r1 i3 i2 b1 i1 i0) 1) (0 : Int32) (.ref b0) T13.heap n0 Q13 (by decide) (by rw [own_z0]; rfl : (own_sw (own_add (own_add own_new 0 r0 i0 i1 b0 i2 i3) 1 r1 i3 i2 b1 i1 i0) 1) 7 (0 : Int32).toNatClampNeg = (.ref b0)) rfl) hZ (hw _ (List.mem_of_getElem? (i := 77) rfl)) (hw _ (List.mem_of_getElem? (i := 3) rfl)) (by decide) (by decide)) q19a q19c (g := (mkF m 241 #[.val (.int i0), .val (.int i1), .val (.int i2), .val (.int i3), .val (.int i4), .val (.int i5), .val (.ref r0), .val (.ref b0), .val (.ref r1), .val (.ref b1), .val (.ref q), .val (.int (1 : Int32)), .val (.int (0 : Int32)), .val (.ref b1), .val (.int i1), .val (.int i0), .val (.ref r0), .val (.ref b0)] [(.int (0 : Int32)), (.ref q)])) rfl (by rw [hml]; rfl) (Steps.refl _) (argsL := [(.int (0 : Int32))]) (rest := []) (lenOf pd_r rfl) rfl (by show 2 * 0 + _ ≤ _; exact Nat.le_of_eq rfl) (hb hby at_241) (fun _ _ => ⟨rfl, e18, (by decide : 16 + 0 ≤ _), (by decide : 721 + 0 ≤ _)⟩)
    dsimp only [Pt.U, Pt.locs, Pt.cells, Pt.slots] at X19 l19 y19 z19 st19 hQ19
    subst l19 y19 z19
    obtain ⟨rfl, M19, e19⟩ := hQ19
    have N19 := Fr.app N18 M19
    obtain ⟨fs, hr, hrun, hended, hW, hsame⟩ := X19.leave (v := some (.int (1 : Int32))) (fun h => by rw [Bd.returns] at h; cases h)
    refine ⟨_, _, pre0 _ ?_, hrun, hended, _, _, rfl, ?_, ⟨_, rfl⟩, hW, hsame.mono (by decide) (by decide)⟩
    · show Steps p.tables e below (s₁.setTop (mkF m 0 #[.val (.int i0), .val (.int i1), .val (.int i2), .val (.int i3), .val (.int i4), .val (.int i5), .unset, .unset, .unset, .unset, .unset, .unset, .unset, .unset, .unset, .unset, .unset, .unset] [])) _
      refine XS.iconst X0.here hx rfl (hb hby at_0) ?_
      show Steps p.tables e below (s₁.setTop (mkF m 1 #[.val (.int i0), .val (.int i1), .val (.int i2), .val (.int i3), .val (.int i4), .val (.int i5), .unset, .unset, .unset, .unset, .unset, .unset, .unset, .unset, .unset, .unset, .unset, .unset] [(.int (1 : Int32))])) _
      refine st1 _ ?_
      show Steps p.tables e below (T1.setTop (mkF m 3 #[.val (.int i0), .val (.int i1), .val (.int i2), .val (.int i3), .val (.int i4), .val (.int i5), .unset, .unset, .unset, .unset, .unset, .unset, .unset, .unset, .unset, .unset, .unset, .unset] [(.ref r0)])) _
      refine XS.dup X1.here hx rfl (hb hby at_3) rfl rfl ?_
      show Steps p.tables e below (T1.setTop (mkF m 4 #[.val (.int i0), .val (.int i1), .val (.int i2), .val (.int i3), .val (.int i4), .val (.int i5), .unset, .unset, .unset, .unset, .unset, .unset, .unset, .unset, .unset, .unset, .unset, .unset] [(.ref r0), (.ref r0)])) _
      refine XS.iconst X1.here hx rfl (hb hby at_4) ?_
      show Steps p.tables e below (T1.setTop (mkF m 5 #[.val (.int i0), .val (.int i1), .val (.int i2), .val (.int i3), .val (.int i4), .val (.int i5), .unset, .unset, .unset, .unset, .unset, .unset, .unset, .unset, .unset, .unset, .unset, .unset] [(.int (0 : Int32)), (.ref r0), (.ref r0)])) _
      refine XS.iconst X1.here hx rfl (hb hby at_5) ?_
      show Steps p.tables e below (T1.setTop (mkF m 6 #[.val (.int i0), .val (.int i1), .val (.int i2), .val (.int i3), .val (.int i4), .val (.int i5), .unset, .unset, .unset, .unset, .unset, .unset, .unset, .unset, .unset, .unset, .unset, .unset] [(.int (1 : Int32)), (.int (0 : Int32)), (.ref r0), (.ref r0)])) _
      refine st2 _ ?_
      show Steps p.tables e below (T2.setTop (mkF m 7 #[.val (.int i0), .val (.int i1), .val (.int i2), .val (.int i3), .val (.int i4), .val (.int i5), .unset, .unset, .unset, .unset, .unset, .unset, .unset, .unset, .unset, .unset, .unset, .unset] [(.ref r0)])) _
      refine XS.astore X2.here hx rfl (hb hby at_7) rfl rfl (l' := #[.val (.int i0), .val (.int i1), .val (.int i2), .val (.int i3), .val (.int i4), .val (.int i5), .val (.ref r0), .unset, .unset, .unset, .unset, .unset, .unset, .unset, .unset, .unset, .unset, .unset]) rfl ?_
      show Steps p.tables e below (T2.setTop (mkF m 9 #[.val (.int i0), .val (.int i1), .val (.int i2), .val (.int i3), .val (.int i4), .val (.int i5), .val (.ref r0), .unset, .unset, .unset, .unset, .unset, .unset, .unset, .unset, .unset, .unset, .unset] [])) _
      refine XS.iconst X2.here hx rfl (hb hby at_9) ?_
      show Steps p.tables e below (T2.setTop (mkF m 10 #[.val (.int i0), .val (.int i1), .val (.int i2), .val (.int i3), .val (.int i4), .val (.int i5), .val (.ref r0), .unset, .unset, .unset, .unset, .unset, .unset, .unset, .unset, .unset, .unset, .unset] [(.int (1 : Int32))])) _
      refine st3 _ ?_
      show Steps p.tables e below (T3.setTop (mkF m 12 #[.val (.int i0), .val (.int i1), .val (.int i2), .val (.int i3), .val (.int i4), .val (.int i5), .val (.ref r0), .unset, .unset, .unset, .unset, .unset, .unset, .unset, .unset, .unset, .unset, .unset] [(.ref b0)])) _
      refine XS.dup X3.here hx rfl (hb hby at_12) rfl rfl ?_
      show Steps p.tables e below (T3.setTop (mkF m 13 #[.val (.int i0), .val (.int i1), .val (.int i2), .val (.int i3), .val (.int i4), .val (.int i5), .val (.ref r0), .unset, .unset, .unset, .unset, .unset, .unset, .unset, .unset, .unset, .unset, .unset] [(.ref b0), (.ref b0)])) _
      refine XS.iconst X3.here hx rfl (hb hby at_13) ?_
      show Steps p.tables e below (T3.setTop (mkF m 14 #[.val (.int i0), .val (.int i1), .val (.int i2), .val (.int i3), .val (.int i4), .val (.int i5), .val (.ref r0), .unset, .unset, .unset, .unset, .unset, .unset, .unset, .unset, .unset, .unset, .unset] [(.int (0 : Int32)), (.ref b0), (.ref b0)])) _
      refine XS.iconst X3.here hx rfl (hb hby at_14) ?_
      show Steps p.tables e below (T3.setTop (mkF m 15 #[.val (.int i0), .val (.int i1), .val (.int i2), .val (.int i3), .val (.int i4), .val (.int i5), .val (.ref r0), .unset, .unset, .unset, .unset, .unset, .unset, .unset, .unset, .unset, .unset, .unset] [(.int (2 : Int32)), (.int (0 : Int32)), (.ref b0), (.ref b0)])) _
      refine st4 _ ?_
      show Steps p.tables e below (T4.setTop (mkF m 16 #[.val (.int i0), .val (.int i1), .val (.int i2), .val (.int i3), .val (.int i4), .val (.int i5), .val (.ref r0), .unset, .unset, .unset, .unset, .unset, .unset, .unset, .unset, .unset, .unset, .unset] [(.ref b0)])) _
      refine XS.astore X4.here hx rfl (hb hby at_16) rfl rfl (l' := #[.val (.int i0), .val (.int i1), .val (.int i2), .val (.int i3), .val (.int i4), .val (.int i5), .val (.ref r0), .val (.ref b0), .unset, .unset, .unset, .unset, .unset, .unset, .unset, .unset, .unset, .unset]) rfl ?_
      show Steps p.tables e below (T4.setTop (mkF m 18 #[.val (.int i0), .val (.int i1), .val (.int i2), .val (.int i3), .val (.int i4), .val (.int i5), .val (.ref r0), .val (.ref b0), .unset, .unset, .unset, .unset, .unset, .unset, .unset, .unset, .unset, .unset] [])) _
      refine XS.iconst X4.here hx rfl (hb hby at_18) ?_
      show Steps p.tables e below (T4.setTop (mkF m 19 #[.val (.int i0), .val (.int i1), .val (.int i2), .val (.int i3), .val (.int i4), .val (.int i5), .val (.ref r0), .val (.ref b0), .unset, .unset, .unset, .unset, .unset, .unset, .unset, .unset, .unset, .unset] [(.int (1 : Int32))])) _
      refine st5 _ ?_
      show Steps p.tables e below (T5.setTop (mkF m 21 #[.val (.int i0), .val (.int i1), .val (.int i2), .val (.int i3), .val (.int i4), .val (.int i5), .val (.ref r0), .val (.ref b0), .unset, .unset, .unset, .unset, .unset, .unset, .unset, .unset, .unset, .unset] [(.ref r1)])) _
      refine XS.dup X5.here hx rfl (hb hby at_21) rfl rfl ?_
      show Steps p.tables e below (T5.setTop (mkF m 22 #[.val (.int i0), .val (.int i1), .val (.int i2), .val (.int i3), .val (.int i4), .val (.int i5), .val (.ref r0), .val (.ref b0), .unset, .unset, .unset, .unset, .unset, .unset, .unset, .unset, .unset, .unset] [(.ref r1), (.ref r1)])) _
      refine XS.iconst X5.here hx rfl (hb hby at_22) ?_
      show Steps p.tables e below (T5.setTop (mkF m 23 #[.val (.int i0), .val (.int i1), .val (.int i2), .val (.int i3), .val (.int i4), .val (.int i5), .val (.ref r0), .val (.ref b0), .unset, .unset, .unset, .unset, .unset, .unset, .unset, .unset, .unset, .unset] [(.int (0 : Int32)), (.ref r1), (.ref r1)])) _
      refine XS.iconst X5.here hx rfl (hb hby at_23) ?_
      show Steps p.tables e below (T5.setTop (mkF m 24 #[.val (.int i0), .val (.int i1), .val (.int i2), .val (.int i3), .val (.int i4), .val (.int i5), .val (.ref r0), .val (.ref b0), .unset, .unset, .unset, .unset, .unset, .unset, .unset, .unset, .unset, .unset] [(.int (3 : Int32)), (.int (0 : Int32)), (.ref r1), (.ref r1)])) _
      refine st6 _ ?_
      show Steps p.tables e below (T6.setTop (mkF m 25 #[.val (.int i0), .val (.int i1), .val (.int i2), .val (.int i3), .val (.int i4), .val (.int i5), .val (.ref r0), .val (.ref b0), .unset, .unset, .unset, .unset, .unset, .unset, .unset, .unset, .unset, .unset] [(.ref r1)])) _
      refine XS.astore X6.here hx rfl (hb hby at_25) rfl rfl (l' := #[.val (.int i0), .val (.int i1), .val (.int i2), .val (.int i3), .val (.int i4), .val (.int i5), .val (.ref r0), .val (.ref b0), .val (.ref r1), .unset, .unset, .unset, .unset, .unset, .unset, .unset, .unset, .unset]) rfl ?_
      show Steps p.tables e below (T6.setTop (mkF m 27 #[.val (.int i0), .val (.int i1), .val (.int i2), .val (.int i3), .val (.int i4), .val (.int i5), .val (.ref r0), .val (.ref b0), .val (.ref r1), .unset, .unset, .unset, .unset, .unset, .unset, .unset, .unset, .unset] [])) _
      refine XS.iconst X6.here hx rfl (hb hby at_27) ?_
      show Steps p.tables e below (T6.setTop (mkF m 28 #[.val (.int i0), .val (.int i1), .val (.int i2), .val (.int i3), .val (.int i4), .val (.int i5), .val (.ref r0), .val (.ref b0), .val (.ref r1), .unset, .unset, .unset, .unset, .unset, .unset, .unset, .unset, .unset] [(.int (1 : Int32))])) _
      refine st7 _ ?_
      show Steps p.tables e below (T7.setTop (mkF m 30 #[.val (.int i0), .val (.int i1), .val (.int i2), .val (.int i3), .val (.int i4), .val (.int i5), .val (.ref r0), .val (.ref b0), .val (.ref r1), .unset, .unset, .unset, .unset, .unset, .unset, .unset, .unset, .unset] [(.ref b1)])) _
      refine XS.dup X7.here hx rfl (hb hby at_30) rfl rfl ?_
      show Steps p.tables e below (T7.setTop (mkF m 31 #[.val (.int i0), .val (.int i1), .val (.int i2), .val (.int i3), .val (.int i4), .val (.int i5), .val (.ref r0), .val (.ref b0), .val (.ref r1), .unset, .unset, .unset, .unset, .unset, .unset, .unset, .unset, .unset] [(.ref b1), (.ref b1)])) _
      refine XS.iconst X7.here hx rfl (hb hby at_31) ?_
      show Steps p.tables e below (T7.setTop (mkF m 32 #[.val (.int i0), .val (.int i1), .val (.int i2), .val (.int i3), .val (.int i4), .val (.int i5), .val (.ref r0), .val (.ref b0), .val (.ref r1), .unset, .unset, .unset, .unset, .unset, .unset, .unset, .unset, .unset] [(.int (0 : Int32)), (.ref b1), (.ref b1)])) _
      refine XS.iconst X7.here hx rfl (hb hby at_32) ?_
      show Steps p.tables e below (T7.setTop (mkF m 33 #[.val (.int i0), .val (.int i1), .val (.int i2), .val (.int i3), .val (.int i4), .val (.int i5), .val (.ref r0), .val (.ref b0), .val (.ref r1), .unset, .unset, .unset, .unset, .unset, .unset, .unset, .unset, .unset] [(.int (4 : Int32)), (.int (0 : Int32)), (.ref b1), (.ref b1)])) _
      refine st8 _ ?_
      show Steps p.tables e below (T8.setTop (mkF m 34 #[.val (.int i0), .val (.int i1), .val (.int i2), .val (.int i3), .val (.int i4), .val (.int i5), .val (.ref r0), .val (.ref b0), .val (.ref r1), .unset, .unset, .unset, .unset, .unset, .unset, .unset, .unset, .unset] [(.ref b1)])) _
      refine XS.astore X8.here hx rfl (hb hby at_34) rfl rfl (l' := #[.val (.int i0), .val (.int i1), .val (.int i2), .val (.int i3), .val (.int i4), .val (.int i5), .val (.ref r0), .val (.ref b0), .val (.ref r1), .val (.ref b1), .unset, .unset, .unset, .unset, .unset, .unset, .unset, .unset]) rfl ?_
      show Steps p.tables e below (T8.setTop (mkF m 36 #[.val (.int i0), .val (.int i1), .val (.int i2), .val (.int i3), .val (.int i4), .val (.int i5), .val (.ref r0), .val (.ref b0), .val (.ref r1), .val (.ref b1), .unset, .unset, .unset, .unset, .unset, .unset, .unset, .unset] [])) _
      refine st9 _ ?_
      show Steps p.tables e below (T9.setTop (mkF m 39 #[.val (.int i0), .val (.int i1), .val (.int i2), .val (.int i3), .val (.int i4), .val (.int i5), .val (.ref r0), .val (.ref b0), .val (.ref r1), .val (.ref b1), .unset, .unset, .unset, .unset, .unset, .unset, .unset, .unset] [(.ref q)])) _
      refine XS.dup X9.here hx rfl (hb hby at_39) rfl rfl ?_
      show Steps p.tables e below (T9.setTop (mkF m 40 #[.val (.int i0), .val (.int i1), .val (.int i2), .val (.int i3), .val (.int i4), .val (.int i5), .val (.ref r0), .val (.ref b0), .val (.ref r1), .val (.ref b1), .unset, .unset, .unset, .unset, .unset, .unset, .unset, .unset] [(.ref q), (.ref q)])) _
      refine st10.trans ?_
      show Steps p.tables e below (T10.setTop (mkF m 43 #[.val (.int i0), .val (.int i1), .val (.int i2), .val (.int i3), .val (.int i4), .val (.int i5), .val (.ref r0), .val (.ref b0), .val (.ref r1), .val (.ref b1), .unset, .unset, .unset, .unset, .unset, .unset, .unset, .unset] [(.ref q)])) _
      refine XS.astore X10.here hx rfl (hb hby at_43) rfl rfl (l' := #[.val (.int i0), .val (.int i1), .val (.int i2), .val (.int i3), .val (.int i4), .val (.int i5), .val (.ref r0), .val (.ref b0), .val (.ref r1), .val (.ref b1), .val (.ref q), .unset, .unset, .unset, .unset, .unset, .unset, .unset]) rfl ?_
      show Steps p.tables e below (T10.setTop (mkF m 45 #[.val (.int i0), .val (.int i1), .val (.int i2), .val (.int i3), .val (.int i4), .val (.int i5), .val (.ref r0), .val (.ref b0), .val (.ref r1), .val (.ref b1), .val (.ref q), .unset, .unset, .unset, .unset, .unset, .unset, .unset] [])) _
      refine XS.aload X10.here hx rfl (hb hby at_45) rfl rfl ?_
      show Steps p.tables e below (T10.setTop (mkF m 47 #[.val (.int i0), .val (.int i1), .val (.int i2), .val (.int i3), .val (.int i4), .val (.int i5), .val (.ref r0), .val (.ref b0), .val (.ref r1), .val (.ref b1), .val (.ref q), .unset, .unset, .unset, .unset, .unset, .unset, .unset] [(.ref q)])) _
      refine XS.iload X10.here hx rfl (hb hby at_47) rfl ?_
      show Steps p.tables e below (T10.setTop (mkF m 49 #[.val (.int i0), .val (.int i1), .val (.int i2), .val (.int i3), .val (.int i4), .val (.int i5), .val (.ref r0), .val (.ref b0), .val (.ref r1), .val (.ref b1), .val (.ref q), .unset, .unset, .unset, .unset, .unset, .unset, .unset] [(.int i5), (.ref q)])) _
      refine XS.bipush X10.here hx rfl (hb hby at_49) ?_
      show Steps p.tables e below (T10.setTop (mkF m 51 #[.val (.int i0), .val (.int i1), .val (.int i2), .val (.int i3), .val (.int i4), .val (.int i5), .val (.ref r0), .val (.ref b0), .val (.ref r1), .val (.ref b1), .val (.ref q), .unset, .unset, .unset, .unset, .unset, .unset, .unset] [(.int (7 : Int32)), (.int i5), (.ref q)])) _
      refine XS.iand X10.here hx rfl (hb hby at_51) rfl ?_
      show Steps p.tables e below (T10.setTop (mkF m 52 #[.val (.int i0), .val (.int i1), .val (.int i2), .val (.int i3), .val (.int i4), .val (.int i5), .val (.ref r0), .val (.ref b0), .val (.ref r1), .val (.ref b1), .val (.ref q), .unset, .unset, .unset, .unset, .unset, .unset, .unset] [(.int (i5 &&& (7 : Int32))), (.ref q)])) _
      refine XS.i2dS X10.here hx rfl (hb hby at_52) rfl hd1 ?_
      show Steps p.tables e below (T10.setTop (mkF m 53 #[.val (.int i0), .val (.int i1), .val (.int i2), .val (.int i3), .val (.int i4), .val (.int i5), .val (.ref r0), .val (.ref b0), .val (.ref r1), .val (.ref b1), .val (.ref q), .unset, .unset, .unset, .unset, .unset, .unset, .unset] [(.double d1), (.ref q)])) _
      refine XS.iload X10.here hx rfl (hb hby at_53) rfl ?_
      show Steps p.tables e below (T10.setTop (mkF m 55 #[.val (.int i0), .val (.int i1), .val (.int i2), .val (.int i3), .val (.int i4), .val (.int i5), .val (.ref r0), .val (.ref b0), .val (.ref r1), .val (.ref b1), .val (.ref q), .unset, .unset, .unset, .unset, .unset, .unset, .unset] [(.int i4), (.double d1), (.ref q)])) _
      refine XS.aload X10.here hx rfl (hb hby at_55) rfl rfl ?_
      show Steps p.tables e below (T10.setTop (mkF m 57 #[.val (.int i0), .val (.int i1), .val (.int i2), .val (.int i3), .val (.int i4), .val (.int i5), .val (.ref r0), .val (.ref b0), .val (.ref r1), .val (.ref b1), .val (.ref q), .unset, .unset, .unset, .unset, .unset, .unset, .unset] [(.ref r0), (.int i4), (.double d1), (.ref q)])) _
      refine XS.iloadN X10.here hx rfl (hb hby at_57) rfl ?_
      show Steps p.tables e below (T10.setTop (mkF m 58 #[.val (.int i0), .val (.int i1), .val (.int i2), .val (.int i3), .val (.int i4), .val (.int i5), .val (.ref r0), .val (.ref b0), .val (.ref r1), .val (.ref b1), .val (.ref q), .unset, .unset, .unset, .unset, .unset, .unset, .unset] [(.int i0), (.ref r0), (.int i4), (.double d1), (.ref q)])) _
      refine XS.iloadN X10.here hx rfl (hb hby at_58) rfl ?_
      show Steps p.tables e below (T10.setTop (mkF m 59 #[.val (.int i0), .val (.int i1), .val (.int i2), .val (.int i3), .val (.int i4), .val (.int i5), .val (.ref r0), .val (.ref b0), .val (.ref r1), .val (.ref b1), .val (.ref q), .unset, .unset, .unset, .unset, .unset, .unset, .unset] [(.int i1), (.int i0), (.ref r0), (.int i4), (.double d1), (.ref q)])) _
      refine XS.aload X10.here hx rfl (hb hby at_59) rfl rfl ?_
      show Steps p.tables e below (T10.setTop (mkF m 61 #[.val (.int i0), .val (.int i1), .val (.int i2), .val (.int i3), .val (.int i4), .val (.int i5), .val (.ref r0), .val (.ref b0), .val (.ref r1), .val (.ref b1), .val (.ref q), .unset, .unset, .unset, .unset, .unset, .unset, .unset] [(.ref b0), (.int i1), (.int i0), (.ref r0), (.int i4), (.double d1), (.ref q)])) _
      refine XS.iloadN X10.here hx rfl (hb hby at_61) rfl ?_
      show Steps p.tables e below (T10.setTop (mkF m 62 #[.val (.int i0), .val (.int i1), .val (.int i2), .val (.int i3), .val (.int i4), .val (.int i5), .val (.ref r0), .val (.ref b0), .val (.ref r1), .val (.ref b1), .val (.ref q), .unset, .unset, .unset, .unset, .unset, .unset, .unset] [(.int i2), (.ref b0), (.int i1), (.int i0), (.ref r0), (.int i4), (.double d1), (.ref q)])) _
      refine XS.iloadN X10.here hx rfl (hb hby at_62) rfl ?_
      show Steps p.tables e below (T10.setTop (mkF m 63 #[.val (.int i0), .val (.int i1), .val (.int i2), .val (.int i3), .val (.int i4), .val (.int i5), .val (.ref r0), .val (.ref b0), .val (.ref r1), .val (.ref b1), .val (.ref q), .unset, .unset, .unset, .unset, .unset, .unset, .unset] [(.int i3), (.int i2), (.ref b0), (.int i1), (.int i0), (.ref r0), (.int i4), (.double d1), (.ref q)])) _
      refine st11.trans ?_
      show Steps p.tables e below (T11.setTop (mkF m 66 #[.val (.int i0), .val (.int i1), .val (.int i2), .val (.int i3), .val (.int i4), .val (.int i5), .val (.ref r0), .val (.ref b0), .val (.ref r1), .val (.ref b1), .val (.ref q), .unset, .unset, .unset, .unset, .unset, .unset, .unset] [])) _
      refine XS.aload X11.here hx rfl (hb hby at_66) rfl rfl ?_
      show Steps p.tables e below (T11.setTop (mkF m 68 #[.val (.int i0), .val (.int i1), .val (.int i2), .val (.int i3), .val (.int i4), .val (.int i5), .val (.ref r0), .val (.ref b0), .val (.ref r1), .val (.ref b1), .val (.ref q), .unset, .unset, .unset, .unset, .unset, .unset, .unset] [(.ref q)])) _
      refine XS.iload X11.here hx rfl (hb hby at_68) rfl ?_
      show Steps p.tables e below (T11.setTop (mkF m 70 #[.val (.int i0), .val (.int i1), .val (.int i2), .val (.int i3), .val (.int i4), .val (.int i5), .val (.ref r0), .val (.ref b0), .val (.ref r1), .val (.ref b1), .val (.ref q), .unset, .unset, .unset, .unset, .unset, .unset, .unset] [(.int i5), (.ref q)])) _
      refine XS.iconst X11.here hx rfl (hb hby at_70) ?_
      show Steps p.tables e below (T11.setTop (mkF m 71 #[.val (.int i0), .val (.int i1), .val (.int i2), .val (.int i3), .val (.int i4), .val (.int i5), .val (.ref r0), .val (.ref b0), .val (.ref r1), .val (.ref b1), .val (.ref q), .unset, .unset, .unset, .unset, .unset, .unset, .unset] [(.int (3 : Int32)), (.int i5), (.ref q)])) _
      refine XS.ishr X11.here hx rfl (hb hby at_71) rfl ?_
      show Steps p.tables e below (T11.setTop (mkF m 72 #[.val (.int i0), .val (.int i1), .val (.int i2), .val (.int i3), .val (.int i4), .val (.int i5), .val (.ref r0), .val (.ref b0), .val (.ref r1), .val (.ref b1), .val (.ref q), .unset, .unset, .unset, .unset, .unset, .unset, .unset] [(.int (i5 >>> ((3 : Int32) &&& 31))), (.ref q)])) _
      refine XS.bipush X11.here hx rfl (hb hby at_72) ?_
      show Steps p.tables e below (T11.setTop (mkF m 74 #[.val (.int i0), .val (.int i1), .val (.int i2), .val (.int i3), .val (.int i4), .val (.int i5), .val (.ref r0), .val (.ref b0), .val (.ref r1), .val (.ref b1), .val (.ref q), .unset, .unset, .unset, .unset, .unset, .unset, .unset] [(.int (7 : Int32)), (.int (i5 >>> ((3 : Int32) &&& 31))), (.ref q)])) _
      refine XS.iand X11.here hx rfl (hb hby at_74) rfl ?_
      show Steps p.tables e below (T11.setTop (mkF m 75 #[.val (.int i0), .val (.int i1), .val (.int i2), .val (.int i3), .val (.int i4), .val (.int i5), .val (.ref r0), .val (.ref b0), .val (.ref r1), .val (.ref b1), .val (.ref q), .unset, .unset, .unset, .unset, .unset, .unset, .unset] [(.int ((i5 >>> ((3 : Int32) &&& 31)) &&& (7 : Int32))), (.ref q)])) _
      refine XS.i2dS X11.here hx rfl (hb hby at_75) rfl hd2 ?_
      show Steps p.tables e below (T11.setTop (mkF m 76 #[.val (.int i0), .val (.int i1), .val (.int i2), .val (.int i3), .val (.int i4), .val (.int i5), .val (.ref r0), .val (.ref b0), .val (.ref r1), .val (.ref b1), .val (.ref q), .unset, .unset, .unset, .unset, .unset, .unset, .unset] [(.double d2), (.ref q)])) _
      refine XS.iload X11.here hx rfl (hb hby at_76) rfl ?_
      show Steps p.tables e below (T11.setTop (mkF m 78 #[.val (.int i0), .val (.int i1), .val (.int i2), .val (.int i3), .val (.int i4), .val (.int i5), .val (.ref r0), .val (.ref b0), .val (.ref r1), .val (.ref b1), .val (.ref q), .unset, .unset, .unset, .unset, .unset, .unset, .unset] [(.int i4), (.double d2), (.ref q)])) _
      refine XS.iconst X11.here hx rfl (hb hby at_78) ?_
      show Steps p.tables e below (T11.setTop (mkF m 79 #[.val (.int i0), .val (.int i1), .val (.int i2), .val (.int i3), .val (.int i4), .val (.int i5), .val (.ref r0), .val (.ref b0), .val (.ref r1), .val (.ref b1), .val (.ref q), .unset, .unset, .unset, .unset, .unset, .unset, .unset] [(.int (-1 : Int32)), (.int i4), (.double d2), (.ref q)])) _
      refine XS.ixor X11.here hx rfl (hb hby at_79) rfl ?_
      show Steps p.tables e below (T11.setTop (mkF m 80 #[.val (.int i0), .val (.int i1), .val (.int i2), .val (.int i3), .val (.int i4), .val (.int i5), .val (.ref r0), .val (.ref b0), .val (.ref r1), .val (.ref b1), .val (.ref q), .unset, .unset, .unset, .unset, .unset, .unset, .unset] [(.int (i4 ^^^ (-1 : Int32))), (.double d2), (.ref q)])) _
      refine XS.aload X11.here hx rfl (hb hby at_80) rfl rfl ?_
      show Steps p.tables e below (T11.setTop (mkF m 82 #[.val (.int i0), .val (.int i1), .val (.int i2), .val (.int i3), .val (.int i4), .val (.int i5), .val (.ref r0), .val (.ref b0), .val (.ref r1), .val (.ref b1), .val (.ref q), .unset, .unset, .unset, .unset, .unset, .unset, .unset] [(.ref r1), (.int (i4 ^^^ (-1 : Int32))), (.double d2), (.ref q)])) _
      refine XS.iloadN X11.here hx rfl (hb hby at_82) rfl ?_
      show Steps p.tables e below (T11.setTop (mkF m 83 #[.val (.int i0), .val (.int i1), .val (.int i2), .val (.int i3), .val (.int i4), .val (.int i5), .val (.ref r0), .val (.ref b0), .val (.ref r1), .val (.ref b1), .val (.ref q), .unset, .unset, .unset, .unset, .unset, .unset, .unset] [(.int i3), (.ref r1), (.int (i4 ^^^ (-1 : Int32))), (.double d2), (.ref q)])) _
      refine XS.iloadN X11.here hx rfl (hb hby at_83) rfl ?_
      show Steps p.tables e below (T11.setTop (mkF m 84 #[.val (.int i0), .val (.int i1), .val (.int i2), .val (.int i3), .val (.int i4), .val (.int i5), .val (.ref r0), .val (.ref b0), .val (.ref r1), .val (.ref b1), .val (.ref q), .unset, .unset, .unset, .unset, .unset, .unset, .unset] [(.int i2), (.int i3), (.ref r1), (.int (i4 ^^^ (-1 : Int32))), (.double d2), (.ref q)])) _
      refine XS.aload X11.here hx rfl (hb hby at_84) rfl rfl ?_
      show Steps p.tables e below (T11.setTop (mkF m 86 #[.val (.int i0), .val (.int i1), .val (.int i2), .val (.int i3), .val (.int i4), .val (.int i5), .val (.ref r0), .val (.ref b0), .val (.ref r1), .val (.ref b1), .val (.ref q), .unset, .unset, .unset, .unset, .unset, .unset, .unset] [(.ref b1), (.int i2), (.int i3), (.ref r1), (.int (i4 ^^^ (-1 : Int32))), (.double d2), (.ref q)])) _
      refine XS.iloadN X11.here hx rfl (hb hby at_86) rfl ?_
      show Steps p.tables e below (T11.setTop (mkF m 87 #[.val (.int i0), .val (.int i1), .val (.int i2), .val (.int i3), .val (.int i4), .val (.int i5), .val (.ref r0), .val (.ref b0), .val (.ref r1), .val (.ref b1), .val (.ref q), .unset, .unset, .unset, .unset, .unset, .unset, .unset] [(.int i1), (.ref b1), (.int i2), (.int i3), (.ref r1), (.int (i4 ^^^ (-1 : Int32))), (.double d2), (.ref q)])) _
      refine XS.iloadN X11.here hx rfl (hb hby at_87) rfl ?_
      show Steps p.tables e below (T11.setTop (mkF m 88 #[.val (.int i0), .val (.int i1), .val (.int i2), .val (.int i3), .val (.int i4), .val (.int i5), .val (.ref r0), .val (.ref b0), .val (.ref r1), .val (.ref b1), .val (.ref q), .unset, .unset, .unset, .unset, .unset, .unset, .unset] [(.int i0), (.int i1), (.ref b1), (.int i2), (.int i3), (.ref r1), (.int (i4 ^^^ (-1 : Int32))), (.double d2), (.ref q)])) _
      refine st12.trans ?_
      show Steps p.tables e below (T12.setTop (mkF m 91 #[.val (.int i0), .val (.int i1), .val (.int i2), .val (.int i3), .val (.int i4), .val (.int i5), .val (.ref r0), .val (.ref b0), .val (.ref r1), .val (.ref b1), .val (.ref q), .unset, .unset, .unset, .unset, .unset, .unset, .unset] [])) _
      refine XS.iload X12.here hx rfl (hb hby at_91) rfl ?_
      show Steps p.tables e below (T12.setTop (mkF m 93 #[.val (.int i0), .val (.int i1), .val (.int i2), .val (.int i3), .val (.int i4), .val (.int i5), .val (.ref r0), .val (.ref b0), .val (.ref r1), .val (.ref b1), .val (.ref q), .unset, .unset, .unset, .unset, .unset, .unset, .unset] [(.int i5)])) _
      refine XS.bipush X12.here hx rfl (hb hby at_93) ?_
      show Steps p.tables e below (T12.setTop (mkF m 95 #[.val (.int i0), .val (.int i1), .val (.int i2), .val (.int i3), .val (.int i4), .val (.int i5), .val (.ref r0), .val (.ref b0), .val (.ref r1), .val (.ref b1), .val (.ref q), .unset, .unset, .unset, .unset, .unset, .unset, .unset] [(.int (6 : Int32)), (.int i5)])) _
      refine XS.ishr X12.here hx rfl (hb hby at_95) rfl ?_
      show Steps p.tables e below (T12.setTop (mkF m 96 #[.val (.int i0), .val (.int i1), .val (.int i2), .val (.int i3), .val (.int i4), .val (.int i5), .val (.ref r0), .val (.ref b0), .val (.ref r1), .val (.ref b1), .val (.ref q), .unset, .unset, .unset, .unset, .unset, .unset, .unset] [(.int (i5 >>> ((6 : Int32) &&& 31)))])) _
      refine XS.iconst X12.here hx rfl (hb hby at_96) ?_
      show Steps p.tables e below (T12.setTop (mkF m 97 #[.val (.int i0), .val (.int i1), .val (.int i2), .val (.int i3), .val (.int i4), .val (.int i5), .val (.ref r0), .val (.ref b0), .val (.ref r1), .val (.ref b1), .val (.ref q), .unset, .unset, .unset, .unset, .unset, .unset, .unset] [(.int (1 : Int32)), (.int (i5 >>> ((6 : Int32) &&& 31)))])) _
      refine XS.iand X12.here hx rfl (hb hby at_97) rfl ?_
      rw [ht]
      show Steps p.tables e below (T12.setTop (mkF m 98 #[.val (.int i0), .val (.int i1), .val (.int i2), .val (.int i3), .val (.int i4), .val (.int i5), .val (.ref r0), .val (.ref b0), .val (.ref r1), .val (.ref b1), .val (.ref q), .unset, .unset, .unset, .unset, .unset, .unset, .unset] [(.int (1 : Int32))])) _
      refine XS.istore X12.here hx rfl (hb hby at_98) rfl (l' := #[.val (.int i0), .val (.int i1), .val (.int i2), .val (.int i3), .val (.int i4), .val (.int i5), .val (.ref r0), .val (.ref b0), .val (.ref r1), .val (.ref b1), .val (.ref q), .val (.int (1 : Int32)), .unset, .unset, .unset, .unset, .unset, .unset]) rfl ?_
      show Steps p.tables e below (T12.setTop (mkF m 100 #[.val (.int i0), .val (.int i1), .val (.int i2), .val (.int i3), .val (.int i4), .val (.int i5), .val (.ref r0), .val (.ref b0), .val (.ref r1), .val (.ref b1), .val (.ref q), .val (.int (1 : Int32)), .unset, .unset, .unset, .unset, .unset, .unset] [])) _
      refine XS.iconst X12.here hx rfl (hb hby at_100) ?_
      show Steps p.tables e below (T12.setTop (mkF m 101 #[.val (.int i0), .val (.int i1), .val (.int i2), .val (.int i3), .val (.int i4), .val (.int i5), .val (.ref r0), .val (.ref b0), .val (.ref r1), .val (.ref b1), .val (.ref q), .val (.int (1 : Int32)), .unset, .unset, .unset, .unset, .unset, .unset] [(.int (1 : Int32))])) _
      refine XS.iload X12.here hx rfl (hb hby at_101) rfl ?_
      show Steps p.tables e below (T12.setTop (mkF m 103 #[.val (.int i0), .val (.int i1), .val (.int i2), .val (.int i3), .val (.int i4), .val (.int i5), .val (.ref r0), .val (.ref b0), .val (.ref r1), .val (.ref b1), .val (.ref q), .val (.int (1 : Int32)), .unset, .unset, .unset, .unset, .unset, .unset] [(.int (1 : Int32)), (.int (1 : Int32))])) _
      refine XS.isub X12.here hx rfl (hb hby at_103) rfl ?_
      rw [own_s1]
      show Steps p.tables e below (T12.setTop (mkF m 104 #[.val (.int i0), .val (.int i1), .val (.int i2), .val (.int i3), .val (.int i4), .val (.int i5), .val (.ref r0), .val (.ref b0), .val (.ref r1), .val (.ref b1), .val (.ref q), .val (.int (1 : Int32)), .unset, .unset, .unset, .unset, .unset, .unset] [(.int (0 : Int32))])) _
      refine XS.istore X12.here hx rfl (hb hby at_104) rfl (l' := #[.val (.int i0), .val (.int i1), .val (.int i2), .val (.int i3), .val (.int i4), .val (.int i5), .val (.ref r0), .val (.ref b0), .val (.ref r1), .val (.ref b1), .val (.ref q), .val (.int (1 : Int32)), .val (.int (0 : Int32)), .unset, .unset, .unset, .unset, .unset]) rfl ?_
      show Steps p.tables e below (T12.setTop (mkF m 106 #[.val (.int i0), .val (.int i1), .val (.int i2), .val (.int i3), .val (.int i4), .val (.int i5), .val (.ref r0), .val (.ref b0), .val (.ref r1), .val (.ref b1), .val (.ref q), .val (.int (1 : Int32)), .val (.int (0 : Int32)), .unset, .unset, .unset, .unset, .unset] [])) _
      refine XS.iload X12.here hx rfl (hb hby at_106) rfl ?_
      show Steps p.tables e below (T12.setTop (mkF m 108 #[.val (.int i0), .val (.int i1), .val (.int i2), .val (.int i3), .val (.int i4), .val (.int i5), .val (.ref r0), .val (.ref b0), .val (.ref r1), .val (.ref b1), .val (.ref q), .val (.int (1 : Int32)), .val (.int (0 : Int32)), .unset, .unset, .unset, .unset, .unset] [(.int (1 : Int32))])) _
      refine XS.ifYes X12.here hx rfl (pc0 := 108) (pc' := 116) rfl (hb hby at_108) rfl (by decide) (by decide) (by decide) ?_
      show Steps p.tables e below (T12.setTop (mkF m 116 #[.val (.int i0), .val (.int i1), .val (.int i2), .val (.int i3), .val (.int i4), .val (.int i5), .val (.ref r0), .val (.ref b0), .val (.ref r1), .val (.ref b1), .val (.ref q), .val (.int (1 : Int32)), .val (.int (0 : Int32)), .unset, .unset, .unset, .unset, .unset] [])) _
      refine XS.aload X12.here hx rfl (hb hby at_116) rfl rfl ?_
      show Steps p.tables e below (T12.setTop (mkF m 118 #[.val (.int i0), .val (.int i1), .val (.int i2), .val (.int i3), .val (.int i4), .val (.int i5), .val (.ref r0), .val (.ref b0), .val (.ref r1), .val (.ref b1), .val (.ref q), .val (.int (1 : Int32)), .val (.int (0 : Int32)), .unset, .unset, .unset, .unset, .unset] [(.ref b1)])) _
      refine XS.astore X12.here hx rfl (hb hby at_118) rfl rfl (l' := #[.val (.int i0), .val (.int i1), .val (.int i2), .val (.int i3), .val (.int i4), .val (.int i5), .val (.ref r0), .val (.ref b0), .val (.ref r1), .val (.ref b1), .val (.ref q), .val (.int (1 : Int32)), .val (.int (0 : Int32)), .val (.ref b1), .unset, .unset, .unset, .unset]) rfl ?_
      show Steps p.tables e below (T12.setTop (mkF m 120 #[.val (.int i0), .val (.int i1), .val (.int i2), .val (.int i3), .val (.int i4), .val (.int i5), .val (.ref r0), .val (.ref b0), .val (.ref r1), .val (.ref b1), .val (.ref q), .val (.int (1 : Int32)), .val (.int (0 : Int32)), .val (.ref b1), .unset, .unset, .unset, .unset] [])) _
      refine XS.iload X12.here hx rfl (hb hby at_120) rfl ?_
      show Steps p.tables e below (T12.setTop (mkF m 122 #[.val (.int i0), .val (.int i1), .val (.int i2), .val (.int i3), .val (.int i4), .val (.int i5), .val (.ref r0), .val (.ref b0), .val (.ref r1), .val (.ref b1), .val (.ref q), .val (.int (1 : Int32)), .val (.int (0 : Int32)), .val (.ref b1), .unset, .unset, .unset, .unset] [(.int (1 : Int32))])) _
      refine XS.ifYes X12.here hx rfl (pc0 := 122) (pc' := 129) rfl (hb hby at_122) rfl (by decide) (by decide) (by decide) ?_
      show Steps p.tables e below (T12.setTop (mkF m 129 #[.val (.int i0), .val (.int i1), .val (.int i2), .val (.int i3), .val (.int i4), .val (.int i5), .val (.ref r0), .val (.ref b0), .val (.ref r1), .val (.ref b1), .val (.ref q), .val (.int (1 : Int32)), .val (.int (0 : Int32)), .val (.ref b1), .unset, .unset, .unset, .unset] [])) _
      refine XS.iloadN X12.here hx rfl (hb hby at_129) rfl ?_
      show Steps p.tables e below (T12.setTop (mkF m 130 #[.val (.int i0), .val (.int i1), .val (.int i2), .val (.int i3), .val (.int i4), .val (.int i5), .val (.ref r0), .val (.ref b0), .val (.ref r1), .val (.ref b1), .val (.ref q), .val (.int (1 : Int32)), .val (.int (0 : Int32)), .val (.ref b1), .unset, .unset, .unset, .unset] [(.int i1)])) _
      refine XS.istore X12.here hx rfl (hb hby at_130) rfl (l' := #[.val (.int i0), .val (.int i1), .val (.int i2), .val (.int i3), .val (.int i4), .val (.int i5), .val (.ref r0), .val (.ref b0), .val (.ref r1), .val (.ref b1), .val (.ref q), .val (.int (1 : Int32)), .val (.int (0 : Int32)), .val (.ref b1), .val (.int i1), .unset, .unset, .unset]) rfl ?_
      show Steps p.tables e below (T12.setTop (mkF m 132 #[.val (.int i0), .val (.int i1), .val (.int i2), .val (.int i3), .val (.int i4), .val (.int i5), .val (.ref r0), .val (.ref b0), .val (.ref r1), .val (.ref b1), .val (.ref q), .val (.int (1 : Int32)), .val (.int (0 : Int32)), .val (.ref b1), .val (.int i1), .unset, .unset, .unset] [])) _
      refine XS.iload X12.here hx rfl (hb hby at_132) rfl ?_
      show Steps p.tables e below (T12.setTop (mkF m 134 #[.val (.int i0), .val (.int i1), .val (.int i2), .val (.int i3), .val (.int i4), .val (.int i5), .val (.ref r0), .val (.ref b0), .val (.ref r1), .val (.ref b1), .val (.ref q), .val (.int (1 : Int32)), .val (.int (0 : Int32)), .val (.ref b1), .val (.int i1), .unset, .unset, .unset] [(.int (1 : Int32))])) _
      refine XS.ifYes X12.here hx rfl (pc0 := 134) (pc' := 141) rfl (hb hby at_134) rfl (by decide) (by decide) (by decide) ?_
      show Steps p.tables e below (T12.setTop (mkF m 141 #[.val (.int i0), .val (.int i1), .val (.int i2), .val (.int i3), .val (.int i4), .val (.int i5), .val (.ref r0), .val (.ref b0), .val (.ref r1), .val (.ref b1), .val (.ref q), .val (.int (1 : Int32)), .val (.int (0 : Int32)), .val (.ref b1), .val (.int i1), .unset, .unset, .unset] [])) _
      refine XS.iloadN X12.here hx rfl (hb hby at_141) rfl ?_
      show Steps p.tables e below (T12.setTop (mkF m 142 #[.val (.int i0), .val (.int i1), .val (.int i2), .val (.int i3), .val (.int i4), .val (.int i5), .val (.ref r0), .val (.ref b0), .val (.ref r1), .val (.ref b1), .val (.ref q), .val (.int (1 : Int32)), .val (.int (0 : Int32)), .val (.ref b1), .val (.int i1), .unset, .unset, .unset] [(.int i0)])) _
      refine XS.istore X12.here hx rfl (hb hby at_142) rfl (l' := #[.val (.int i0), .val (.int i1), .val (.int i2), .val (.int i3), .val (.int i4), .val (.int i5), .val (.ref r0), .val (.ref b0), .val (.ref r1), .val (.ref b1), .val (.ref q), .val (.int (1 : Int32)), .val (.int (0 : Int32)), .val (.ref b1), .val (.int i1), .val (.int i0), .unset, .unset]) rfl ?_
      show Steps p.tables e below (T12.setTop (mkF m 144 #[.val (.int i0), .val (.int i1), .val (.int i2), .val (.int i3), .val (.int i4), .val (.int i5), .val (.ref r0), .val (.ref b0), .val (.ref r1), .val (.ref b1), .val (.ref q), .val (.int (1 : Int32)), .val (.int (0 : Int32)), .val (.ref b1), .val (.int i1), .val (.int i0), .unset, .unset] [])) _
      refine XS.iload X12.here hx rfl (hb hby at_144) rfl ?_
      show Steps p.tables e below (T12.setTop (mkF m 146 #[.val (.int i0), .val (.int i1), .val (.int i2), .val (.int i3), .val (.int i4), .val (.int i5), .val (.ref r0), .val (.ref b0), .val (.ref r1), .val (.ref b1), .val (.ref q), .val (.int (1 : Int32)), .val (.int (0 : Int32)), .val (.ref b1), .val (.int i1), .val (.int i0), .unset, .unset] [(.int (1 : Int32))])) _
      refine XS.ifYes X12.here hx rfl (pc0 := 146) (pc' := 154) rfl (hb hby at_146) rfl (by decide) (by decide) (by decide) ?_
      show Steps p.tables e below (T12.setTop (mkF m 154 #[.val (.int i0), .val (.int i1), .val (.int i2), .val (.int i3), .val (.int i4), .val (.int i5), .val (.ref r0), .val (.ref b0), .val (.ref r1), .val (.ref b1), .val (.ref q), .val (.int (1 : Int32)), .val (.int (0 : Int32)), .val (.ref b1), .val (.int i1), .val (.int i0), .unset, .unset] [])) _
      refine XS.aload X12.here hx rfl (hb hby at_154) rfl rfl ?_
      show Steps p.tables e below (T12.setTop (mkF m 156 #[.val (.int i0), .val (.int i1), .val (.int i2), .val (.int i3), .val (.int i4), .val (.int i5), .val (.ref r0), .val (.ref b0), .val (.ref r1), .val (.ref b1), .val (.ref q), .val (.int (1 : Int32)), .val (.int (0 : Int32)), .val (.ref b1), .val (.int i1), .val (.int i0), .unset, .unset] [(.ref r0)])) _
      refine XS.astore X12.here hx rfl (hb hby at_156) rfl rfl (l' := #[.val (.int i0), .val (.int i1), .val (.int i2), .val (.int i3), .val (.int i4), .val (.int i5), .val (.ref r0), .val (.ref b0), .val (.ref r1), .val (.ref b1), .val (.ref q), .val (.int (1 : Int32)), .val (.int (0 : Int32)), .val (.ref b1), .val (.int i1), .val (.int i0), .val (.ref r0), .unset]) rfl ?_
      show Steps p.tables e below (T12.setTop (mkF m 158 #[.val (.int i0), .val (.int i1), .val (.int i2), .val (.int i3), .val (.int i4), .val (.int i5), .val (.ref r0), .val (.ref b0), .val (.ref r1), .val (.ref b1), .val (.ref q), .val (.int (1 : Int32)), .val (.int (0 : Int32)), .val (.ref b1), .val (.int i1), .val (.int i0), .val (.ref r0), .unset] [])) _
      refine XS.iload X12.here hx rfl (hb hby at_158) rfl ?_
      show Steps p.tables e below (T12.setTop (mkF m 160 #[.val (.int i0), .val (.int i1), .val (.int i2), .val (.int i3), .val (.int i4), .val (.int i5), .val (.ref r0), .val (.ref b0), .val (.ref r1), .val (.ref b1), .val (.ref q), .val (.int (1 : Int32)), .val (.int (0 : Int32)), .val (.ref b1), .val (.int i1), .val (.int i0), .val (.ref r0), .unset] [(.int (1 : Int32))])) _
      refine XS.ifYes X12.here hx rfl (pc0 := 160) (pc' := 168) rfl (hb hby at_160) rfl (by decide) (by decide) (by decide) ?_
      show Steps p.tables e below (T12.setTop (mkF m 168 #[.val (.int i0), .val (.int i1), .val (.int i2), .val (.int i3), .val (.int i4), .val (.int i5), .val (.ref r0), .val (.ref b0), .val (.ref r1), .val (.ref b1), .val (.ref q), .val (.int (1 : Int32)), .val (.int (0 : Int32)), .val (.ref b1), .val (.int i1), .val (.int i0), .val (.ref r0), .unset] [])) _
      refine XS.aload X12.here hx rfl (hb hby at_168) rfl rfl ?_
      show Steps p.tables e below (T12.setTop (mkF m 170 #[.val (.int i0), .val (.int i1), .val (.int i2), .val (.int i3), .val (.int i4), .val (.int i5), .val (.ref r0), .val (.ref b0), .val (.ref r1), .val (.ref b1), .val (.ref q), .val (.int (1 : Int32)), .val (.int (0 : Int32)), .val (.ref b1), .val (.int i1), .val (.int i0), .val (.ref r0), .unset] [(.ref b0)])) _
      refine XS.astore X12.here hx rfl (hb hby at_170) rfl rfl (l' := #[.val (.int i0), .val (.int i1), .val (.int i2), .val (.int i3), .val (.int i4), .val (.int i5), .val (.ref r0), .val (.ref b0), .val (.ref r1), .val (.ref b1), .val (.ref q), .val (.int (1 : Int32)), .val (.int (0 : Int32)), .val (.ref b1), .val (.int i1), .val (.int i0), .val (.ref r0), .val (.ref b0)]) rfl ?_
      show Steps p.tables e below (T12.setTop (mkF m 172 #[.val (.int i0), .val (.int i1), .val (.int i2), .val (.int i3), .val (.int i4), .val (.int i5), .val (.ref r0), .val (.ref b0), .val (.ref r1), .val (.ref b1), .val (.ref q), .val (.int (1 : Int32)), .val (.int (0 : Int32)), .val (.ref b1), .val (.int i1), .val (.int i0), .val (.ref r0), .val (.ref b0)] [])) _
      refine XS.aload X12.here hx rfl (hb hby at_172) rfl rfl ?_
      show Steps p.tables e below (T12.setTop (mkF m 174 #[.val (.int i0), .val (.int i1), .val (.int i2), .val (.int i3), .val (.int i4), .val (.int i5), .val (.ref r0), .val (.ref b0), .val (.ref r1), .val (.ref b1), .val (.ref q), .val (.int (1 : Int32)), .val (.int (0 : Int32)), .val (.ref b1), .val (.int i1), .val (.int i0), .val (.ref r0), .val (.ref b0)] [(.ref q)])) _
      refine XS.iload X12.here hx rfl (hb hby at_174) rfl ?_
      show Steps p.tables e below (T12.setTop (mkF m 176 #[.val (.int i0), .val (.int i1), .val (.int i2), .val (.int i3), .val (.int i4), .val (.int i5), .val (.ref r0), .val (.ref b0), .val (.ref r1), .val (.ref b1), .val (.ref q), .val (.int (1 : Int32)), .val (.int (0 : Int32)), .val (.ref b1), .val (.int i1), .val (.int i0), .val (.ref r0), .val (.ref b0)] [(.int (1 : Int32)), (.ref q)])) _
      refine st13.trans ?_
      show Steps p.tables e below (T13.setTop (mkF m 179 #[.val (.int i0), .val (.int i1), .val (.int i2), .val (.int i3), .val (.int i4), .val (.int i5), .val (.ref r0), .val (.ref b0), .val (.ref r1), .val (.ref b1), .val (.ref q), .val (.int (1 : Int32)), .val (.int (0 : Int32)), .val (.ref b1), .val (.int i1), .val (.int i0), .val (.ref r0), .val (.ref b0)] [])) _
      refine XS.aload X13.here hx rfl (hb hby at_179) rfl rfl ?_
      show Steps p.tables e below (T13.setTop (mkF m 181 #[.val (.int i0), .val (.int i1), .val (.int i2), .val (.int i3), .val (.int i4), .val (.int i5), .val (.ref r0), .val (.ref b0), .val (.ref r1), .val (.ref b1), .val (.ref q), .val (.int (1 : Int32)), .val (.int (0 : Int32)), .val (.ref b1), .val (.int i1), .val (.int i0), .val (.ref r0), .val (.ref b0)] [(.ref q)])) _
      refine XS.iload X13.here hx rfl (hb hby at_181) rfl ?_
      show Steps p.tables e below (T13.setTop (mkF m 183 #[.val (.int i0), .val (.int i1), .val (.int i2), .val (.int i3), .val (.int i4), .val (.int i5), .val (.ref r0), .val (.ref b0), .val (.ref r1), .val (.ref b1), .val (.ref q), .val (.int (1 : Int32)), .val (.int (0 : Int32)), .val (.ref b1), .val (.int i1), .val (.int i0), .val (.ref r0), .val (.ref b0)] [(.int (1 : Int32)), (.ref q)])) _
      refine st14.trans ?_
      show Steps p.tables e below (T14.setTop (mkF m 186 #[.val (.int i0), .val (.int i1), .val (.int i2), .val (.int i3), .val (.int i4), .val (.int i5), .val (.ref r0), .val (.ref b0), .val (.ref r1), .val (.ref b1), .val (.ref q), .val (.int (1 : Int32)), .val (.int (0 : Int32)), .val (.ref b1), .val (.int i1), .val (.int i0), .val (.ref r0), .val (.ref b0)] [(.ref b1)])) _
      refine XS.aload X14.here hx rfl (hb hby at_186) rfl rfl ?_
      show Steps p.tables e below (T14.setTop (mkF m 188 #[.val (.int i0), .val (.int i1), .val (.int i2), .val (.int i3), .val (.int i4), .val (.int i5), .val (.ref r0), .val (.ref b0), .val (.ref r1), .val (.ref b1), .val (.ref q), .val (.int (1 : Int32)), .val (.int (0 : Int32)), .val (.ref b1), .val (.int i1), .val (.int i0), .val (.ref r0), .val (.ref b0)] [(.ref b1), (.ref b1)])) _
      refine XS.acmpNo X14.here hx rfl (hb hby at_188) rfl (by simp [if_acmp.holds]) ?_
      show Steps p.tables e below (T14.setTop (mkF m 191 #[.val (.int i0), .val (.int i1), .val (.int i2), .val (.int i3), .val (.int i4), .val (.int i5), .val (.ref r0), .val (.ref b0), .val (.ref r1), .val (.ref b1), .val (.ref q), .val (.int (1 : Int32)), .val (.int (0 : Int32)), .val (.ref b1), .val (.int i1), .val (.int i0), .val (.ref r0), .val (.ref b0)] [])) _
      refine XS.aload X14.here hx rfl (hb hby at_191) rfl rfl ?_
      show Steps p.tables e below (T14.setTop (mkF m 193 #[.val (.int i0), .val (.int i1), .val (.int i2), .val (.int i3), .val (.int i4), .val (.int i5), .val (.ref r0), .val (.ref b0), .val (.ref r1), .val (.ref b1), .val (.ref q), .val (.int (1 : Int32)), .val (.int (0 : Int32)), .val (.ref b1), .val (.int i1), .val (.int i0), .val (.ref r0), .val (.ref b0)] [(.ref q)])) _
      refine XS.iload X14.here hx rfl (hb hby at_193) rfl ?_
      show Steps p.tables e below (T14.setTop (mkF m 195 #[.val (.int i0), .val (.int i1), .val (.int i2), .val (.int i3), .val (.int i4), .val (.int i5), .val (.ref r0), .val (.ref b0), .val (.ref r1), .val (.ref b1), .val (.ref q), .val (.int (1 : Int32)), .val (.int (0 : Int32)), .val (.ref b1), .val (.int i1), .val (.int i0), .val (.ref r0), .val (.ref b0)] [(.int (1 : Int32)), (.ref q)])) _
      refine st15.trans ?_
      show Steps p.tables e below (T15.setTop (mkF m 198 #[.val (.int i0), .val (.int i1), .val (.int i2), .val (.int i3), .val (.int i4), .val (.int i5), .val (.ref r0), .val (.ref b0), .val (.ref r1), .val (.ref b1), .val (.ref q), .val (.int (1 : Int32)), .val (.int (0 : Int32)), .val (.ref b1), .val (.int i1), .val (.int i0), .val (.ref r0), .val (.ref b0)] [(.int i1)])) _
      refine XS.iload X15.here hx rfl (hb hby at_198) rfl ?_
      show Steps p.tables e below (T15.setTop (mkF m 200 #[.val (.int i0), .val (.int i1), .val (.int i2), .val (.int i3), .val (.int i4), .val (.int i5), .val (.ref r0), .val (.ref b0), .val (.ref r1), .val (.ref b1), .val (.ref q), .val (.int (1 : Int32)), .val (.int (0 : Int32)), .val (.ref b1), .val (.int i1), .val (.int i0), .val (.ref r0), .val (.ref b0)] [(.int i1), (.int i1)])) _
      refine XS.icmpNo X15.here hx rfl (hb hby at_200) rfl (teq rfl).2 ?_
      show Steps p.tables e below (T15.setTop (mkF m 203 #[.val (.int i0), .val (.int i1), .val (.int i2), .val (.int i3), .val (.int i4), .val (.int i5), .val (.ref r0), .val (.ref b0), .val (.ref r1), .val (.ref b1), .val (.ref q), .val (.int (1 : Int32)), .val (.int (0 : Int32)), .val (.ref b1), .val (.int i1), .val (.int i0), .val (.ref r0), .val (.ref b0)] [])) _
      refine XS.aload X15.here hx rfl (hb hby at_203) rfl rfl ?_
      show Steps p.tables e below (T15.setTop (mkF m 205 #[.val (.int i0), .val (.int i1), .val (.int i2), .val (.int i3), .val (.int i4), .val (.int i5), .val (.ref r0), .val (.ref b0), .val (.ref r1), .val (.ref b1), .val (.ref q), .val (.int (1 : Int32)), .val (.int (0 : Int32)), .val (.ref b1), .val (.int i1), .val (.int i0), .val (.ref r0), .val (.ref b0)] [(.ref q)])) _
      refine XS.iload X15.here hx rfl (hb hby at_205) rfl ?_
      show Steps p.tables e below (T15.setTop (mkF m 207 #[.val (.int i0), .val (.int i1), .val (.int i2), .val (.int i3), .val (.int i4), .val (.int i5), .val (.ref r0), .val (.ref b0), .val (.ref r1), .val (.ref b1), .val (.ref q), .val (.int (1 : Int32)), .val (.int (0 : Int32)), .val (.ref b1), .val (.int i1), .val (.int i0), .val (.ref r0), .val (.ref b0)] [(.int (1 : Int32)), (.ref q)])) _
      refine st16.trans ?_
      show Steps p.tables e below (T16.setTop (mkF m 210 #[.val (.int i0), .val (.int i1), .val (.int i2), .val (.int i3), .val (.int i4), .val (.int i5), .val (.ref r0), .val (.ref b0), .val (.ref r1), .val (.ref b1), .val (.ref q), .val (.int (1 : Int32)), .val (.int (0 : Int32)), .val (.ref b1), .val (.int i1), .val (.int i0), .val (.ref r0), .val (.ref b0)] [(.int i0)])) _
      refine XS.iload X16.here hx rfl (hb hby at_210) rfl ?_
      show Steps p.tables e below (T16.setTop (mkF m 212 #[.val (.int i0), .val (.int i1), .val (.int i2), .val (.int i3), .val (.int i4), .val (.int i5), .val (.ref r0), .val (.ref b0), .val (.ref r1), .val (.ref b1), .val (.ref q), .val (.int (1 : Int32)), .val (.int (0 : Int32)), .val (.ref b1), .val (.int i1), .val (.int i0), .val (.ref r0), .val (.ref b0)] [(.int i0), (.int i0)])) _
      refine XS.icmpNo X16.here hx rfl (hb hby at_212) rfl (teq rfl).2 ?_
      show Steps p.tables e below (T16.setTop (mkF m 215 #[.val (.int i0), .val (.int i1), .val (.int i2), .val (.int i3), .val (.int i4), .val (.int i5), .val (.ref r0), .val (.ref b0), .val (.ref r1), .val (.ref b1), .val (.ref q), .val (.int (1 : Int32)), .val (.int (0 : Int32)), .val (.ref b1), .val (.int i1), .val (.int i0), .val (.ref r0), .val (.ref b0)] [])) _
      refine XS.aload X16.here hx rfl (hb hby at_215) rfl rfl ?_
      show Steps p.tables e below (T16.setTop (mkF m 217 #[.val (.int i0), .val (.int i1), .val (.int i2), .val (.int i3), .val (.int i4), .val (.int i5), .val (.ref r0), .val (.ref b0), .val (.ref r1), .val (.ref b1), .val (.ref q), .val (.int (1 : Int32)), .val (.int (0 : Int32)), .val (.ref b1), .val (.int i1), .val (.int i0), .val (.ref r0), .val (.ref b0)] [(.ref q)])) _
      refine XS.iload X16.here hx rfl (hb hby at_217) rfl ?_
      show Steps p.tables e below (T16.setTop (mkF m 219 #[.val (.int i0), .val (.int i1), .val (.int i2), .val (.int i3), .val (.int i4), .val (.int i5), .val (.ref r0), .val (.ref b0), .val (.ref r1), .val (.ref b1), .val (.ref q), .val (.int (1 : Int32)), .val (.int (0 : Int32)), .val (.ref b1), .val (.int i1), .val (.int i0), .val (.ref r0), .val (.ref b0)] [(.int (1 : Int32)), (.ref q)])) _
      refine st17.trans ?_
      show Steps p.tables e below (T17.setTop (mkF m 222 #[.val (.int i0), .val (.int i1), .val (.int i2), .val (.int i3), .val (.int i4), .val (.int i5), .val (.ref r0), .val (.ref b0), .val (.ref r1), .val (.ref b1), .val (.ref q), .val (.int (1 : Int32)), .val (.int (0 : Int32)), .val (.ref b1), .val (.int i1), .val (.int i0), .val (.ref r0), .val (.ref b0)] [.null])) _
      refine XS.ifnonnullNo X17.here hx rfl (hb hby at_222) rfl ?_
      show Steps p.tables e below (T17.setTop (mkF m 225 #[.val (.int i0), .val (.int i1), .val (.int i2), .val (.int i3), .val (.int i4), .val (.int i5), .val (.ref r0), .val (.ref b0), .val (.ref r1), .val (.ref b1), .val (.ref q), .val (.int (1 : Int32)), .val (.int (0 : Int32)), .val (.ref b1), .val (.int i1), .val (.int i0), .val (.ref r0), .val (.ref b0)] [])) _
      refine XS.aload X17.here hx rfl (hb hby at_225) rfl rfl ?_
      show Steps p.tables e below (T17.setTop (mkF m 227 #[.val (.int i0), .val (.int i1), .val (.int i2), .val (.int i3), .val (.int i4), .val (.int i5), .val (.ref r0), .val (.ref b0), .val (.ref r1), .val (.ref b1), .val (.ref q), .val (.int (1 : Int32)), .val (.int (0 : Int32)), .val (.ref b1), .val (.int i1), .val (.int i0), .val (.ref r0), .val (.ref b0)] [(.ref q)])) _
      refine XS.iload X17.here hx rfl (hb hby at_227) rfl ?_
      show Steps p.tables e below (T17.setTop (mkF m 229 #[.val (.int i0), .val (.int i1), .val (.int i2), .val (.int i3), .val (.int i4), .val (.int i5), .val (.ref r0), .val (.ref b0), .val (.ref r1), .val (.ref b1), .val (.ref q), .val (.int (1 : Int32)), .val (.int (0 : Int32)), .val (.ref b1), .val (.int i1), .val (.int i0), .val (.ref r0), .val (.ref b0)] [(.int (0 : Int32)), (.ref q)])) _
      refine st18.trans ?_
      show Steps p.tables e below (T18.setTop (mkF m 232 #[.val (.int i0), .val (.int i1), .val (.int i2), .val (.int i3), .val (.int i4), .val (.int i5), .val (.ref r0), .val (.ref b0), .val (.ref r1), .val (.ref b1), .val (.ref q), .val (.int (1 : Int32)), .val (.int (0 : Int32)), .val (.ref b1), .val (.int i1), .val (.int i0), .val (.ref r0), .val (.ref b0)] [(.ref r0)])) _
      refine XS.aload X18.here hx rfl (hb hby at_232) rfl rfl ?_
      show Steps p.tables e below (T18.setTop (mkF m 234 #[.val (.int i0), .val (.int i1), .val (.int i2), .val (.int i3), .val (.int i4), .val (.int i5), .val (.ref r0), .val (.ref b0), .val (.ref r1), .val (.ref b1), .val (.ref q), .val (.int (1 : Int32)), .val (.int (0 : Int32)), .val (.ref b1), .val (.int i1), .val (.int i0), .val (.ref r0), .val (.ref b0)] [(.ref r0), (.ref r0)])) _
      refine XS.acmpNo X18.here hx rfl (hb hby at_234) rfl (by simp [if_acmp.holds]) ?_
      show Steps p.tables e below (T18.setTop (mkF m 237 #[.val (.int i0), .val (.int i1), .val (.int i2), .val (.int i3), .val (.int i4), .val (.int i5), .val (.ref r0), .val (.ref b0), .val (.ref r1), .val (.ref b1), .val (.ref q), .val (.int (1 : Int32)), .val (.int (0 : Int32)), .val (.ref b1), .val (.int i1), .val (.int i0), .val (.ref r0), .val (.ref b0)] [])) _
      refine XS.aload X18.here hx rfl (hb hby at_237) rfl rfl ?_
      show Steps p.tables e below (T18.setTop (mkF m 239 #[.val (.int i0), .val (.int i1), .val (.int i2), .val (.int i3), .val (.int i4), .val (.int i5), .val (.ref r0), .val (.ref b0), .val (.ref r1), .val (.ref b1), .val (.ref q), .val (.int (1 : Int32)), .val (.int (0 : Int32)), .val (.ref b1), .val (.int i1), .val (.int i0), .val (.ref r0), .val (.ref b0)] [(.ref q)])) _
      refine XS.iload X18.here hx rfl (hb hby at_239) rfl ?_
      show Steps p.tables e below (T18.setTop (mkF m 241 #[.val (.int i0), .val (.int i1), .val (.int i2), .val (.int i3), .val (.int i4), .val (.int i5), .val (.ref r0), .val (.ref b0), .val (.ref r1), .val (.ref b1), .val (.ref q), .val (.int (1 : Int32)), .val (.int (0 : Int32)), .val (.ref b1), .val (.int i1), .val (.int i0), .val (.ref r0), .val (.ref b0)] [(.int (0 : Int32)), (.ref q)])) _
      refine st19.trans ?_
      show Steps p.tables e below (T19.setTop (mkF m 244 #[.val (.int i0), .val (.int i1), .val (.int i2), .val (.int i3), .val (.int i4), .val (.int i5), .val (.ref r0), .val (.ref b0), .val (.ref r1), .val (.ref b1), .val (.ref q), .val (.int (1 : Int32)), .val (.int (0 : Int32)), .val (.ref b1), .val (.int i1), .val (.int i0), .val (.ref r0), .val (.ref b0)] [(.ref b0)])) _
      refine XS.aload X19.here hx rfl (hb hby at_244) rfl rfl ?_
      show Steps p.tables e below (T19.setTop (mkF m 246 #[.val (.int i0), .val (.int i1), .val (.int i2), .val (.int i3), .val (.int i4), .val (.int i5), .val (.ref r0), .val (.ref b0), .val (.ref r1), .val (.ref b1), .val (.ref q), .val (.int (1 : Int32)), .val (.int (0 : Int32)), .val (.ref b1), .val (.int i1), .val (.int i0), .val (.ref r0), .val (.ref b0)] [(.ref b0), (.ref b0)])) _
      refine XS.acmpNo X19.here hx rfl (hb hby at_246) rfl (by simp [if_acmp.holds]) ?_
      show Steps p.tables e below (T19.setTop (mkF m 249 #[.val (.int i0), .val (.int i1), .val (.int i2), .val (.int i3), .val (.int i4), .val (.int i5), .val (.ref r0), .val (.ref b0), .val (.ref r1), .val (.ref b1), .val (.ref q), .val (.int (1 : Int32)), .val (.int (0 : Int32)), .val (.ref b1), .val (.int i1), .val (.int i0), .val (.ref r0), .val (.ref b0)] [])) _
      refine XS.iconst X19.here hx rfl (hb hby at_249) ?_
      show Steps p.tables e below (T19.setTop (mkF m 250 #[.val (.int i0), .val (.int i1), .val (.int i2), .val (.int i3), .val (.int i4), .val (.int i5), .val (.ref r0), .val (.ref b0), .val (.ref r1), .val (.ref b1), .val (.ref q), .val (.int (1 : Int32)), .val (.int (0 : Int32)), .val (.ref b1), .val (.int i1), .val (.int i0), .val (.ref r0), .val (.ref b0)] [(.int (1 : Int32))])) _
      refine XS.goto X19.here hx rfl (pc0 := 250) (pc' := 254) rfl (hb hby at_250) (by decide) (by decide) ?_
      show Steps p.tables e below (T19.setTop (mkF m 254 #[.val (.int i0), .val (.int i1), .val (.int i2), .val (.int i3), .val (.int i4), .val (.int i5), .val (.ref r0), .val (.ref b0), .val (.ref r1), .val (.ref b1), .val (.ref q), .val (.int (1 : Int32)), .val (.int (0 : Int32)), .val (.ref b1), .val (.int i1), .val (.int i0), .val (.ref r0), .val (.ref b0)] [(.int (1 : Int32))])) _
      exact retN X19 hx (t := .boolean) Bd.returns (by simp) (hb hby at_254) hr
    · exact ⟨rfl, N19⟩
set_option maxRecDepth 65536 in
set_option maxHeartbeats 40000000 in
theorem comes_1 {Post : Tables → Env → Array Value → State → Outcome → State → Prop} (hpost : ∀ tb e args s v u, (limb_1_1.after args s (.returned v) u = true ∧ limb_1_2.after args s (.returned v) u = true ∧ True) → FrameEnd s (.returned v) u (Jvm.fieldLocs frame_1_writes args s ++ Jvm.arrayLocs frame_1_arrays args s ++ Jvm.staticLocs frame_1_statics s) 40 1536 → Post tb e args s (.returned v) u) :
    ArmFor flags0 classFile x code maxLocals ret World_1 tables_1 room_1 Calls_1 rest_1 Pre_1 Post := by
  intro l hfl _ _ p e ha hc hk s m args below hf hA hF happ hP
  obtain ⟨hcalls, hrest, hpre⟩ := hP
  obtain ⟨-, -, -, hnamed, -, -, -, hat⟩ := (Spec.applies_iff hf).mp happ
  obtain ⟨hg, hn⟩ := and_e (Cond.before_iff.mp (show (Jvm.Cond.and given_1 narrow_1).before args s = true from hpre))
  obtain ⟨h1, h2⟩ := and_e hg
  obtain ⟨g0, h2⟩ := and_e h2
  obtain ⟨g1, h2⟩ := and_e h2
  obtain ⟨g2, h2⟩ := and_e h2
  obtain ⟨g3, h2⟩ := and_e h2
  obtain ⟨g4, g5⟩ := and_e h2
  obtain ⟨w0, w1, w2, w3, w4, w5, rfl⟩ : ∃ w0 w1 w2 w3 w4 w5 : Value, args = #[w0, w1, w2, w3, w4, w5] := by
    have hs : args.size = 6 := by simpa [Cond.value, given_1] using h1
    obtain ⟨L⟩ := args
    match L, hs with
    | [w0, w1, w2, w3, w4, w5], _ => exact ⟨w0, w1, w2, w3, w4, w5, rfl⟩
  have hw := fun d (hd : d ∈ tables_1) => atoms_spec (ws := Jvm.Cond.code x code maxLocals ret :: tables_1) hat d (List.mem_cons_of_mem _ hd)
  obtain ⟨j0, f0⟩ := is_v g0
  obtain rfl : w0 = (.int j0) := Option.some.inj f0
  obtain ⟨j1, f1⟩ := is_v g1
  obtain rfl : w1 = (.int j1) := Option.some.inj f1
  obtain ⟨j2, f2⟩ := is_v g2
  obtain rfl : w2 = (.int j2) := Option.some.inj f2
  obtain ⟨j3, f3⟩ := is_v g3
  obtain rfl : w3 = (.int j3) := Option.some.inj f3
  obtain ⟨j4, f4⟩ := is_v g4
  obtain rfl : w4 = (.int j4) := Option.some.inj f4
  obtain ⟨j5, f5⟩ := is_v g5
  obtain rfl : w5 = (.int j5) := Option.some.inj f5
  obtain ⟨n, o, h1, h2, h3, _, L, rfl, ⟨rfl, N⟩, hq⟩ := rmL l s _ hw tables_1 j0 j1 j2 j3 j4 j5 s.heap s.heap.size (Nat.le_refl _) p e ha hc hk s m _ below hf ((Spec.applies_iff_loose hf).mp happ).1 ⟨rfl, State.Warmed39.refl s, rfl⟩ trivial
  refine ⟨n, _, h1, h2, h3, hpost _ _ _ _ _ _ ⟨Cond.after_iff.mpr rfl, Cond.after_iff.mpr (eq_i res_at (Term.int_eval (1)) rfl), trivial⟩ ⟨hq.1, hq.2.1, (hq.2.2.sift fun y hy => Or.inr (N y hy)).mono (by decide) (by decide)⟩⟩
theorem main_1_1 : Claimed_1_1 := comes_1 fun _ _ _ _ _ _ h hF => ⟨h.1, hF⟩
theorem main_1_2 : Claimed_1_2 := comes_1 fun _ _ _ _ _ _ h hF => ⟨h.2.1, hF⟩
end Jvm.Pilot.@@N@@
namespace Jvm.Pilot.@@N@@
open Jvm Jvm.ClassFile Sem Op Lib Jvm.Free Jvm.Stand Jvm.Pilot.@@N@@.Jvm.D
/-! MADE BY PROGRAM (witnessworld.py) out of the Statement's table words and the real class files, with double, [D and [[I besides: 12 classes; the members and pool entries that the words name. The judged class is class 1, her method 1. -/
namespace start1
open Jvm.ClassFile
def u (s : String) : CpInfo := .utf8 (stringToUtf16 s)
/-- a pool by its gaps: so many unusable entries, then the entry; so many at the end -/
def gap : Nat → List CpInfo → List CpInfo
  | 0, r => r
  | n + 1, r => .unusable :: gap n r
def poolList (es : List (Nat × CpInfo)) (last : Nat) : List CpInfo := es.foldr (fun e r => gap e.1 (e.2 :: r)) (gap last [])
def pool (es : List (Nat × CpInfo)) (last : Nat) : Array CpInfo := ⟨poolList es last⟩
def fileOf (pool : Array CpInfo) (this : Nat) (attrs : Array Attribute := #[]) (ms : Array MethodInfo := #[]) (fl : Nat := 33) (sup : Nat := 0) (ifs : Array Nat := #[]) (fds : Array FieldInfo := #[]) : ClassFile where
  minorVersion := 0
  majorVersion := 65
  constantPool := pool
  accessFlags := fl
  thisClass := this
  superClass := sup
  interfaces := ifs
  fields := fds
  methods := ms
  attributes := attrs
def plain (name : String) (sup : Option ClassId) : Class where
  name := name
  kind := .ordinary
  loader := none
  accessFlags := 33
  super := sup
  interfaces := #[]
  cf := none
  fields := #[]
  methods := #[]
  instanceTypes := #[]
  staticTypes := #[]
  resolved := #[]
  callSites := []
  init := .initialized
  statics := none
  mirror := none

def pool0 : Array CpInfo := pool [(5, u "<init>"), (0, u "()V"), (1, .class_ 10), (1, u "java/lang/Object")] 113

def k0c0 : Code := { maxStack := 0, maxLocals := 1, code := object_method_1_code, exceptionTable := #[], attributes := #[] }
def k0m0 : Method := { name := "<init>", desc := "()V", sig := { parameters := [], returnType := none }, accessFlags := 1, code := some k0c0 }
/-- java/lang/Object -/
def k0 : Class := { plain "java/lang/Object" none with
  accessFlags := 33
  interfaces := #[]
  cf := some (fileOf pool0 8 #[] #[{ accessFlags := 1, nameIndex := 5, descriptorIndex := 6, attributes := #[] }] 33 0 #[] #[])
  fields := #[]
  methods := #[k0m0]
  instanceTypes := #[]
  staticTypes := #[]
  resolved := Array.replicate 124 none
  statics := none }

def pool1 : Array CpInfo := pool [(2, .class_ 4), (0, .nameAndType 5 6), (0, u "java/lang/Object"), (0, u "<init>"), (0, u "()V"), (0, .class_ 8), (0, u "com/example/weaver_ant/weaverant/simulation/DepartureQueue"), (0, .methodref 7 3), (0, .methodref 7 11), (0, .nameAndType 12 13), (0, u "add"), (0, u "(DI[III[III)V"), (0, .methodref 7 15), (0, .nameAndType 16 17), (0, u "switchToBackup"), (0, u "(I)V"), (0, .methodref 7 19), (0, .nameAndType 20 21), (0, u "route"), (0, u "(I)[I"), (0, .methodref 7 23), (0, .nameAndType 24 25), (0, u "start"), (0, u "(I)I"), (0, .methodref 7 27), (0, .nameAndType 28 25), (0, u "width"), (0, .methodref 7 30), (0, .nameAndType 31 21), (0, u "backup"), (0, .class_ 33), (0, u "com/example/weaver_ant/weaverant/simulation/DepartureQueueSwitchToBackupPinLaw"), (2, u "law"), (0, u "(IIIIII)Z")] 5

def k1m0 : Method := { name := "<init>", desc := "()V", sig := { parameters := [], returnType := none }, accessFlags := 1, code := none }
def k1c1 : Code := { maxStack := 10, maxLocals := 18, code := code, exceptionTable := #[], attributes := #[] }
def k1m1 : Method := { name := "law", desc := "(IIIIII)Z", sig := { parameters := [.int, .int, .int, .int, .int, .int], returnType := some .boolean }, accessFlags := 9, code := some k1c1 }
/-- com/example/weaver_ant/weaverant/simulation/DepartureQueueSwitchToBackupPinLaw -/
def k1 : Class := { plain "com/example/weaver_ant/weaverant/simulation/DepartureQueueSwitchToBackupPinLaw" (some 0) with
  accessFlags := 49
  interfaces := #[]
  cf := some (fileOf pool1 32 #[] #[{ accessFlags := 1, nameIndex := 5, descriptorIndex := 6, attributes := #[] }, { accessFlags := 9, nameIndex := 36, descriptorIndex := 37, attributes := #[] }] 49 2 #[] #[])
  fields := #[]
  methods := #[k1m0, k1m1]
  instanceTypes := #[]
  staticTypes := #[]
  resolved := Array.replicate 43 none
  statics := none }

def pool2 : Array CpInfo := pool [(1, .methodref 2 3), (0, .class_ 4), (0, .nameAndType 5 6), (0, u "java/lang/Object"), (0, u "<init>"), (0, u "()V"), (0, .class_ 8), (0, u "com/example/weaver_ant/weaverant/simulation/DepartureQueue"), (0, .fieldref 7 10), (0, .nameAndType 11 12), (0, u "times"), (0, u "[D"), (0, .fieldref 7 14), (0, .nameAndType 15 16), (0, u "heapSlots"), (0, u "[I"), (0, .fieldref 7 18), (0, .nameAndType 19 16), (0, u "positions"), (0, .fieldref 7 21), (0, .nameAndType 22 16), (0, u "pairs"), (0, .class_ 16), (0, .fieldref 7 25), (0, .nameAndType 26 27), (0, u "routes"), (0, u "[[I"), (0, .fieldref 7 29), (0, .nameAndType 30 16), (0, u "starts"), (0, .fieldref 7 32), (0, .nameAndType 33 16), (0, u "widths"), (0, .fieldref 7 35), (0, .nameAndType 36 27), (0, u "backups"), (0, .fieldref 7 38), (0, .nameAndType 39 16), (0, u "backupStarts"), (0, .fieldref 7 41), (0, .nameAndType 42 16), (0, u "backupWidths"), (0, .fieldref 7 44), (0, .nameAndType 45 16), (0, u "freeSlots"), (0, .fieldref 7 47), (0, .nameAndType 48 49), (0, u "size"), (0, u "I"), (7, .fieldref 7 58), (0, .nameAndType 59 49), (0, u "freeCount"), (0, .methodref 7 61), (0, .nameAndType 62 63), (0, u "siftUp"), (0, u "(IDI)V"), (3, .methodref 7 68), (0, .nameAndType 69 63), (0, u "place"), (13, u "INITIAL_CAPACITY"), (12, u "(I)I"), (3, u "route"), (0, u "(I)[I"), (0, u "start"), (0, u "width"), (0, u "backup"), (2, u "add"), (0, u "(DI[III[III)V"), (0, u "switchToBackup"), (0, u "(I)V")] 3

def k2c0 : Code := { maxStack := 2, maxLocals := 1, code := prog_37_method_1_code, exceptionTable := #[], attributes := #[] }
def k2m0 : Method := { name := "<init>", desc := "()V", sig := { parameters := [], returnType := none }, accessFlags := 0, code := some k2c0 }
def k2c1 : Code := { maxStack := 2, maxLocals := 2, code := prog_37_method_9_code, exceptionTable := #[], attributes := #[] }
def k2m1 : Method := { name := "route", desc := "(I)[I", sig := { parameters := [.int], returnType := some (.array .int) }, accessFlags := 0, code := some k2c1 }
def k2c2 : Code := { maxStack := 2, maxLocals := 2, code := prog_37_method_10_code, exceptionTable := #[], attributes := #[] }
def k2m2 : Method := { name := "start", desc := "(I)I", sig := { parameters := [.int], returnType := some .int }, accessFlags := 0, code := some k2c2 }
def k2c3 : Code := { maxStack := 2, maxLocals := 2, code := prog_37_method_11_code, exceptionTable := #[], attributes := #[] }
def k2m3 : Method := { name := "width", desc := "(I)I", sig := { parameters := [.int], returnType := some .int }, accessFlags := 0, code := some k2c3 }
def k2c4 : Code := { maxStack := 2, maxLocals := 2, code := prog_37_method_12_code, exceptionTable := #[], attributes := #[] }
def k2m4 : Method := { name := "backup", desc := "(I)[I", sig := { parameters := [.int], returnType := some (.array .int) }, accessFlags := 0, code := some k2c4 }
def k2c5 : Code := { maxStack := 5, maxLocals := 11, code := prog_37_method_15_code, exceptionTable := #[], attributes := #[] }
def k2m5 : Method := { name := "add", desc := "(DI[III[III)V", sig := { parameters := [.double, .int, (.array .int), .int, .int, (.array .int), .int, .int], returnType := none }, accessFlags := 0, code := some k2c5 }
def k2c6 : Code := { maxStack := 4, maxLocals := 2, code := prog_37_method_16_code, exceptionTable := #[], attributes := #[] }
def k2m6 : Method := { name := "switchToBackup", desc := "(I)V", sig := { parameters := [.int], returnType := none }, accessFlags := 0, code := some k2c6 }
def k2c7 : Code := { maxStack := 6, maxLocals := 7, code := prog_37_method_18_code, exceptionTable := #[], attributes := #[] }
def k2m7 : Method := { name := "siftUp", desc := "(IDI)V", sig := { parameters := [.int, .double, .int], returnType := none }, accessFlags := 2, code := some k2c7 }
def k2c8 : Code := { maxStack := 4, maxLocals := 5, code := prog_37_method_20_code, exceptionTable := #[], attributes := #[] }
def k2m8 : Method := { name := "place", desc := "(IDI)V", sig := { parameters := [.int, .double, .int], returnType := none }, accessFlags := 2, code := some k2c8 }
/-- com/example/weaver_ant/weaverant/simulation/DepartureQueue -/
def k2 : Class := { plain "com/example/weaver_ant/weaverant/simulation/DepartureQueue" (some 0) with
  accessFlags := 48
  interfaces := #[]
  cf := some (fileOf pool2 7 #[] #[{ accessFlags := 0, nameIndex := 5, descriptorIndex := 6, attributes := #[] }, { accessFlags := 0, nameIndex := 100, descriptorIndex := 101, attributes := #[] }, { accessFlags := 0, nameIndex := 102, descriptorIndex := 96, attributes := #[] }, { accessFlags := 0, nameIndex := 103, descriptorIndex := 96, attributes := #[] }, { accessFlags := 0, nameIndex := 104, descriptorIndex := 101, attributes := #[] }, { accessFlags := 0, nameIndex := 107, descriptorIndex := 108, attributes := #[] }, { accessFlags := 0, nameIndex := 109, descriptorIndex := 110, attributes := #[] }, { accessFlags := 2, nameIndex := 62, descriptorIndex := 63, attributes := #[] }, { accessFlags := 2, nameIndex := 69, descriptorIndex := 63, attributes := #[] }] 48 2 #[] #[{ accessFlags := 26, nameIndex := 83, descriptorIndex := 49, attributes := #[] }, { accessFlags := 2, nameIndex := 11, descriptorIndex := 12, attributes := #[] }, { accessFlags := 2, nameIndex := 15, descriptorIndex := 16, attributes := #[] }, { accessFlags := 2, nameIndex := 48, descriptorIndex := 49, attributes := #[] }, { accessFlags := 2, nameIndex := 19, descriptorIndex := 16, attributes := #[] }, { accessFlags := 2, nameIndex := 22, descriptorIndex := 16, attributes := #[] }, { accessFlags := 2, nameIndex := 26, descriptorIndex := 27, attributes := #[] }, { accessFlags := 2, nameIndex := 30, descriptorIndex := 16, attributes := #[] }, { accessFlags := 2, nameIndex := 33, descriptorIndex := 16, attributes := #[] }, { accessFlags := 2, nameIndex := 36, descriptorIndex := 27, attributes := #[] }, { accessFlags := 2, nameIndex := 39, descriptorIndex := 16, attributes := #[] }, { accessFlags := 2, nameIndex := 42, descriptorIndex := 16, attributes := #[] }, { accessFlags := 2, nameIndex := 45, descriptorIndex := 16, attributes := #[] }, { accessFlags := 2, nameIndex := 59, descriptorIndex := 49, attributes := #[] }])
  fields := #[{ name := "INITIAL_CAPACITY", type := .int, accessFlags := 26, slot := 0, constantValue := 0 }, { name := "times", type := (.array .double), accessFlags := 2, slot := 0, constantValue := 0 }, { name := "heapSlots", type := (.array .int), accessFlags := 2, slot := 1, constantValue := 0 }, { name := "size", type := .int, accessFlags := 2, slot := 2, constantValue := 0 }, { name := "positions", type := (.array .int), accessFlags := 2, slot := 3, constantValue := 0 }, { name := "pairs", type := (.array .int), accessFlags := 2, slot := 4, constantValue := 0 }, { name := "routes", type := (.array (.array .int)), accessFlags := 2, slot := 5, constantValue := 0 }, { name := "starts", type := (.array .int), accessFlags := 2, slot := 6, constantValue := 0 }, { name := "widths", type := (.array .int), accessFlags := 2, slot := 7, constantValue := 0 }, { name := "backups", type := (.array (.array .int)), accessFlags := 2, slot := 8, constantValue := 0 }, { name := "backupStarts", type := (.array .int), accessFlags := 2, slot := 9, constantValue := 0 }, { name := "backupWidths", type := (.array .int), accessFlags := 2, slot := 10, constantValue := 0 }, { name := "freeSlots", type := (.array .int), accessFlags := 2, slot := 11, constantValue := 0 }, { name := "freeCount", type := .int, accessFlags := 2, slot := 12, constantValue := 0 }]
  methods := #[k2m0, k2m1, k2m2, k2m3, k2m4, k2m5, k2m6, k2m7, k2m8]
  instanceTypes := #[(.array .double), (.array .int), .int, (.array .int), (.array .int), (.array (.array .int)), (.array .int), (.array .int), (.array (.array .int)), (.array .int), (.array .int), (.array .int), .int]
  staticTypes := #[.int]
  resolved := Array.replicate 114 none
  statics := none }

def pool3 : Array CpInfo := pool [(1, u "java/lang/Cloneable"), (0, .class_ 1), (0, u "java/lang/Object"), (0, .class_ 3)] 3

/-- java/lang/Cloneable -/
def k3 : Class := { plain "java/lang/Cloneable" (some 0) with
  accessFlags := 1537
  interfaces := #[]
  cf := some (fileOf pool3 2 #[] #[] 1537 4 #[] #[])
  fields := #[]
  methods := #[]
  instanceTypes := #[]
  staticTypes := #[]
  resolved := Array.replicate 8 none
  statics := none }

def pool4 : Array CpInfo := pool [(1, u "java/io/Serializable"), (0, .class_ 1), (0, u "java/lang/Object"), (0, .class_ 3)] 3

/-- java/io/Serializable -/
def k4 : Class := { plain "java/io/Serializable" (some 0) with
  accessFlags := 1537
  interfaces := #[]
  cf := some (fileOf pool4 2 #[] #[] 1537 4 #[] #[])
  fields := #[]
  methods := #[]
  instanceTypes := #[]
  staticTypes := #[]
  resolved := Array.replicate 8 none
  statics := none }

/-- the primitive byte -/
def k5 : Class := { plain "byte" none with kind := .primitive 'B', accessFlags := 0x411 }
/-- [B -/
def k6 : Class := { plain "[B" (some 0) with kind := .array 5 .byte, interfaces := #[3, 4], accessFlags := 1041 }

/-- the primitive int -/
def k7 : Class := { plain "int" none with kind := .primitive 'I', accessFlags := 0x411 }
/-- [I -/
def k8 : Class := { plain "[I" (some 0) with kind := .array 7 .int, interfaces := #[3, 4], accessFlags := 1041 }

/-- the primitive double -/
def k9 : Class := { plain "double" none with kind := .primitive 'D', accessFlags := 0x411 }
/-- [D -/
def k10 : Class := { plain "[D" (some 0) with kind := .array 9 .double, interfaces := #[3, 4], accessFlags := 1041 }
/-- [[I -/
def k11 : Class := { plain "[[I" (some 0) with kind := .array 8 (.array .int), interfaces := #[3, 4], accessFlags := 1041 }

def heap : Heap := #[]
def classes : Array Class := #[k0, k1, k2, k3, k4, k5, k6, k7, k8, k9, k10, k11]
def interned : List (Array UInt16 × Addr) := []
def slotsUsed : Nat := 0
def theMethod : MethodId := ⟨1, 1⟩
def args0 : Array Value := #[.int 5, .int 7, .int 11, .int 13, .int 17, .int 100]
def aboutOver (below : List Frame) : State where
  vm := { classes := classes, interned := interned.toArray }
  heap := heap
  slotsUsed := slotsUsed
  threads := #[{ frames := .invoking theMethod args0 :: below }]
def below0 : List Frame := [.native { method := ⟨0, 0⟩, args := #[] }]
def about1 : State := aboutOver below0
def p0 : Program := .bare "" "" ""
def e0 : Env := launch0.env 0 0 0
theorem w_frames : about1.frames = Frame.invoking theMethod args0 :: below0 := rfl
set_option maxRecDepth 65536 in
theorem w_args : argsFit about1.vm theMethod args0 = true := by decide +kernel
set_option maxRecDepth 65536 in
theorem w_heap : heapFits about1 = true := by decide +kernel
set_option maxRecDepth 65536 in
theorem w_runnable : about1.curStatus? = some .runnable := by decide +kernel
set_option maxRecDepth 65536 in
theorem w_alone : about1.alone = true := by decide +kernel
set_option maxRecDepth 65536 in
theorem w_named : about1.methodNamed? x = some theMethod := by decide +kernel
set_option maxRecDepth 65536 in
theorem w_hears : about1.hears theMethod below0 = true := by decide +kernel
set_option maxRecDepth 65536 in
theorem w_ripe : about1.ripe theMethod args0 below0 = true := by decide +kernel
theorem w_running : about1.status = .running := rfl
set_option maxRecDepth 65536 in
theorem w_room : about1.hasRoom e0.platform room_1 = true :=
  launch0.hasRoom_least _ room_1 (by decide +kernel) (by decide +kernel) (by decide +kernel) (by decide +kernel) (by decide +kernel) (by decide +kernel)
theorem allAtoms_all (ts : List Jvm.Cond) (a : Array Jvm.Value) (st : Jvm.State) : (allAtoms ts).before a st = ts.all (fun c => c.before a st) := by
  induction ts with
  | nil => rfl
  | cons c t ih =>
    show (Jvm.Cond.and c (allAtoms t)).before a st = _
    rw [Jvm.Cond.before_and, ih, List.all_cons]
def words1 : List Jvm.Cond := Jvm.Cond.code x code maxLocals ret :: tables_1
/-- a 'code' word, met by the world's own term for the bytes: nothing is compared byte by byte -/
theorem code_word {y : MethodName} {bytes : ByteArray} {mx : Nat} {rt : Option FieldType} {a : Array Value} {s : State} {m : MethodId} {meth : Method} {c : Code} (h1 : s.methodNamed? y = some m) (h2 : s.vm.method? m = some meth) (h3 : meth.code = some c) (h4 : c.code = bytes)
    (h5 : (c.maxLocals == mx && c.exceptionTable.isEmpty && decide (c.maxStack ≤ mostOperands) && decide (meth.sig.returnType = rt) && !meth.locks && decide (parseMethodDescriptor y.desc = some meth.sig)) = true) : (Jvm.Cond.code y bytes mx rt).before a s = true := by
  simp only [Bool.and_eq_true, beq_iff_eq, Bool.not_eq_true', decide_eq_true_eq] at h5
  obtain ⟨⟨⟨⟨⟨g1, g2⟩, g3⟩, g4⟩, g5⟩, g6⟩ := h5
  simp [Cond.before, Cond.holds, Cond.value, h1, h2, h3, h4, g1, g2, g3, g4, g5, g6]
def isCode : Jvm.Cond → Bool
  | .code _ _ _ _ => true
  | _ => false
theorem all_split {L : List Jvm.Cond} {P : Jvm.Cond → Bool} (h1 : L.all (fun c => isCode c || P c) = true) (h2 : ∀ c ∈ L.filter isCode, P c = true) : L.all P = true := by
  refine List.all_eq_true.mpr fun c hc => ?_
  have h := List.all_eq_true.mp h1 c hc
  rcases Bool.eq_false_or_eq_true (isCode c) with hi | hi
  · exact h2 c (List.mem_filter.mpr ⟨hc, hi⟩)
  · simpa [hi] using h
set_option maxRecDepth 65536 in
theorem w_c0 : (Jvm.Cond.code x code maxLocals ret).before args0 about1 = true := code_word (m := ⟨1, 1⟩) (meth := k1m1) (c := k1c1) (by decide +kernel) rfl rfl rfl (by decide +kernel)
set_option maxRecDepth 65536 in
theorem w_c1 : (Jvm.Cond.code ({ cls := "com/example/weaver_ant/weaverant/simulation/DepartureQueue", name := "<init>", desc := "()V" } : Jvm.MethodName) prog_37_method_1_code (1 : Nat) (Option.none : Option Jvm.ClassFile.FieldType)).before args0 about1 = true := code_word (m := ⟨2, 0⟩) (meth := k2m0) (c := k2c0) (by decide +kernel) rfl rfl rfl (by decide +kernel)
set_option maxRecDepth 65536 in
theorem w_c2 : (Jvm.Cond.code ({ cls := "java/lang/Object", name := "<init>", desc := "()V" } : Jvm.MethodName) object_method_1_code (1 : Nat) (Option.none : Option Jvm.ClassFile.FieldType)).before args0 about1 = true := code_word (m := ⟨0, 0⟩) (meth := k0m0) (c := k0c0) (by decide +kernel) rfl rfl rfl (by decide +kernel)
set_option maxRecDepth 65536 in
theorem w_c3 : (Jvm.Cond.code ({ cls := "com/example/weaver_ant/weaverant/simulation/DepartureQueue", name := "add", desc := "(DI[III[III)V" } : Jvm.MethodName) prog_37_method_15_code (11 : Nat) (Option.none : Option Jvm.ClassFile.FieldType)).before args0 about1 = true := code_word (m := ⟨2, 5⟩) (meth := k2m5) (c := k2c5) (by decide +kernel) rfl rfl rfl (by decide +kernel)
set_option maxRecDepth 65536 in
theorem w_c4 : (Jvm.Cond.code ({ cls := "com/example/weaver_ant/weaverant/simulation/DepartureQueue", name := "siftUp", desc := "(IDI)V" } : Jvm.MethodName) prog_37_method_18_code (7 : Nat) (Option.none : Option Jvm.ClassFile.FieldType)).before args0 about1 = true := code_word (m := ⟨2, 7⟩) (meth := k2m7) (c := k2c7) (by decide +kernel) rfl rfl rfl (by decide +kernel)
set_option maxRecDepth 65536 in
theorem w_c5 : (Jvm.Cond.code ({ cls := "com/example/weaver_ant/weaverant/simulation/DepartureQueue", name := "place", desc := "(IDI)V" } : Jvm.MethodName) prog_37_method_20_code (5 : Nat) (Option.none : Option Jvm.ClassFile.FieldType)).before args0 about1 = true := code_word (m := ⟨2, 8⟩) (meth := k2m8) (c := k2c8) (by decide +kernel) rfl rfl rfl (by decide +kernel)
set_option maxRecDepth 65536 in
theorem w_c6 : (Jvm.Cond.code ({ cls := "com/example/weaver_ant/weaverant/simulation/DepartureQueue", name := "switchToBackup", desc := "(I)V" } : Jvm.MethodName) prog_37_method_16_code (2 : Nat) (Option.none : Option Jvm.ClassFile.FieldType)).before args0 about1 = true := code_word (m := ⟨2, 6⟩) (meth := k2m6) (c := k2c6) (by decide +kernel) rfl rfl rfl (by decide +kernel)
set_option maxRecDepth 65536 in
theorem w_c7 : (Jvm.Cond.code ({ cls := "com/example/weaver_ant/weaverant/simulation/DepartureQueue", name := "route", desc := "(I)[I" } : Jvm.MethodName) prog_37_method_9_code (2 : Nat) (Option.some (Jvm.ClassFile.FieldType.array Jvm.ClassFile.FieldType.int))).before args0 about1 = true := code_word (m := ⟨2, 1⟩) (meth := k2m1) (c := k2c1) (by decide +kernel) rfl rfl rfl (by decide +kernel)
set_option maxRecDepth 65536 in
theorem w_c8 : (Jvm.Cond.code ({ cls := "com/example/weaver_ant/weaverant/simulation/DepartureQueue", name := "start", desc := "(I)I" } : Jvm.MethodName) prog_37_method_10_code (2 : Nat) (Option.some Jvm.ClassFile.FieldType.int)).before args0 about1 = true := code_word (m := ⟨2, 2⟩) (meth := k2m2) (c := k2c2) (by decide +kernel) rfl rfl rfl (by decide +kernel)
set_option maxRecDepth 65536 in
theorem w_c9 : (Jvm.Cond.code ({ cls := "com/example/weaver_ant/weaverant/simulation/DepartureQueue", name := "width", desc := "(I)I" } : Jvm.MethodName) prog_37_method_11_code (2 : Nat) (Option.some Jvm.ClassFile.FieldType.int)).before args0 about1 = true := code_word (m := ⟨2, 3⟩) (meth := k2m3) (c := k2c3) (by decide +kernel) rfl rfl rfl (by decide +kernel)
set_option maxRecDepth 65536 in
theorem w_c10 : (Jvm.Cond.code ({ cls := "com/example/weaver_ant/weaverant/simulation/DepartureQueue", name := "backup", desc := "(I)[I" } : Jvm.MethodName) prog_37_method_12_code (2 : Nat) (Option.some (Jvm.ClassFile.FieldType.array Jvm.ClassFile.FieldType.int))).before args0 about1 = true := code_word (m := ⟨2, 4⟩) (meth := k2m4) (c := k2c4) (by decide +kernel) rfl rfl rfl (by decide +kernel)
def codes1 : List Jvm.Cond := [Jvm.Cond.code x code maxLocals ret, Jvm.Cond.code ({ cls := "com/example/weaver_ant/weaverant/simulation/DepartureQueue", name := "<init>", desc := "()V" } : Jvm.MethodName) prog_37_method_1_code (1 : Nat) (Option.none : Option Jvm.ClassFile.FieldType), Jvm.Cond.code ({ cls := "java/lang/Object", name := "<init>", desc := "()V" } : Jvm.MethodName) object_method_1_code (1 : Nat) (Option.none : Option Jvm.ClassFile.FieldType), Jvm.Cond.code ({ cls := "com/example/weaver_ant/weaverant/simulation/DepartureQueue", name := "add", desc := "(DI[III[III)V" } : Jvm.MethodName) prog_37_method_15_code (11 : Nat) (Option.none : Option Jvm.ClassFile.FieldType), Jvm.Cond.code ({ cls := "com/example/weaver_ant/weaverant/simulation/DepartureQueue", name := "siftUp", desc := "(IDI)V" } : Jvm.MethodName) prog_37_method_18_code (7 : Nat) (Option.none : Option Jvm.ClassFile.FieldType), Jvm.Cond.code ({ cls := "com/example/weaver_ant/weaverant/simulation/DepartureQueue", name := "place", desc := "(IDI)V" } : Jvm.MethodName) prog_37_method_20_code (5 : Nat) (Option.none : Option Jvm.ClassFile.FieldType), Jvm.Cond.code ({ cls := "com/example/weaver_ant/weaverant/simulation/DepartureQueue", name := "switchToBackup", desc := "(I)V" } : Jvm.MethodName) prog_37_method_16_code (2 : Nat) (Option.none : Option Jvm.ClassFile.FieldType), Jvm.Cond.code ({ cls := "com/example/weaver_ant/weaverant/simulation/DepartureQueue", name := "route", desc := "(I)[I" } : Jvm.MethodName) prog_37_method_9_code (2 : Nat) (Option.some (Jvm.ClassFile.FieldType.array Jvm.ClassFile.FieldType.int)), Jvm.Cond.code ({ cls := "com/example/weaver_ant/weaverant/simulation/DepartureQueue", name := "start", desc := "(I)I" } : Jvm.MethodName) prog_37_method_10_code (2 : Nat) (Option.some Jvm.ClassFile.FieldType.int), Jvm.Cond.code ({ cls := "com/example/weaver_ant/weaverant/simulation/DepartureQueue", name := "width", desc := "(I)I" } : Jvm.MethodName) prog_37_method_11_code (2 : Nat) (Option.some Jvm.ClassFile.FieldType.int), Jvm.Cond.code ({ cls := "com/example/weaver_ant/weaverant/simulation/DepartureQueue", name := "backup", desc := "(I)[I" } : Jvm.MethodName) prog_37_method_12_code (2 : Nat) (Option.some (Jvm.ClassFile.FieldType.array Jvm.ClassFile.FieldType.int))]
set_option maxRecDepth 65536 in
theorem codes_eq : words1.filter isCode = codes1 := rfl
theorem w_codes : ∀ c ∈ words1.filter isCode, c.before args0 about1 = true := by
  rw [codes_eq]
  intro c hc
  simp only [codes1, List.mem_cons, List.not_mem_nil, or_false] at hc
  rcases hc with rfl | rfl | rfl | rfl | rfl | rfl | rfl | rfl | rfl | rfl | rfl
  · exact w_c0
  · exact w_c1
  · exact w_c2
  · exact w_c3
  · exact w_c4
  · exact w_c5
  · exact w_c6
  · exact w_c7
  · exact w_c8
  · exact w_c9
  · exact w_c10
set_option maxRecDepth 65536 in
theorem w_t1 : (words1.take 24).all (fun c => isCode c || c.before args0 about1) = true := by decide +kernel
set_option maxRecDepth 65536 in
theorem w_t2 : ((words1.drop 24).take 24).all (fun c => isCode c || c.before args0 about1) = true := by decide +kernel
set_option maxRecDepth 65536 in
theorem w_t3 : (((words1.drop 24).drop 24).take 24).all (fun c => isCode c || c.before args0 about1) = true := by decide +kernel
set_option maxRecDepth 65536 in
theorem w_t4 : (((words1.drop 24).drop 24).drop 24).all (fun c => isCode c || c.before args0 about1) = true := by decide +kernel
theorem w_tables : (allAtoms (Jvm.Cond.code x code maxLocals ret :: tables_1)).before args0 about1 = true := by
  rw [allAtoms_all]
  show words1.all (fun c => c.before args0 about1) = true
  refine all_split ?_ w_codes
  rw [← List.take_append_drop 24 words1, List.all_append, w_t1, ← List.take_append_drop 24 (words1.drop 24), List.all_append, w_t2, ← List.take_append_drop 24 ((words1.drop 24).drop 24), List.all_append, w_t3, w_t4]
  rfl
set_option maxRecDepth 65536 in
theorem w_case : (Jvm.Cond.and given_1 narrow_1).before args0 about1 = true := by decide +kernel
theorem w_applies : (headSpec (Jvm.Cond.code x code maxLocals ret :: tables_1) room_1).applies x e0.platform about1 = true :=
  (Spec.applies_iff w_frames).mpr ⟨w_running, w_runnable, w_alone, w_named, w_hears, w_ripe, w_room, w_tables⟩
theorem atStart : AtStart classFile x code maxLocals ret World_1 tables_1 room_1 Calls_1 rest_1 Pre_1 launch0 p0 e0 about1 theMethod args0 below0 :=
  ⟨lists_1, trivial, launch0.admits_env _ _ _, launch0.least_env, fairChoices_fair.cas, fairChoices_fair.clock, w_frames, w_args, w_heap, w_applies, trivial, trivial, w_case⟩
end start1
theorem witness_1 : WitnessClaimed_1 := ⟨start1.p0, start1.e0, start1.about1, start1.theMethod, start1.args0, start1.below0, start1.atStart⟩
end Jvm.Pilot.@@N@@
