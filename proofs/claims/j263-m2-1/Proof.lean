import JvmDerived
import JvmDerived.Pilot.@@N@@Statement
import JvmDerived.Pilot.@@N@@Code
set_option linter.unusedVariables false
set_option linter.unusedSimpArgs false
namespace Jvm.Pilot.@@N@@
open Jvm Jvm.ClassFile Sem Op Lib Jvm.Free Jvm.Stand Jvm.LawKit Jvm.RoadKit Bundle Jvm.Pilot.@@N@@.Jvm.D
theorem own_eqI {args : Array Value} {s : State} {t : Jvm.Term} {k : Int32} (h : (Jvm.Cond.eq t (.int k)).value args s none s [] = some true) : t.eval args s none [] s = some (.int k) := by
  cases ht : t.eval args s none [] s with
  | none => simp [Jvm.Cond.value, ht] at h
  | some x => cases x <;> simp [Jvm.Cond.value, ht, Jvm.Term.eval] at h ⊢; exact h
theorem own_eqR {args : Array Value} {s : State} {t u : Jvm.Term} {w : Addr} (hu : u.eval args s none [] s = some (.ref w)) (h : (Jvm.Cond.eq t u).value args s none s [] = some true) : t.eval args s none [] s = some (.ref w) := by
  cases ht : t.eval args s none [] s with
  | none => simp [Jvm.Cond.value, ht] at h
  | some x => cases x <;> simp [Jvm.Cond.value, ht, hu] at h ⊢; exact h
theorem own_fldI {args : Array Value} {s : State} {t : Jvm.Term} {w : Addr} {C n d : String} {k : Int32} (ht : t.eval args s none [] s = some (.ref w)) (h : (Jvm.Cond.eq (Jvm.Term.field t C n d) (.int k)).value args s none s [] = some true) : Fld s s.heap w C n d (.int k) := Fld.start ((fld_at ht).symm.trans (own_eqI h))
theorem own_fldN {args : Array Value} {s : State} {t : Jvm.Term} {w : Addr} {C n d : String} (ht : t.eval args s none [] s = some (.ref w)) (h : (Jvm.Cond.eq (Jvm.Term.field t C n d) .null).value args s none s [] = some true) : Fld s s.heap w C n d .null := Fld.start ((fld_at ht).symm.trans (null_v h))
theorem own_fldR {args : Array Value} {s : State} {t : Jvm.Term} {w y : Addr} {C n d : String} (ht : t.eval args s none [] s = some (.ref w)) (h : (Jvm.Term.field t C n d).eval args s none [] s = some (.ref y)) : Fld s s.heap w C n d (.ref y) := Fld.start ((fld_at ht).symm.trans h)
theorem own_len {args : Array Value} {s : State} {t : Jvm.Term} {y : Addr} {cl : Cell} {ty : FieldType} {z : Int32} (ht : t.eval args s none [] s = some (.ref y)) (A : Arr s s.heap y cl ty) (h : (Jvm.Cond.eq (Jvm.Term.length t) (.int z)).value args s none s [] = some true) : cl.slots.size.toInt32 = z := by
  obtain ⟨b, cell, q⟩ := Jvm.Lib.length_spec (own_eqI h)
  have hb : y = b := Value.ref.inj (Option.some.inj (ht.symm.trans q.1))
  have hc : cell = cl := Option.some.inj (q.2.1.symm.trans (by rw [← hb]; exact IntBox.arrayAt_of A.1 A.2.1 A.2.2))
  rw [← hc]
  exact (Value.int.inj q.2.2.2).symm
theorem own_len31 {args : Array Value} {s : State} {t : Jvm.Term} {y : Addr} {cl : Cell} {ty : FieldType} {z : Int32} (ht : t.eval args s none [] s = some (.ref y)) (A : Arr s s.heap y cl ty) (h : (Jvm.Cond.eq (Jvm.Term.length t) (.int z)).value args s none s [] = some true) : cl.slots.size < 2 ^ 31 := by
  obtain ⟨b, cell, q⟩ := Jvm.Lib.length_spec (own_eqI h)
  have hb : y = b := Value.ref.inj (Option.some.inj (ht.symm.trans q.1))
  have hc : cell = cl := Option.some.inj (q.2.1.symm.trans (by rw [← hb]; exact IntBox.arrayAt_of A.1 A.2.1 A.2.2))
  rw [← hc]
  exact q.2.2.1
theorem own_nar {x : Int32} (h : x = 0 ∨ x = 1) : nar .boolean x = x := by rcases h with rfl | rfl <;> rfl
theorem own_nb {x : Int32} (h : x = 0 ∨ x = 1) : narrow .boolean (.int x) = .int x := by rcases h with rfl | rfl <;> rfl
theorem own_fb {x : Int32} (h : x = 0 ∨ x = 1) : fits .boolean (.int x) = true := by rcases h with rfl | rfl <;> rfl
theorem own_nsroot {Z : State} {a0 : Array Value} {O K : String} {n : Nat} (w : (Jvm.Cond.noSuperclass O).before a0 Z = true) (wk : (Jvm.Cond.instantiable K n).before a0 Z = true) (hn : O ≠ K) : NS Z O K := by
  obtain ⟨c, k, h1, h2, h3, -, -⟩ := Cond.noSuperclass_spec w
  obtain ⟨t, kt, g1, -⟩ := Cond.instantiable_spec wk
  have ne := ids_ne h1 g1 hn
  refine ⟨c, t, h1, g1, fun fuel => ?_⟩
  cases fuel with
  | zero => rfl
  | succ f => simp [Vm.isSubclassAux, ne, h2, h3]
theorem own_nsno {Z : State} {a0 : Array Value} {C K : String} {n n' : Nat} (w : (Jvm.Cond.instantiable C n').before a0 Z = true) (wk : (Jvm.Cond.instantiable K n).before a0 Z = true) (q : NS Z C K) (hn : C ≠ K) : ∃ c t, Z.vm.findClass C = some c ∧ Z.vm.findClass K = some t ∧ Z.vm.assignable c t = false := by
  obtain ⟨c, t, h0, g0, n3⟩ := q
  obtain ⟨c', k, h1, h2, h3, h4, -⟩ := Cond.instantiable_spec w
  obtain ⟨t', k', g1, g2, g3, g4, -⟩ := Cond.instantiable_spec wk
  cases h0.symm.trans h1
  cases g0.symm.trans g1
  have ne := ids_ne h0 g0 hn
  simp only [Bool.or_eq_false_iff] at g4
  refine ⟨c, t, h0, g0, ?_⟩
  show Z.vm.assignableAux (255 + 1) c t = false
  simp [Vm.assignableAux, ne, h2, g2, h3, g3, g4.1, Vm.isSubclass, n3]
theorem own_cin {p : Int32} {cc : Cell} (hz : cc.slots.size = (256 : Int32).toNatClampNeg) (h1 : ¬ p < (-128 : Int32)) (h2 : ¬ (127 : Int32) < p) : ¬ (p + (128 : Int32) < 0 ∨ cc.slots.size ≤ (p + (128 : Int32)).toNatClampNeg) := by
  have e := c_iadd p 128
  have r := rng32 p
  have r' := rng32 (p + 128)
  have k1 : (128 : Int32).toInt = 128 := by decide
  have k2 : (-128 : Int32).toInt = -128 := by decide
  have k3 : (127 : Int32).toInt = 127 := by decide
  have k4 : (256 : Int32).toInt = 256 := by decide
  have k5 : (0 : Int32).toInt = 0 := by decide
  rw [Int32.lt_iff_toInt_lt] at h1 h2
  refine inb_of hz ⟨?_, ?_⟩
  · rw [Int32.lt_iff_toInt_lt]; omega
  · rw [Int32.lt_iff_toInt_lt]; omega
theorem own_sub128 (p : Int32) : p + (128 : Int32) - (128 : Int32) = p := by
  rw [← Int32.toInt_inj]
  have e := c_iadd p 128
  have e' := c_isub (p + 128) 128
  have r := rng32 p
  have r' := rng32 (p + 128 - 128)
  have k1 : (128 : Int32).toInt = 128 := by decide
  omega
theorem own_c8 {y : Int32} (h0 : 0 ≤ y.toInt) (h1 : y.toInt < 8) : y = 0 ∨ y = 1 ∨ y = 2 ∨ y = 3 ∨ y = 4 ∨ y = 5 ∨ y = 6 ∨ y = 7 := by
  have h : y.toInt = 0 ∨ y.toInt = 1 ∨ y.toInt = 2 ∨ y.toInt = 3 ∨ y.toInt = 4 ∨ y.toInt = 5 ∨ y.toInt = 6 ∨ y.toInt = 7 := by omega
  rcases h with h | h | h | h | h | h | h | h <;> simp [← Int32.toInt_inj, h]
theorem own_a8 (x : Int32) : x &&& (7 : Int32) = (0 : Int32) ∨ x &&& (7 : Int32) = (1 : Int32) ∨ x &&& (7 : Int32) = (2 : Int32) ∨ x &&& (7 : Int32) = (3 : Int32) ∨ x &&& (7 : Int32) = (4 : Int32) ∨ x &&& (7 : Int32) = (5 : Int32) ∨ x &&& (7 : Int32) = (6 : Int32) ∨ x &&& (7 : Int32) = (7 : Int32) := by
  have h := c_mask x 7 3 (by decide) (by decide)
  exact own_c8 (by omega) (by omega)
def own_ty (w0 : Addr) (w1 : Addr) (w2 : Addr) (w3 : Addr) (w4 : Addr) (w5 : Addr) (w6 : Addr) (w7 : Addr) (t : Int32) : Addr := if t = (0 : Int32) then w0 else if t = (1 : Int32) then w1 else if t = (2 : Int32) then w2 else if t = (3 : Int32) then w3 else if t = (4 : Int32) then w4 else if t = (5 : Int32) then w5 else if t = (6 : Int32) then w6 else w7
theorem own_ord {Z : State} {w0 : Addr} {w1 : Addr} {w2 : Addr} {w3 : Addr} {w4 : Addr} {w5 : Addr} {w6 : Addr} {w7 : Addr} (F0 : Fld Z Z.heap w0 "java/lang/Enum" "ordinal" "I" (.int (0 : Int32))) (F1 : Fld Z Z.heap w1 "java/lang/Enum" "ordinal" "I" (.int (1 : Int32))) (F2 : Fld Z Z.heap w2 "java/lang/Enum" "ordinal" "I" (.int (2 : Int32))) (F3 : Fld Z Z.heap w3 "java/lang/Enum" "ordinal" "I" (.int (3 : Int32))) (F4 : Fld Z Z.heap w4 "java/lang/Enum" "ordinal" "I" (.int (4 : Int32))) (F5 : Fld Z Z.heap w5 "java/lang/Enum" "ordinal" "I" (.int (5 : Int32))) (F6 : Fld Z Z.heap w6 "java/lang/Enum" "ordinal" "I" (.int (6 : Int32))) (F7 : Fld Z Z.heap w7 "java/lang/Enum" "ordinal" "I" (.int (7 : Int32))) {t : Int32} (ht : t = 0 ∨ t = 1 ∨ t = 2 ∨ t = 3 ∨ t = 4 ∨ t = 5 ∨ t = 6 ∨ t = 7) : Fld Z Z.heap (own_ty w0 w1 w2 w3 w4 w5 w6 w7 t) "java/lang/Enum" "ordinal" "I" (.int t) := by
  rcases ht with rfl | rfl | rfl | rfl | rfl | rfl | rfl | rfl
  · exact F0
  · exact F1
  · exact F2
  · exact F3
  · exact F4
  · exact F5
  · exact F6
  · exact F7
theorem own_inj {Z : State} {h : Heap} {u1 u2 : Addr} {C n d : String} {t1 t2 : Int32} (F1 : Fld Z h u1 C n d (.int t1)) (F2 : Fld Z h u2 C n d (.int t2)) (hs : t1 = t2 → u1 = u2) : u1 = u2 ↔ t1 = t2 := by
  refine ⟨fun e => ?_, hs⟩
  by_cases q : t1 = t2
  · exact q
  · exact absurd e (F1.ne F2 (fun z => q (Value.int.inj z)))
theorem own_hx {u1 u2 : Addr} {t1 t2 : Int32} (h : u1 = u2 ↔ t1 = t2) (x y : Int32) : (if t1 = t2 then x else y) = (if u1 = u2 then x else y) := by
  by_cases q : t1 = t2
  · rw [if_pos q, if_pos (h.mpr q)]
  · rw [if_neg q, if_neg (fun z => q (h.mp z))]
theorem own_lrev (g k : Int64) : (lcmpW g k = 0) ↔ (lcmpW k g = 0) := by rw [lw_eq, lw_eq]; exact eq_comm
theorem own_rev (u1 u2 : Addr) (a b : Int32) (g k : Int64) : (if u1 = u2 then (if a = b then (if lcmpW g k = 0 then (1 : Int32) else 0) else 0) else 0) = (if u2 = u1 then (if b = a then (if lcmpW k g = 0 then (1 : Int32) else 0) else 0) else 0) := by
  by_cases h1 : u1 = u2
  · by_cases h2 : a = b
    · by_cases h3 : lcmpW g k = 0
      · rw [if_pos h1, if_pos h2, if_pos h3, if_pos h1.symm, if_pos h2.symm, if_pos ((own_lrev g k).mp h3)]
      · rw [if_pos h1, if_pos h2, if_neg h3, if_pos h1.symm, if_pos h2.symm, if_neg (fun z => h3 ((own_lrev g k).mpr z))]
    · rw [if_pos h1, if_neg h2, if_pos h1.symm, if_neg (Ne.symm h2)]
  · rw [if_neg h1, if_neg (Ne.symm h1)]
theorem own_d_jdk_18_1_0 : decode jdk_18_method_1_code 0 = .ok (.aload_n 0, 1) := by decide +kernel
theorem own_d_jdk_18_1_1 : decode jdk_18_method_1_code 1 = .ok (.invokespecial 1, 3) := by decide +kernel
theorem own_d_jdk_18_1_4 : decode jdk_18_method_1_code 4 = .ok (.return_, 1) := by decide +kernel
theorem own_pn0 : plainName "java/lang/Number" = true := by first | (simp [plainName, overriddenIn]; done) | decide +kernel
theorem ef_rmNI (m : MethodId) (a1 : Addr) : entryFrame m #[(.ref a1)] 1 = mkF m 0 #[.val (.ref a1)] [] := by first | (simp [entryFrame, mkF, argsToLocals, Value.category]; done) | rfl
def Q_rmNI (Z : State) (a1 : Addr) (h0 : Heap) (n0 : Nat) (v : Option Value) (h : Heap) (L : List Loc) : Prop := v = none ∧ Fr n0 L ∧ h = h0
set_option maxRecDepth 65536 in
set_option maxHeartbeats 40000000 in
theorem rmNI (l : Launch) (Z : State) (a0 : Array Value) (hw : ∀ d ∈ tables_1, d.before a0 Z = true) (ws : List Jvm.Cond) (a1 : Addr) (h0 : Heap) (n0 : Nat) (Z0 : n0 ≤ h0.size)  :
    MetFree l (⟨"java/lang/Number", "<init>", "()V"⟩ : MethodName) (head1 (Jvm.Cond.code (⟨"java/lang/Number", "<init>", "()V"⟩ : MethodName) jdk_18_method_1_code 1 none :: ws) ({ frames := 1, cells := 0, slots := 0, locals := 12 } : Room)) (fun a U => a = #[(.ref a1)] ∧ Z.Warmed39 U.vm ∧ U.heap = h0) (fun _ _ _ _ _ => True) (fun _ U o U' => ∃ v L, o = .returned v ∧ Q_rmNI Z a1 h0 n0 (v) U'.heap (L) ∧ FrameEnd U o U' L 0 0) := by
  refine MetFree.of_bodySF (plainFor_of_name own_pn0) hisR ?_
  intro p e s m args below meth c s₁ Bd hml0 hP hK
  obtain ⟨rfl, hZ, hh⟩ := hP
  have hx := Bd.exec
  have hby := Bd.bytes
  have hml : c.maxLocals = 1 := hml0
  have hown : s.vm.findClass "java/lang/Number" = some m.cls := findClass_of_methodNamed Bd.named
  have hnm := (name_of_methodNamed Bd.named Bd.method).1
  have X0 : Stand p l e ({ frames := 1, cells := 0, slots := 0, locals := 12 } : Room) s m #[(.ref a1)] below meth c s₁ [] 0 0 := Stand.of_body Bd
  have e0 : s₁.heap = h0 := by rw [← hh, Bd.state]; rfl
  have N0 := Fr.nil n0
  have pre0 : ∀ tgt, Steps p.tables e below (s₁.setTop (mkF m 0 #[.val (.ref a1)] [])) tgt → Steps p.tables e below (s₁.setTop (entryFrame m #[(.ref a1)] 1)) tgt := fun tgt k => castTop (ef_rmNI m a1) k
  obtain ⟨T1, X1, eh1, st1⟩ := initO X0 hx hZ hown (hw _ (List.mem_of_getElem? (i := 57) rfl)) (hw _ (List.mem_of_getElem? (i := 14) rfl)) (hw _ (List.mem_of_getElem? (i := 15) rfl)) e0 (g := (mkF m 1 #[.val (.ref a1)] [(.ref a1)])) rfl (by rw [hml]; rfl) rfl (hb hby own_d_jdk_18_1_1) (by decide) (W := 0) (by show 2 * 0 + _ ≤ _; exact Nat.le_of_eq rfl) (by decide)
  obtain ⟨fs, hr, hrun, hended, hW, hsame⟩ := X1.leave (v := none) (fun _ => rfl)
  refine ⟨_, _, pre0 _ ?_, hrun, hended, _, _, rfl, ?_, ⟨_, rfl⟩, hW, hsame.mono (by decide) (by decide)⟩
  ·
    show Steps p.tables e below (s₁.setTop (mkF m 0 #[.val (.ref a1)] [])) _
    refine XS.aloadN X0.here hx rfl (hb hby own_d_jdk_18_1_0) rfl rfl ?_
    show Steps p.tables e below (s₁.setTop (mkF m 1 #[.val (.ref a1)] [(.ref a1)])) _
    refine st1 _ ?_
    show Steps p.tables e below (T1.setTop (mkF m 4 #[.val (.ref a1)] [])) _
    exact X1.returnOut hx Bd.returns (hb hby own_d_jdk_18_1_4) hr
  ·
    show Q_rmNI Z a1 h0 n0 (_) T1.heap (_)
    rw [eh1]
    exact ⟨rfl, N0, rfl⟩
theorem own_d_jdk_33_23_0 : decode jdk_33_method_23_code 0 = .ok (.aload_n 0, 1) := by decide +kernel
theorem own_d_jdk_33_23_1 : decode jdk_33_method_23_code 1 = .ok (.invokespecial 202, 3) := by decide +kernel
theorem own_pd0 : parseMethodDescriptor "()V" = some ⟨[], none⟩ := by decide +kernel
theorem own_d_jdk_33_23_4 : decode jdk_33_method_23_code 4 = .ok (.aload_n 0, 1) := by decide +kernel
theorem own_d_jdk_33_23_5 : decode jdk_33_method_23_code 5 = .ok (.iload_n 1, 1) := by decide +kernel
theorem own_d_jdk_33_23_6 : decode jdk_33_method_23_code 6 = .ok (.putfield 205, 3) := by decide +kernel
theorem own_d_jdk_33_23_9 : decode jdk_33_method_23_code 9 = .ok (.return_, 1) := by decide +kernel
theorem own_pn1 : plainName "java/lang/Integer" = true := by first | (simp [plainName, overriddenIn]; done) | decide +kernel
theorem ef_rmII (m : MethodId) (a1 : Addr) (p1 : Int32) : entryFrame m #[(.ref a1), (.int p1)] 2 = mkF m 0 #[.val (.ref a1), .val (.int p1)] [] := by first | (simp [entryFrame, mkF, argsToLocals, Value.category]; done) | rfl
def Q_rmII (Z : State) (a1 : Addr) (p1 : Int32) (h0 : Heap) (n0 : Nat) (v : Option Value) (h : Heap) (L : List Loc) : Prop := v = none ∧ Fr n0 L ∧ Keep h0 h [a1] ∧ Exa Z h a1 "java/lang/Integer" ∧ Fld Z h a1 "java/lang/Integer" "value" "I" (.int p1)
set_option maxRecDepth 65536 in
set_option maxHeartbeats 40000000 in
theorem rmII (l : Launch) (Z : State) (a0 : Array Value) (hw : ∀ d ∈ tables_1, d.before a0 Z = true) (ws : List Jvm.Cond) (a1 : Addr) (p1 : Int32) (h0 : Heap) (n0 : Nat) (Z0 : n0 ≤ h0.size) (E1 : Exa Z h0 a1 "java/lang/Integer") (F1 : Fld Z h0 a1 "java/lang/Integer" "value" "I" (.int (0 : Int32))) (g1 : n0 ≤ a1) :
    MetFree l (⟨"java/lang/Integer", "<init>", "(I)V"⟩ : MethodName) (head1 (Jvm.Cond.code (⟨"java/lang/Integer", "<init>", "(I)V"⟩ : MethodName) jdk_33_method_23_code 2 none :: ws) ({ frames := 2, cells := 0, slots := 0, locals := 24 } : Room)) (fun a U => a = #[(.ref a1), (.int p1)] ∧ Z.Warmed39 U.vm ∧ U.heap = h0) (fun _ _ _ _ _ => True) (fun _ U o U' => ∃ v L, o = .returned v ∧ Q_rmII Z a1 p1 h0 n0 (v) U'.heap (L) ∧ FrameEnd U o U' L 0 0) := by
  refine MetFree.of_bodySF (plainFor_of_name own_pn1) hisR ?_
  intro p e s m args below meth c s₁ Bd hml0 hP hK
  obtain ⟨rfl, hZ, hh⟩ := hP
  have hx := Bd.exec
  have hby := Bd.bytes
  have hml : c.maxLocals = 2 := hml0
  have hown : s.vm.findClass "java/lang/Integer" = some m.cls := findClass_of_methodNamed Bd.named
  have hnm := (name_of_methodNamed Bd.named Bd.method).1
  have X0 : Stand p l e ({ frames := 2, cells := 0, slots := 0, locals := 24 } : Room) s m #[(.ref a1), (.int p1)] below meth c s₁ [] 0 0 := Stand.of_body Bd
  have e0 : s₁.heap = h0 := by rw [← hh, Bd.state]; rfl
  have N0 := Fr.nil n0
  have pre0 : ∀ tgt, Steps p.tables e below (s₁.setTop (mkF m 0 #[.val (.ref a1), .val (.int p1)] [])) tgt → Steps p.tables e below (s₁.setTop (entryFrame m #[(.ref a1), (.int p1)] 2)) tgt := fun tgt k => castTop (ef_rmII m a1 p1) k
  obtain ⟨_, _, ⟨T1, L1, k1, n1⟩, -, X1, ⟨Lc1, hQ1, l1, y1, z1⟩, st1⟩ := X0.specialBack hx (y := (⟨"java/lang/Number", "<init>", "()V"⟩ : MethodName)) rfl hown (mvT hZ (hw _ (List.mem_of_getElem? (i := 51) rfl))) (mvT hZ (hw _ (List.mem_of_getElem? (i := 52) rfl))) (mvT hZ (hw _ (List.mem_of_getElem? (i := 56) rfl))) (by decide) (backOf (W := 0) (rmNI l Z a0 hw [] a1 h0 n0 Z0 ) hZ (hw _ (List.mem_of_getElem? (i := 56) rfl)) (hw _ (List.mem_of_getElem? (i := 55) rfl)) (by decide) (by decide)) (g := (mkF m 1 #[.val (.ref a1), .val (.int p1)] [(.ref a1)])) rfl (by rw [hml]; rfl) (Steps.refl _) (a := a1) (argsL := []) (rest := []) (lenOf own_pd0 rfl) rfl (by show 2 * 0 + _ ≤ _; exact Nat.le_of_eq rfl) (hb hby own_d_jdk_33_23_1) (fun _ _ => ⟨rfl, e0, (by decide : 0 + 0 ≤ _), (by decide : 0 + 0 ≤ _)⟩)
  dsimp only [Pt.U, Pt.locs, Pt.cells, Pt.slots] at X1 l1 y1 z1 st1 hQ1
  subst l1 y1 z1
  obtain ⟨rfl, N1q, eq1⟩ := hQ1
  have N1 := Fr.app N0 N1q
  obtain ⟨T2, h2, X2, eh2, W2, st2⟩ := putF X1 hx hZ hown (host := "") (Or.inl (hw _ (List.mem_of_getElem? (i := 58) rfl))) Via.refl eq1 F1 E1 (Or.inr ⟨(hw _ (List.mem_of_getElem? (i := 59) rfl)), rfl, hnm⟩) (hw _ (List.mem_of_getElem? (i := 46) rfl)) (ty := .int) (by decide) rfl rfl (g := (mkF m 6 #[.val (.ref a1), .val (.int p1)] [(.int p1), (.ref a1)])) rfl rfl (hb hby own_d_jdk_33_23_6)
  have Fw2 := F1.same W2
  have Zs3 : n0 ≤ h2.size := Nat.le_trans Z0 (Nat.le_of_eq W2.size.symm)
  have N3 := Fr.snoc X2 N1 g1
  have Kp3 : Keep h0 h2 [a1] := (Keep.refl h0 [a1]).wr W2 (Or.inl (List.mem_of_getElem? (i := 0) rfl))
  obtain ⟨fs, hr, hrun, hended, hW, hsame⟩ := X2.leave (v := none) (fun _ => rfl)
  refine ⟨_, _, pre0 _ ?_, hrun, hended, _, _, rfl, ?_, ⟨_, rfl⟩, hW, hsame.mono (by decide) (by decide)⟩
  ·
    show Steps p.tables e below (s₁.setTop (mkF m 0 #[.val (.ref a1), .val (.int p1)] [])) _
    refine XS.aloadN X0.here hx rfl (hb hby own_d_jdk_33_23_0) rfl rfl ?_
    show Steps p.tables e below (s₁.setTop (mkF m 1 #[.val (.ref a1), .val (.int p1)] [(.ref a1)])) _
    refine st1.trans ?_
    show Steps p.tables e below (T1.setTop (mkF m 4 #[.val (.ref a1), .val (.int p1)] [])) _
    refine XS.aloadN X1.here hx rfl (hb hby own_d_jdk_33_23_4) rfl rfl ?_
    show Steps p.tables e below (T1.setTop (mkF m 5 #[.val (.ref a1), .val (.int p1)] [(.ref a1)])) _
    refine XS.iloadN X1.here hx rfl (hb hby own_d_jdk_33_23_5) rfl ?_
    show Steps p.tables e below (T1.setTop (mkF m 6 #[.val (.ref a1), .val (.int p1)] [(.int p1), (.ref a1)])) _
    refine st2 _ ?_
    show Steps p.tables e below (T2.setTop (mkF m 9 #[.val (.ref a1), .val (.int p1)] [])) _
    exact X2.returnOut hx Bd.returns (hb hby own_d_jdk_33_23_9) hr
  ·
    show Q_rmII Z a1 p1 h0 n0 (_) T2.heap (_)
    rw [eh2]
    have c4 := (E1.wr W2)
    exact ⟨rfl, N3, Kp3, c4, Fw2⟩
theorem own_d_jdk_33_22_0 : decode jdk_33_method_22_code 0 = .ok (.iload_n 0, 1) := by decide +kernel
theorem own_d_jdk_33_22_1 : decode jdk_33_method_22_code 1 = .ok (.bipush (-128), 2) := by decide +kernel
theorem own_d_jdk_33_22_3 : decode jdk_33_method_22_code 3 = .ok (.if_icmp .lt 20, 3) := by decide +kernel
theorem own_d_jdk_33_22_23 : decode jdk_33_method_22_code 23 = .ok (.new 1, 3) := by decide +kernel
theorem own_d_jdk_33_22_26 : decode jdk_33_method_22_code 26 = .ok (.dup, 1) := by decide +kernel
theorem own_d_jdk_33_22_27 : decode jdk_33_method_22_code 27 = .ok (.iload_n 0, 1) := by decide +kernel
theorem own_d_jdk_33_22_28 : decode jdk_33_method_22_code 28 = .ok (.invokespecial 199, 3) := by decide +kernel
theorem own_pd1 : parseMethodDescriptor "(I)V" = some ⟨[.int], none⟩ := by decide +kernel
theorem own_d_jdk_33_22_31 : decode jdk_33_method_22_code 31 = .ok (.areturn, 1) := by decide +kernel
theorem own_d_jdk_33_22_6 : decode jdk_33_method_22_code 6 = .ok (.iload_n 0, 1) := by decide +kernel
theorem own_d_jdk_33_22_7 : decode jdk_33_method_22_code 7 = .ok (.getstatic 191, 3) := by decide +kernel
theorem own_d_jdk_33_22_10 : decode jdk_33_method_22_code 10 = .ok (.if_icmp .gt 13, 3) := by decide +kernel
theorem own_d_jdk_33_22_13 : decode jdk_33_method_22_code 13 = .ok (.getstatic 195, 3) := by decide +kernel
theorem own_d_jdk_33_22_16 : decode jdk_33_method_22_code 16 = .ok (.iload_n 0, 1) := by decide +kernel
theorem own_d_jdk_33_22_17 : decode jdk_33_method_22_code 17 = .ok (.sipush 128, 3) := by decide +kernel
theorem own_d_jdk_33_22_20 : decode jdk_33_method_22_code 20 = .ok (.iadd, 1) := by decide +kernel
theorem own_d_jdk_33_22_21 : decode jdk_33_method_22_code 21 = .ok (.aaload, 1) := by decide +kernel
theorem own_d_jdk_33_22_22 : decode jdk_33_method_22_code 22 = .ok (.areturn, 1) := by decide +kernel
theorem ef_rmVO (m : MethodId) (p1 : Int32) : entryFrame m #[(.int p1)] 1 = mkF m 0 #[.val (.int p1)] [] := by first | (simp [entryFrame, mkF, argsToLocals, Value.category]; done) | rfl
def Q_rmVO (Z : State) (p1 : Int32) (ca : Addr) (cc : Cell) (h0 : Heap) (n0 : Nat) (v : Option Value) (h : Heap) (L : List Loc) : Prop := ∃ b, v = some (.ref b) ∧ Fr n0 L ∧ Keep h0 h [] ∧ Exa Z h b "java/lang/Integer" ∧ Fld Z h b "java/lang/Integer" "value" "I" (.int p1)
set_option maxRecDepth 65536 in
set_option maxHeartbeats 40000000 in
theorem rmVO (l : Launch) (Z : State) (a0 : Array Value) (hw : ∀ d ∈ tables_1, d.before a0 Z = true) (ws : List Jvm.Cond) (p1 : Int32) (ca : Addr) (cc : Cell) (h0 : Heap) (n0 : Nat) (Z0 : n0 ≤ h0.size) (SH : Sta Z h0 "java/lang/Integer$IntegerCache" "high" "I" (.int (127 : Int32))) (SC : Sta Z h0 "java/lang/Integer$IntegerCache" "cache" "[Ljava/lang/Integer;" (.ref ca)) (BX : Bxs Z ca cc "java/lang/Integer" "I" 256 (fun j => .int (j - 128))) (O0 : Old Z n0 h0) :
    MetFree l (⟨"java/lang/Integer", "valueOf", "(I)Ljava/lang/Integer;"⟩ : MethodName) (head1 (Jvm.Cond.code (⟨"java/lang/Integer", "valueOf", "(I)Ljava/lang/Integer;"⟩ : MethodName) jdk_33_method_22_code 1 (some (.object "java/lang/Integer")) :: ws) ({ frames := 3, cells := 1, slots := 1, locals := 38 } : Room)) (fun a U => a = #[(.int p1)] ∧ Z.Warmed39 U.vm ∧ U.heap = h0) (fun _ _ _ _ _ => True) (fun _ U o U' => ∃ v L, o = .returned v ∧ Q_rmVO Z p1 ca cc h0 n0 (v) U'.heap (L) ∧ FrameEnd U o U' L 1 1) := by
  refine MetFree.of_bodySF (plainFor_of_name own_pn1) hisR ?_
  intro p e s m args below meth c s₁ Bd hml0 hP hK
  obtain ⟨rfl, hZ, hh⟩ := hP
  have hx := Bd.exec
  have hby := Bd.bytes
  have hml : c.maxLocals = 1 := hml0
  have hown : s.vm.findClass "java/lang/Integer" = some m.cls := findClass_of_methodNamed Bd.named
  have hnm := (name_of_methodNamed Bd.named Bd.method).1
  have X0 : Stand p l e ({ frames := 3, cells := 1, slots := 1, locals := 38 } : Room) s m #[(.int p1)] below meth c s₁ [] 0 0 := Stand.of_body Bd
  have e0 : s₁.heap = h0 := by rw [← hh, Bd.state]; rfl
  have N0 := Fr.nil n0
  have pre0 : ∀ tgt, Steps p.tables e below (s₁.setTop (mkF m 0 #[.val (.int p1)] [])) tgt → Steps p.tables e below (s₁.setTop (entryFrame m #[(.int p1)] 1)) tgt := fun tgt k => castTop (ef_rmVO m p1) k
  have pre1 : ∀ tgt, Steps p.tables e below (s₁.setTop (mkF m 3 #[.val (.int p1)] [(.int (-128 : Int32)), (.int p1)])) tgt → Steps p.tables e below (s₁.setTop (entryFrame m #[(.int p1)] 1)) tgt := fun tgt kt_ => by
    refine pre0 _ ?_
    show Steps p.tables e below (s₁.setTop (mkF m 0 #[.val (.int p1)] [])) _
    refine XS.iloadN X0.here hx rfl (hb hby own_d_jdk_33_22_0) rfl ?_
    show Steps p.tables e below (s₁.setTop (mkF m 1 #[.val (.int p1)] [(.int p1)])) _
    refine XS.bipush X0.here hx rfl (hb hby own_d_jdk_33_22_1) ?_
    show Steps p.tables e below (s₁.setTop (mkF m 3 #[.val (.int p1)] [(.int (-128 : Int32)), (.int p1)])) _
    exact kt_
  rcases Decidable.em (p1 < (-128 : Int32)) with hc3_2 | hc3_2
  ·
    obtain ⟨T3, h3, X3, eh3, Ee3, A3, D3, U3, st3⟩ := newO X0 hx hZ hown (hw _ (List.mem_of_getElem? (i := 45) rfl)) (hw _ (List.mem_of_getElem? (i := 46) rfl)) (hw _ (List.mem_of_getElem? (i := 41) rfl)) e0 (g := (mkF m 23 #[.val (.int p1)] [])) rfl (hb hby own_d_jdk_33_22_23) (by decide) (by decide)
    obtain ⟨b3, g3⟩ : ∃ z, z = h0.size := ⟨_, rfl⟩
    rw [← g3] at A3 D3 st3
    have gf_b3 : n0 ≤ b3 := Nat.le_trans Z0 (Nat.le_of_eq g3.symm)
    have sz_b3 : h0.size ≤ b3 := Nat.le_trans (Keep.refl h0 []).1 (Nat.le_of_eq g3.symm)
    have Zs4 : n0 ≤ h3.size := Nat.le_trans Z0 Ee3.1
    have O4 := O0.ext Ee3
    have Kp4 : Keep h0 h3 [] := (Keep.refl h0 []).ext Ee3
    have F_value_b3 : Fld Z h3 b3 "java/lang/Integer" "value" "I" (.int (0 : Int32)) := D3 (Or.inr (hw _ (List.mem_of_getElem? (i := 59) rfl))) (ty := .int) (by decide)
    obtain ⟨_, _, ⟨T5, L5, k5, n5⟩, -, X5, ⟨Lc5, hQ5, l5, y5, z5⟩, st5⟩ := X3.specialBack hx (y := (⟨"java/lang/Integer", "<init>", "(I)V"⟩ : MethodName)) rfl hown (mvT hZ (hw _ (List.mem_of_getElem? (i := 47) rfl))) (mvT hZ (hw _ (List.mem_of_getElem? (i := 48) rfl))) (mvT hZ (hw _ (List.mem_of_getElem? (i := 50) rfl))) (by decide) (backOf (W := 1) (rmII l Z a0 hw [] b3 p1 h3 n0 Zs4 A3 F_value_b3 gf_b3) hZ (hw _ (List.mem_of_getElem? (i := 50) rfl)) (hw _ (List.mem_of_getElem? (i := 41) rfl)) (by decide) (by decide)) (g := (mkF m 28 #[.val (.int p1)] [(.int p1), (.ref b3), (.ref b3)])) rfl (by rw [hml]; rfl) (Steps.refl _) (a := b3) (argsL := [(.int p1)]) (rest := [(.ref b3)]) (lenOf own_pd1 rfl) rfl (by show 2 * 0 + _ ≤ _; exact Nat.le_of_eq rfl) (hb hby own_d_jdk_33_22_28) (fun _ _ => ⟨rfl, eh3, (by decide : 1 + 0 ≤ _), (by decide : 1 + 0 ≤ _)⟩)
    dsimp only [Pt.U, Pt.locs, Pt.cells, Pt.slots] at X5 l5 y5 z5 st5 hQ5
    subst l5 y5 z5
    obtain ⟨rfl, N5q, K5, A5, F5⟩ := hQ5
    have N5 := Fr.app N0 N5q
    have Zs6 : n0 ≤ T5.heap.size := Nat.le_trans Zs4 K5.1
    have O6 := O4.keep K5 (allS gf_b3 all0)
    have Kp6 : Keep h0 T5.heap [] := Kp4.trans K5 (allS (Or.inr sz_b3) all0)
    obtain ⟨fs, hr, hrun, hended, hW, hsame⟩ := X5.leave (v := some (.ref b3)) (fun h => by rw [Bd.returns] at h; cases h)
    refine ⟨_, _, pre1 _ ?_, hrun, hended, _, _, rfl, ?_, ⟨_, rfl⟩, hW, hsame.mono (by decide) (by decide)⟩
    ·
      show Steps p.tables e below (s₁.setTop (mkF m 3 #[.val (.int p1)] [(.int (-128 : Int32)), (.int p1)])) _
      refine XS.icmpYes X0.here hx rfl (pc0 := 3) (pc' := 23) rfl (hb hby own_d_jdk_33_22_3) rfl (tlt hc3_2).1 (by decide) (by decide) ?_
      show Steps p.tables e below (s₁.setTop (mkF m 23 #[.val (.int p1)] [])) _
      refine st3 _ ?_
      show Steps p.tables e below (T3.setTop (mkF m 26 #[.val (.int p1)] [(.ref b3)])) _
      refine XS.dup X3.here hx rfl (hb hby own_d_jdk_33_22_26) rfl rfl ?_
      show Steps p.tables e below (T3.setTop (mkF m 27 #[.val (.int p1)] [(.ref b3), (.ref b3)])) _
      refine XS.iloadN X3.here hx rfl (hb hby own_d_jdk_33_22_27) rfl ?_
      show Steps p.tables e below (T3.setTop (mkF m 28 #[.val (.int p1)] [(.int p1), (.ref b3), (.ref b3)])) _
      refine st5.trans ?_
      show Steps p.tables e below (T5.setTop (mkF m 31 #[.val (.int p1)] [(.ref b3)])) _
      jvm_step X5.here [X5.here.top, hx, (hb hby own_d_jdk_33_22_31), X5.method', Bd.returns, Value.isRef, FieldType.isReference]
      first | (intro acts; rw [hr _ acts rfl rfl rfl]) | rw [hr _ _ rfl rfl rfl]
      exact Steps.refl _
    ·
      show Q_rmVO Z p1 ca cc h0 n0 (_) T5.heap (_)
      exact ⟨b3, rfl, N5, Kp6, A5, F5⟩
  ·
    obtain ⟨T7, X7, eh7, st7⟩ := getS2 X0 hx hZ hown (host := "") (Or.inl (hw _ (List.mem_of_getElem? (i := 43) rfl))) Via.refl e0 SH (g := (mkF m 7 #[.val (.int p1)] [(.int p1)])) rfl (hb hby own_d_jdk_33_22_7)
    have pre8 : ∀ tgt, Steps p.tables e below (T7.setTop (mkF m 10 #[.val (.int p1)] [(.int (127 : Int32)), (.int p1)])) tgt → Steps p.tables e below (s₁.setTop (entryFrame m #[(.int p1)] 1)) tgt := fun tgt kt_ => by
      refine pre1 _ ?_
      show Steps p.tables e below (s₁.setTop (mkF m 3 #[.val (.int p1)] [(.int (-128 : Int32)), (.int p1)])) _
      refine XS.icmpNo X0.here hx rfl (hb hby own_d_jdk_33_22_3) rfl (flt hc3_2).1 ?_
      show Steps p.tables e below (s₁.setTop (mkF m 6 #[.val (.int p1)] [])) _
      refine XS.iloadN X0.here hx rfl (hb hby own_d_jdk_33_22_6) rfl ?_
      show Steps p.tables e below (s₁.setTop (mkF m 7 #[.val (.int p1)] [(.int p1)])) _
      refine st7 _ ?_
      show Steps p.tables e below (T7.setTop (mkF m 10 #[.val (.int p1)] [(.int (127 : Int32)), (.int p1)])) _
      exact kt_
    rcases Decidable.em ((127 : Int32) < p1) with hc10_9 | hc10_9
    ·
      obtain ⟨T10, h10, X10, eh10, Ee10, A10, D10, U10, st10⟩ := newO X7 hx hZ hown (hw _ (List.mem_of_getElem? (i := 45) rfl)) (hw _ (List.mem_of_getElem? (i := 46) rfl)) (hw _ (List.mem_of_getElem? (i := 41) rfl)) eh7 (g := (mkF m 23 #[.val (.int p1)] [])) rfl (hb hby own_d_jdk_33_22_23) (by decide) (by decide)
      obtain ⟨b10, g10⟩ : ∃ z, z = h0.size := ⟨_, rfl⟩
      rw [← g10] at A10 D10 st10
      have gf_b10 : n0 ≤ b10 := Nat.le_trans Z0 (Nat.le_of_eq g10.symm)
      have sz_b10 : h0.size ≤ b10 := Nat.le_trans (Keep.refl h0 []).1 (Nat.le_of_eq g10.symm)
      have Zs11 : n0 ≤ h10.size := Nat.le_trans Z0 Ee10.1
      have O11 := O0.ext Ee10
      have Kp11 : Keep h0 h10 [] := (Keep.refl h0 []).ext Ee10
      have F_value_b10 : Fld Z h10 b10 "java/lang/Integer" "value" "I" (.int (0 : Int32)) := D10 (Or.inr (hw _ (List.mem_of_getElem? (i := 59) rfl))) (ty := .int) (by decide)
      obtain ⟨_, _, ⟨T12, L12, k12, n12⟩, -, X12, ⟨Lc12, hQ12, l12, y12, z12⟩, st12⟩ := X10.specialBack hx (y := (⟨"java/lang/Integer", "<init>", "(I)V"⟩ : MethodName)) rfl hown (mvT hZ (hw _ (List.mem_of_getElem? (i := 47) rfl))) (mvT hZ (hw _ (List.mem_of_getElem? (i := 48) rfl))) (mvT hZ (hw _ (List.mem_of_getElem? (i := 50) rfl))) (by decide) (backOf (W := 1) (rmII l Z a0 hw [] b10 p1 h10 n0 Zs11 A10 F_value_b10 gf_b10) hZ (hw _ (List.mem_of_getElem? (i := 50) rfl)) (hw _ (List.mem_of_getElem? (i := 41) rfl)) (by decide) (by decide)) (g := (mkF m 28 #[.val (.int p1)] [(.int p1), (.ref b10), (.ref b10)])) rfl (by rw [hml]; rfl) (Steps.refl _) (a := b10) (argsL := [(.int p1)]) (rest := [(.ref b10)]) (lenOf own_pd1 rfl) rfl (by show 2 * 0 + _ ≤ _; exact Nat.le_of_eq rfl) (hb hby own_d_jdk_33_22_28) (fun _ _ => ⟨rfl, eh10, (by decide : 1 + 0 ≤ _), (by decide : 1 + 0 ≤ _)⟩)
      dsimp only [Pt.U, Pt.locs, Pt.cells, Pt.slots] at X12 l12 y12 z12 st12 hQ12
      subst l12 y12 z12
      obtain ⟨rfl, N12q, K12, A12, F12⟩ := hQ12
      have N12 := Fr.app N0 N12q
      have Zs13 : n0 ≤ T12.heap.size := Nat.le_trans Zs11 K12.1
      have O13 := O11.keep K12 (allS gf_b10 all0)
      have Kp13 : Keep h0 T12.heap [] := Kp11.trans K12 (allS (Or.inr sz_b10) all0)
      obtain ⟨fs, hr, hrun, hended, hW, hsame⟩ := X12.leave (v := some (.ref b10)) (fun h => by rw [Bd.returns] at h; cases h)
      refine ⟨_, _, pre8 _ ?_, hrun, hended, _, _, rfl, ?_, ⟨_, rfl⟩, hW, hsame.mono (by decide) (by decide)⟩
      ·
        show Steps p.tables e below (T7.setTop (mkF m 10 #[.val (.int p1)] [(.int (127 : Int32)), (.int p1)])) _
        refine XS.icmpYes X7.here hx rfl (pc0 := 10) (pc' := 23) rfl (hb hby own_d_jdk_33_22_10) rfl (tlt hc10_9).2.2.1 (by decide) (by decide) ?_
        show Steps p.tables e below (T7.setTop (mkF m 23 #[.val (.int p1)] [])) _
        refine st10 _ ?_
        show Steps p.tables e below (T10.setTop (mkF m 26 #[.val (.int p1)] [(.ref b10)])) _
        refine XS.dup X10.here hx rfl (hb hby own_d_jdk_33_22_26) rfl rfl ?_
        show Steps p.tables e below (T10.setTop (mkF m 27 #[.val (.int p1)] [(.ref b10), (.ref b10)])) _
        refine XS.iloadN X10.here hx rfl (hb hby own_d_jdk_33_22_27) rfl ?_
        show Steps p.tables e below (T10.setTop (mkF m 28 #[.val (.int p1)] [(.int p1), (.ref b10), (.ref b10)])) _
        refine st12.trans ?_
        show Steps p.tables e below (T12.setTop (mkF m 31 #[.val (.int p1)] [(.ref b10)])) _
        jvm_step X12.here [X12.here.top, hx, (hb hby own_d_jdk_33_22_31), X12.method', Bd.returns, Value.isRef, FieldType.isReference]
        first | (intro acts; rw [hr _ acts rfl rfl rfl]) | rw [hr _ _ rfl rfl rfl]
        exact Steps.refl _
      ·
        show Q_rmVO Z p1 ca cc h0 n0 (_) T12.heap (_)
        exact ⟨b10, rfl, N12, Kp13, A12, F12⟩
    ·
      obtain ⟨T14, X14, eh14, st14⟩ := getS2 X7 hx hZ hown (host := "") (Or.inl (hw _ (List.mem_of_getElem? (i := 65) rfl))) Via.refl eh7 SC (g := (mkF m 13 #[.val (.int p1)] [])) rfl (hb hby own_d_jdk_33_22_13)
      have hin := own_cin BX.2.1 hc3_2 hc10_9
      obtain ⟨bb, hat, EB, FB⟩ := BX.2.2.2 _ hin
      simp only [own_sub128] at FB
      have Ac := BX.1.ext O0.2
      have EB' := EB.ext O0.2
      have FB' := FB.ext O0.2
      obtain ⟨fs, hr, hrun, hended, hW, hsame⟩ := X14.leave (v := some (.ref bb)) (fun h => by rw [Bd.returns] at h; cases h)
      refine ⟨_, _, pre8 _ ?_, hrun, hended, _, _, rfl, ?_, ⟨_, rfl⟩, hW, hsame.mono (by decide) (by decide)⟩
      ·
        show Steps p.tables e below (T7.setTop (mkF m 10 #[.val (.int p1)] [(.int (127 : Int32)), (.int p1)])) _
        refine XS.icmpNo X7.here hx rfl (hb hby own_d_jdk_33_22_10) rfl (flt hc10_9).2.2.1 ?_
        show Steps p.tables e below (T7.setTop (mkF m 13 #[.val (.int p1)] [])) _
        refine st14 _ ?_
        show Steps p.tables e below (T14.setTop (mkF m 16 #[.val (.int p1)] [(.ref ca)])) _
        refine XS.iloadN X14.here hx rfl (hb hby own_d_jdk_33_22_16) rfl ?_
        show Steps p.tables e below (T14.setTop (mkF m 17 #[.val (.int p1)] [(.int p1), (.ref ca)])) _
        refine XS.sipush X14.here hx rfl (hb hby own_d_jdk_33_22_17) ?_
        show Steps p.tables e below (T14.setTop (mkF m 20 #[.val (.int p1)] [(.int (128 : Int32)), (.int p1), (.ref ca)])) _
        refine XS.iadd X14.here hx rfl (hb hby own_d_jdk_33_22_20) rfl ?_
        show Steps p.tables e below (T14.setTop (mkF m 21 #[.val (.int p1)] [(.int (p1 + (128 : Int32))), (.ref ca)])) _
        refine X14.aaload hx (j := (p1 + (128 : Int32))) (v := (.ref bb)) (by rw [eh14]; exact Ac.1) (State.isArrayOf_alike hZ.alike Ac.2.1) rfl Ac.2.2 hin hat (g := (mkF m 21 #[.val (.int p1)] [(.int (p1 + (128 : Int32))), (.ref ca)])) rfl rfl (hb hby own_d_jdk_33_22_21) _ ?_
        show Steps p.tables e below (T14.setTop (mkF m 22 #[.val (.int p1)] [(.ref bb)])) _
        jvm_step X14.here [X14.here.top, hx, (hb hby own_d_jdk_33_22_22), X14.method', Bd.returns, Value.isRef, FieldType.isReference]
        first | (intro acts; rw [hr _ acts rfl rfl rfl]) | rw [hr _ _ rfl rfl rfl]
        exact Steps.refl _
      ·
        show Q_rmVO Z p1 ca cc h0 n0 (_) T14.heap (_)
        rw [eh14]
        exact ⟨bb, rfl, N0, (Keep.refl h0 []), EB', FB'⟩
theorem own_d_method_2_0 : decode method_2_code 0 = .ok (.iload_n 0, 1) := by decide +kernel
theorem own_d_method_2_1 : decode method_2_code 1 = .ok (.ifCond .ne 7, 3) := by decide +kernel
theorem own_d_method_2_4 : decode method_2_code 4 = .ok (.getstatic 7, 3) := by decide +kernel
theorem own_d_method_2_7 : decode method_2_code 7 = .ok (.areturn, 1) := by decide +kernel
theorem own_d_method_2_8 : decode method_2_code 8 = .ok (.iload_n 0, 1) := by decide +kernel
theorem own_d_method_2_9 : decode method_2_code 9 = .ok (.iconst 1, 1) := by decide +kernel
theorem own_d_method_2_10 : decode method_2_code 10 = .ok (.if_icmp .ne 7, 3) := by decide +kernel
theorem own_d_method_2_13 : decode method_2_code 13 = .ok (.getstatic 13, 3) := by decide +kernel
theorem own_d_method_2_16 : decode method_2_code 16 = .ok (.areturn, 1) := by decide +kernel
theorem own_d_method_2_17 : decode method_2_code 17 = .ok (.iload_n 0, 1) := by decide +kernel
theorem own_d_method_2_18 : decode method_2_code 18 = .ok (.iconst 2, 1) := by decide +kernel
theorem own_d_method_2_19 : decode method_2_code 19 = .ok (.if_icmp .ne 7, 3) := by decide +kernel
theorem own_d_method_2_22 : decode method_2_code 22 = .ok (.getstatic 16, 3) := by decide +kernel
theorem own_d_method_2_25 : decode method_2_code 25 = .ok (.areturn, 1) := by decide +kernel
theorem own_d_method_2_26 : decode method_2_code 26 = .ok (.iload_n 0, 1) := by decide +kernel
theorem own_d_method_2_27 : decode method_2_code 27 = .ok (.iconst 3, 1) := by decide +kernel
theorem own_d_method_2_28 : decode method_2_code 28 = .ok (.if_icmp .ne 7, 3) := by decide +kernel
theorem own_d_method_2_31 : decode method_2_code 31 = .ok (.getstatic 19, 3) := by decide +kernel
theorem own_d_method_2_34 : decode method_2_code 34 = .ok (.areturn, 1) := by decide +kernel
theorem own_d_method_2_35 : decode method_2_code 35 = .ok (.iload_n 0, 1) := by decide +kernel
theorem own_d_method_2_36 : decode method_2_code 36 = .ok (.iconst 4, 1) := by decide +kernel
theorem own_d_method_2_37 : decode method_2_code 37 = .ok (.if_icmp .ne 7, 3) := by decide +kernel
theorem own_d_method_2_40 : decode method_2_code 40 = .ok (.getstatic 22, 3) := by decide +kernel
theorem own_d_method_2_43 : decode method_2_code 43 = .ok (.areturn, 1) := by decide +kernel
theorem own_d_method_2_44 : decode method_2_code 44 = .ok (.iload_n 0, 1) := by decide +kernel
theorem own_d_method_2_45 : decode method_2_code 45 = .ok (.iconst 5, 1) := by decide +kernel
theorem own_d_method_2_46 : decode method_2_code 46 = .ok (.if_icmp .ne 7, 3) := by decide +kernel
theorem own_d_method_2_49 : decode method_2_code 49 = .ok (.getstatic 25, 3) := by decide +kernel
theorem own_d_method_2_52 : decode method_2_code 52 = .ok (.areturn, 1) := by decide +kernel
theorem own_d_method_2_53 : decode method_2_code 53 = .ok (.iload_n 0, 1) := by decide +kernel
theorem own_d_method_2_54 : decode method_2_code 54 = .ok (.bipush 6, 2) := by decide +kernel
theorem own_d_method_2_56 : decode method_2_code 56 = .ok (.if_icmp .ne 7, 3) := by decide +kernel
theorem own_d_method_2_59 : decode method_2_code 59 = .ok (.getstatic 28, 3) := by decide +kernel
theorem own_d_method_2_62 : decode method_2_code 62 = .ok (.areturn, 1) := by decide +kernel
theorem own_d_method_2_63 : decode method_2_code 63 = .ok (.getstatic 31, 3) := by decide +kernel
theorem own_d_method_2_66 : decode method_2_code 66 = .ok (.areturn, 1) := by decide +kernel
theorem own_pn2 : plainName "com/example/chronotag/chronotag/codec/HeadEqualsPinLaw" = true := by first | (simp [plainName, overriddenIn]; done) | decide +kernel
theorem ef_rmT (m : MethodId) (tt : Int32) : entryFrame m #[(.int tt)] 1 = mkF m 0 #[.val (.int tt)] [] := by first | (simp [entryFrame, mkF, argsToLocals, Value.category]; done) | rfl
def Q_rmT (Z : State) (tt : Int32) (w0 : Addr) (w1 : Addr) (w2 : Addr) (w3 : Addr) (w4 : Addr) (w5 : Addr) (w6 : Addr) (w7 : Addr) (h0 : Heap) (n0 : Nat) (v : Option Value) (h : Heap) (L : List Loc) : Prop := v = some (.ref (own_ty w0 w1 w2 w3 w4 w5 w6 w7 tt)) ∧ Fr n0 L ∧ h = h0
set_option maxRecDepth 65536 in
set_option maxHeartbeats 40000000 in
theorem rmT (l : Launch) (Z : State) (a0 : Array Value) (hw : ∀ d ∈ tables_1, d.before a0 Z = true) (ws : List Jvm.Cond) (tt : Int32) (w0 : Addr) (w1 : Addr) (w2 : Addr) (w3 : Addr) (w4 : Addr) (w5 : Addr) (w6 : Addr) (w7 : Addr) (h0 : Heap) (n0 : Nat) (Z0 : n0 ≤ h0.size) (S0 : Sta Z h0 "com/example/chronotag/chronotag/codec/MajorType" "UNSIGNED_INTEGER" "Lcom/example/chronotag/chronotag/codec/MajorType;" (.ref w0)) (S1 : Sta Z h0 "com/example/chronotag/chronotag/codec/MajorType" "NEGATIVE_INTEGER" "Lcom/example/chronotag/chronotag/codec/MajorType;" (.ref w1)) (S2 : Sta Z h0 "com/example/chronotag/chronotag/codec/MajorType" "BYTE_STRING" "Lcom/example/chronotag/chronotag/codec/MajorType;" (.ref w2)) (S3 : Sta Z h0 "com/example/chronotag/chronotag/codec/MajorType" "TEXT_STRING" "Lcom/example/chronotag/chronotag/codec/MajorType;" (.ref w3)) (S4 : Sta Z h0 "com/example/chronotag/chronotag/codec/MajorType" "ARRAY" "Lcom/example/chronotag/chronotag/codec/MajorType;" (.ref w4)) (S5 : Sta Z h0 "com/example/chronotag/chronotag/codec/MajorType" "MAP" "Lcom/example/chronotag/chronotag/codec/MajorType;" (.ref w5)) (S6 : Sta Z h0 "com/example/chronotag/chronotag/codec/MajorType" "TAG" "Lcom/example/chronotag/chronotag/codec/MajorType;" (.ref w6)) (S7 : Sta Z h0 "com/example/chronotag/chronotag/codec/MajorType" "SIMPLE_OR_FLOAT" "Lcom/example/chronotag/chronotag/codec/MajorType;" (.ref w7)) :
    MetFree l (⟨"com/example/chronotag/chronotag/codec/HeadEqualsPinLaw", "type", "(I)Lcom/example/chronotag/chronotag/codec/MajorType;"⟩ : MethodName) (head1 (Jvm.Cond.code (⟨"com/example/chronotag/chronotag/codec/HeadEqualsPinLaw", "type", "(I)Lcom/example/chronotag/chronotag/codec/MajorType;"⟩ : MethodName) method_2_code 1 (some (.object "com/example/chronotag/chronotag/codec/MajorType")) :: ws) ({ frames := 0, cells := 0, slots := 0, locals := 0 } : Room)) (fun a U => a = #[(.int tt)] ∧ Z.Warmed39 U.vm ∧ U.heap = h0) (fun _ _ _ _ _ => True) (fun _ U o U' => ∃ v L, o = .returned v ∧ Q_rmT Z tt w0 w1 w2 w3 w4 w5 w6 w7 h0 n0 (v) U'.heap (L) ∧ FrameEnd U o U' L 0 0) := by
  refine MetFree.of_bodySF (plainFor_of_name own_pn2) hisR ?_
  intro p e s m args below meth c s₁ Bd hml0 hP hK
  obtain ⟨rfl, hZ, hh⟩ := hP
  have hx := Bd.exec
  have hby := Bd.bytes
  have hml : c.maxLocals = 1 := hml0
  have hown : s.vm.findClass "com/example/chronotag/chronotag/codec/HeadEqualsPinLaw" = some m.cls := findClass_of_methodNamed Bd.named
  have hnm := (name_of_methodNamed Bd.named Bd.method).1
  have X0 : Stand p l e ({ frames := 0, cells := 0, slots := 0, locals := 0 } : Room) s m #[(.int tt)] below meth c s₁ [] 0 0 := Stand.of_body Bd
  have e0 : s₁.heap = h0 := by rw [← hh, Bd.state]; rfl
  have N0 := Fr.nil n0
  have pre0 : ∀ tgt, Steps p.tables e below (s₁.setTop (mkF m 0 #[.val (.int tt)] [])) tgt → Steps p.tables e below (s₁.setTop (entryFrame m #[(.int tt)] 1)) tgt := fun tgt k => castTop (ef_rmT m tt) k
  have pre1 : ∀ tgt, Steps p.tables e below (s₁.setTop (mkF m 1 #[.val (.int tt)] [(.int tt)])) tgt → Steps p.tables e below (s₁.setTop (entryFrame m #[(.int tt)] 1)) tgt := fun tgt kt_ => by
    refine pre0 _ ?_
    show Steps p.tables e below (s₁.setTop (mkF m 0 #[.val (.int tt)] [])) _
    refine XS.iloadN X0.here hx rfl (hb hby own_d_method_2_0) rfl ?_
    show Steps p.tables e below (s₁.setTop (mkF m 1 #[.val (.int tt)] [(.int tt)])) _
    exact kt_
  rcases Decidable.em (tt = (0 : Int32)) with hc1_2 | hc1_2
  ·
    obtain ⟨T3, X3, eh3, st3⟩ := getS2 X0 hx hZ hown (host := "") (Or.inl (hw _ (List.mem_of_getElem? (i := 7) rfl))) Via.refl e0 S0 (g := (mkF m 4 #[.val (.int tt)] [])) rfl (hb hby own_d_method_2_4)
    obtain ⟨fs, hr, hrun, hended, hW, hsame⟩ := X3.leave (v := some (.ref w0)) (fun h => by rw [Bd.returns] at h; cases h)
    refine ⟨_, _, pre1 _ ?_, hrun, hended, _, _, rfl, ?_, ⟨_, rfl⟩, hW, hsame.mono (by decide) (by decide)⟩
    ·
      show Steps p.tables e below (s₁.setTop (mkF m 1 #[.val (.int tt)] [(.int tt)])) _
      refine XS.ifNo X0.here hx rfl (hb hby own_d_method_2_1) rfl ((if0 _ _).trans (teq hc1_2).2) ?_
      show Steps p.tables e below (s₁.setTop (mkF m 4 #[.val (.int tt)] [])) _
      refine st3 _ ?_
      show Steps p.tables e below (T3.setTop (mkF m 7 #[.val (.int tt)] [(.ref w0)])) _
      jvm_step X3.here [X3.here.top, hx, (hb hby own_d_method_2_7), X3.method', Bd.returns, Value.isRef, FieldType.isReference]
      first | (intro acts; rw [hr _ acts rfl rfl rfl]) | rw [hr _ _ rfl rfl rfl]
      exact Steps.refl _
    ·
      show Q_rmT Z tt w0 w1 w2 w3 w4 w5 w6 w7 h0 n0 (_) T3.heap (_)
      rw [eh3]
      exact ⟨by rw [own_ty, if_pos hc1_2], N0, rfl⟩
  ·
    have pre4 : ∀ tgt, Steps p.tables e below (s₁.setTop (mkF m 10 #[.val (.int tt)] [(.int (1 : Int32)), (.int tt)])) tgt → Steps p.tables e below (s₁.setTop (entryFrame m #[(.int tt)] 1)) tgt := fun tgt kt_ => by
      refine pre1 _ ?_
      show Steps p.tables e below (s₁.setTop (mkF m 1 #[.val (.int tt)] [(.int tt)])) _
      refine XS.ifYes X0.here hx rfl (pc0 := 1) (pc' := 8) rfl (hb hby own_d_method_2_1) rfl ((if0 _ _).trans (feq hc1_2).2) (by decide) (by decide) ?_
      show Steps p.tables e below (s₁.setTop (mkF m 8 #[.val (.int tt)] [])) _
      refine XS.iloadN X0.here hx rfl (hb hby own_d_method_2_8) rfl ?_
      show Steps p.tables e below (s₁.setTop (mkF m 9 #[.val (.int tt)] [(.int tt)])) _
      refine XS.iconst X0.here hx rfl (hb hby own_d_method_2_9) ?_
      show Steps p.tables e below (s₁.setTop (mkF m 10 #[.val (.int tt)] [(.int (1 : Int32)), (.int tt)])) _
      exact kt_
    rcases Decidable.em (tt = (1 : Int32)) with hc10_5 | hc10_5
    ·
      obtain ⟨T6, X6, eh6, st6⟩ := getS2 X0 hx hZ hown (host := "") (Or.inl (hw _ (List.mem_of_getElem? (i := 35) rfl))) Via.refl e0 S1 (g := (mkF m 13 #[.val (.int tt)] [])) rfl (hb hby own_d_method_2_13)
      obtain ⟨fs, hr, hrun, hended, hW, hsame⟩ := X6.leave (v := some (.ref w1)) (fun h => by rw [Bd.returns] at h; cases h)
      refine ⟨_, _, pre4 _ ?_, hrun, hended, _, _, rfl, ?_, ⟨_, rfl⟩, hW, hsame.mono (by decide) (by decide)⟩
      ·
        show Steps p.tables e below (s₁.setTop (mkF m 10 #[.val (.int tt)] [(.int (1 : Int32)), (.int tt)])) _
        refine XS.icmpNo X0.here hx rfl (hb hby own_d_method_2_10) rfl (teq hc10_5).2 ?_
        show Steps p.tables e below (s₁.setTop (mkF m 13 #[.val (.int tt)] [])) _
        refine st6 _ ?_
        show Steps p.tables e below (T6.setTop (mkF m 16 #[.val (.int tt)] [(.ref w1)])) _
        jvm_step X6.here [X6.here.top, hx, (hb hby own_d_method_2_16), X6.method', Bd.returns, Value.isRef, FieldType.isReference]
        first | (intro acts; rw [hr _ acts rfl rfl rfl]) | rw [hr _ _ rfl rfl rfl]
        exact Steps.refl _
      ·
        show Q_rmT Z tt w0 w1 w2 w3 w4 w5 w6 w7 h0 n0 (_) T6.heap (_)
        rw [eh6]
        exact ⟨by rw [own_ty, if_neg hc1_2, if_pos hc10_5], N0, rfl⟩
    ·
      have pre7 : ∀ tgt, Steps p.tables e below (s₁.setTop (mkF m 19 #[.val (.int tt)] [(.int (2 : Int32)), (.int tt)])) tgt → Steps p.tables e below (s₁.setTop (entryFrame m #[(.int tt)] 1)) tgt := fun tgt kt_ => by
        refine pre4 _ ?_
        show Steps p.tables e below (s₁.setTop (mkF m 10 #[.val (.int tt)] [(.int (1 : Int32)), (.int tt)])) _
        refine XS.icmpYes X0.here hx rfl (pc0 := 10) (pc' := 17) rfl (hb hby own_d_method_2_10) rfl (feq hc10_5).2 (by decide) (by decide) ?_
        show Steps p.tables e below (s₁.setTop (mkF m 17 #[.val (.int tt)] [])) _
        refine XS.iloadN X0.here hx rfl (hb hby own_d_method_2_17) rfl ?_
        show Steps p.tables e below (s₁.setTop (mkF m 18 #[.val (.int tt)] [(.int tt)])) _
        refine XS.iconst X0.here hx rfl (hb hby own_d_method_2_18) ?_
        show Steps p.tables e below (s₁.setTop (mkF m 19 #[.val (.int tt)] [(.int (2 : Int32)), (.int tt)])) _
        exact kt_
      rcases Decidable.em (tt = (2 : Int32)) with hc19_8 | hc19_8
      ·
        obtain ⟨T9, X9, eh9, st9⟩ := getS2 X0 hx hZ hown (host := "") (Or.inl (hw _ (List.mem_of_getElem? (i := 37) rfl))) Via.refl e0 S2 (g := (mkF m 22 #[.val (.int tt)] [])) rfl (hb hby own_d_method_2_22)
        obtain ⟨fs, hr, hrun, hended, hW, hsame⟩ := X9.leave (v := some (.ref w2)) (fun h => by rw [Bd.returns] at h; cases h)
        refine ⟨_, _, pre7 _ ?_, hrun, hended, _, _, rfl, ?_, ⟨_, rfl⟩, hW, hsame.mono (by decide) (by decide)⟩
        ·
          show Steps p.tables e below (s₁.setTop (mkF m 19 #[.val (.int tt)] [(.int (2 : Int32)), (.int tt)])) _
          refine XS.icmpNo X0.here hx rfl (hb hby own_d_method_2_19) rfl (teq hc19_8).2 ?_
          show Steps p.tables e below (s₁.setTop (mkF m 22 #[.val (.int tt)] [])) _
          refine st9 _ ?_
          show Steps p.tables e below (T9.setTop (mkF m 25 #[.val (.int tt)] [(.ref w2)])) _
          jvm_step X9.here [X9.here.top, hx, (hb hby own_d_method_2_25), X9.method', Bd.returns, Value.isRef, FieldType.isReference]
          first | (intro acts; rw [hr _ acts rfl rfl rfl]) | rw [hr _ _ rfl rfl rfl]
          exact Steps.refl _
        ·
          show Q_rmT Z tt w0 w1 w2 w3 w4 w5 w6 w7 h0 n0 (_) T9.heap (_)
          rw [eh9]
          exact ⟨by rw [own_ty, if_neg hc1_2, if_neg hc10_5, if_pos hc19_8], N0, rfl⟩
      ·
        have pre10 : ∀ tgt, Steps p.tables e below (s₁.setTop (mkF m 28 #[.val (.int tt)] [(.int (3 : Int32)), (.int tt)])) tgt → Steps p.tables e below (s₁.setTop (entryFrame m #[(.int tt)] 1)) tgt := fun tgt kt_ => by
          refine pre7 _ ?_
          show Steps p.tables e below (s₁.setTop (mkF m 19 #[.val (.int tt)] [(.int (2 : Int32)), (.int tt)])) _
          refine XS.icmpYes X0.here hx rfl (pc0 := 19) (pc' := 26) rfl (hb hby own_d_method_2_19) rfl (feq hc19_8).2 (by decide) (by decide) ?_
          show Steps p.tables e below (s₁.setTop (mkF m 26 #[.val (.int tt)] [])) _
          refine XS.iloadN X0.here hx rfl (hb hby own_d_method_2_26) rfl ?_
          show Steps p.tables e below (s₁.setTop (mkF m 27 #[.val (.int tt)] [(.int tt)])) _
          refine XS.iconst X0.here hx rfl (hb hby own_d_method_2_27) ?_
          show Steps p.tables e below (s₁.setTop (mkF m 28 #[.val (.int tt)] [(.int (3 : Int32)), (.int tt)])) _
          exact kt_
        rcases Decidable.em (tt = (3 : Int32)) with hc28_11 | hc28_11
        ·
          obtain ⟨T12, X12, eh12, st12⟩ := getS2 X0 hx hZ hown (host := "") (Or.inl (hw _ (List.mem_of_getElem? (i := 66) rfl))) Via.refl e0 S3 (g := (mkF m 31 #[.val (.int tt)] [])) rfl (hb hby own_d_method_2_31)
          obtain ⟨fs, hr, hrun, hended, hW, hsame⟩ := X12.leave (v := some (.ref w3)) (fun h => by rw [Bd.returns] at h; cases h)
          refine ⟨_, _, pre10 _ ?_, hrun, hended, _, _, rfl, ?_, ⟨_, rfl⟩, hW, hsame.mono (by decide) (by decide)⟩
          ·
            show Steps p.tables e below (s₁.setTop (mkF m 28 #[.val (.int tt)] [(.int (3 : Int32)), (.int tt)])) _
            refine XS.icmpNo X0.here hx rfl (hb hby own_d_method_2_28) rfl (teq hc28_11).2 ?_
            show Steps p.tables e below (s₁.setTop (mkF m 31 #[.val (.int tt)] [])) _
            refine st12 _ ?_
            show Steps p.tables e below (T12.setTop (mkF m 34 #[.val (.int tt)] [(.ref w3)])) _
            jvm_step X12.here [X12.here.top, hx, (hb hby own_d_method_2_34), X12.method', Bd.returns, Value.isRef, FieldType.isReference]
            first | (intro acts; rw [hr _ acts rfl rfl rfl]) | rw [hr _ _ rfl rfl rfl]
            exact Steps.refl _
          ·
            show Q_rmT Z tt w0 w1 w2 w3 w4 w5 w6 w7 h0 n0 (_) T12.heap (_)
            rw [eh12]
            exact ⟨by rw [own_ty, if_neg hc1_2, if_neg hc10_5, if_neg hc19_8, if_pos hc28_11], N0, rfl⟩
        ·
          have pre13 : ∀ tgt, Steps p.tables e below (s₁.setTop (mkF m 37 #[.val (.int tt)] [(.int (4 : Int32)), (.int tt)])) tgt → Steps p.tables e below (s₁.setTop (entryFrame m #[(.int tt)] 1)) tgt := fun tgt kt_ => by
            refine pre10 _ ?_
            show Steps p.tables e below (s₁.setTop (mkF m 28 #[.val (.int tt)] [(.int (3 : Int32)), (.int tt)])) _
            refine XS.icmpYes X0.here hx rfl (pc0 := 28) (pc' := 35) rfl (hb hby own_d_method_2_28) rfl (feq hc28_11).2 (by decide) (by decide) ?_
            show Steps p.tables e below (s₁.setTop (mkF m 35 #[.val (.int tt)] [])) _
            refine XS.iloadN X0.here hx rfl (hb hby own_d_method_2_35) rfl ?_
            show Steps p.tables e below (s₁.setTop (mkF m 36 #[.val (.int tt)] [(.int tt)])) _
            refine XS.iconst X0.here hx rfl (hb hby own_d_method_2_36) ?_
            show Steps p.tables e below (s₁.setTop (mkF m 37 #[.val (.int tt)] [(.int (4 : Int32)), (.int tt)])) _
            exact kt_
          rcases Decidable.em (tt = (4 : Int32)) with hc37_14 | hc37_14
          ·
            obtain ⟨T15, X15, eh15, st15⟩ := getS2 X0 hx hZ hown (host := "") (Or.inl (hw _ (List.mem_of_getElem? (i := 63) rfl))) Via.refl e0 S4 (g := (mkF m 40 #[.val (.int tt)] [])) rfl (hb hby own_d_method_2_40)
            obtain ⟨fs, hr, hrun, hended, hW, hsame⟩ := X15.leave (v := some (.ref w4)) (fun h => by rw [Bd.returns] at h; cases h)
            refine ⟨_, _, pre13 _ ?_, hrun, hended, _, _, rfl, ?_, ⟨_, rfl⟩, hW, hsame.mono (by decide) (by decide)⟩
            ·
              show Steps p.tables e below (s₁.setTop (mkF m 37 #[.val (.int tt)] [(.int (4 : Int32)), (.int tt)])) _
              refine XS.icmpNo X0.here hx rfl (hb hby own_d_method_2_37) rfl (teq hc37_14).2 ?_
              show Steps p.tables e below (s₁.setTop (mkF m 40 #[.val (.int tt)] [])) _
              refine st15 _ ?_
              show Steps p.tables e below (T15.setTop (mkF m 43 #[.val (.int tt)] [(.ref w4)])) _
              jvm_step X15.here [X15.here.top, hx, (hb hby own_d_method_2_43), X15.method', Bd.returns, Value.isRef, FieldType.isReference]
              first | (intro acts; rw [hr _ acts rfl rfl rfl]) | rw [hr _ _ rfl rfl rfl]
              exact Steps.refl _
            ·
              show Q_rmT Z tt w0 w1 w2 w3 w4 w5 w6 w7 h0 n0 (_) T15.heap (_)
              rw [eh15]
              exact ⟨by rw [own_ty, if_neg hc1_2, if_neg hc10_5, if_neg hc19_8, if_neg hc28_11, if_pos hc37_14], N0, rfl⟩
          ·
            have pre16 : ∀ tgt, Steps p.tables e below (s₁.setTop (mkF m 46 #[.val (.int tt)] [(.int (5 : Int32)), (.int tt)])) tgt → Steps p.tables e below (s₁.setTop (entryFrame m #[(.int tt)] 1)) tgt := fun tgt kt_ => by
              refine pre13 _ ?_
              show Steps p.tables e below (s₁.setTop (mkF m 37 #[.val (.int tt)] [(.int (4 : Int32)), (.int tt)])) _
              refine XS.icmpYes X0.here hx rfl (pc0 := 37) (pc' := 44) rfl (hb hby own_d_method_2_37) rfl (feq hc37_14).2 (by decide) (by decide) ?_
              show Steps p.tables e below (s₁.setTop (mkF m 44 #[.val (.int tt)] [])) _
              refine XS.iloadN X0.here hx rfl (hb hby own_d_method_2_44) rfl ?_
              show Steps p.tables e below (s₁.setTop (mkF m 45 #[.val (.int tt)] [(.int tt)])) _
              refine XS.iconst X0.here hx rfl (hb hby own_d_method_2_45) ?_
              show Steps p.tables e below (s₁.setTop (mkF m 46 #[.val (.int tt)] [(.int (5 : Int32)), (.int tt)])) _
              exact kt_
            rcases Decidable.em (tt = (5 : Int32)) with hc46_17 | hc46_17
            ·
              obtain ⟨T18, X18, eh18, st18⟩ := getS2 X0 hx hZ hown (host := "") (Or.inl (hw _ (List.mem_of_getElem? (i := 33) rfl))) Via.refl e0 S5 (g := (mkF m 49 #[.val (.int tt)] [])) rfl (hb hby own_d_method_2_49)
              obtain ⟨fs, hr, hrun, hended, hW, hsame⟩ := X18.leave (v := some (.ref w5)) (fun h => by rw [Bd.returns] at h; cases h)
              refine ⟨_, _, pre16 _ ?_, hrun, hended, _, _, rfl, ?_, ⟨_, rfl⟩, hW, hsame.mono (by decide) (by decide)⟩
              ·
                show Steps p.tables e below (s₁.setTop (mkF m 46 #[.val (.int tt)] [(.int (5 : Int32)), (.int tt)])) _
                refine XS.icmpNo X0.here hx rfl (hb hby own_d_method_2_46) rfl (teq hc46_17).2 ?_
                show Steps p.tables e below (s₁.setTop (mkF m 49 #[.val (.int tt)] [])) _
                refine st18 _ ?_
                show Steps p.tables e below (T18.setTop (mkF m 52 #[.val (.int tt)] [(.ref w5)])) _
                jvm_step X18.here [X18.here.top, hx, (hb hby own_d_method_2_52), X18.method', Bd.returns, Value.isRef, FieldType.isReference]
                first | (intro acts; rw [hr _ acts rfl rfl rfl]) | rw [hr _ _ rfl rfl rfl]
                exact Steps.refl _
              ·
                show Q_rmT Z tt w0 w1 w2 w3 w4 w5 w6 w7 h0 n0 (_) T18.heap (_)
                rw [eh18]
                exact ⟨by rw [own_ty, if_neg hc1_2, if_neg hc10_5, if_neg hc19_8, if_neg hc28_11, if_neg hc37_14, if_pos hc46_17], N0, rfl⟩
            ·
              have pre19 : ∀ tgt, Steps p.tables e below (s₁.setTop (mkF m 56 #[.val (.int tt)] [(.int (6 : Int32)), (.int tt)])) tgt → Steps p.tables e below (s₁.setTop (entryFrame m #[(.int tt)] 1)) tgt := fun tgt kt_ => by
                refine pre16 _ ?_
                show Steps p.tables e below (s₁.setTop (mkF m 46 #[.val (.int tt)] [(.int (5 : Int32)), (.int tt)])) _
                refine XS.icmpYes X0.here hx rfl (pc0 := 46) (pc' := 53) rfl (hb hby own_d_method_2_46) rfl (feq hc46_17).2 (by decide) (by decide) ?_
                show Steps p.tables e below (s₁.setTop (mkF m 53 #[.val (.int tt)] [])) _
                refine XS.iloadN X0.here hx rfl (hb hby own_d_method_2_53) rfl ?_
                show Steps p.tables e below (s₁.setTop (mkF m 54 #[.val (.int tt)] [(.int tt)])) _
                refine XS.bipush X0.here hx rfl (hb hby own_d_method_2_54) ?_
                show Steps p.tables e below (s₁.setTop (mkF m 56 #[.val (.int tt)] [(.int (6 : Int32)), (.int tt)])) _
                exact kt_
              rcases Decidable.em (tt = (6 : Int32)) with hc56_20 | hc56_20
              ·
                obtain ⟨T21, X21, eh21, st21⟩ := getS2 X0 hx hZ hown (host := "") (Or.inl (hw _ (List.mem_of_getElem? (i := 31) rfl))) Via.refl e0 S6 (g := (mkF m 59 #[.val (.int tt)] [])) rfl (hb hby own_d_method_2_59)
                obtain ⟨fs, hr, hrun, hended, hW, hsame⟩ := X21.leave (v := some (.ref w6)) (fun h => by rw [Bd.returns] at h; cases h)
                refine ⟨_, _, pre19 _ ?_, hrun, hended, _, _, rfl, ?_, ⟨_, rfl⟩, hW, hsame.mono (by decide) (by decide)⟩
                ·
                  show Steps p.tables e below (s₁.setTop (mkF m 56 #[.val (.int tt)] [(.int (6 : Int32)), (.int tt)])) _
                  refine XS.icmpNo X0.here hx rfl (hb hby own_d_method_2_56) rfl (teq hc56_20).2 ?_
                  show Steps p.tables e below (s₁.setTop (mkF m 59 #[.val (.int tt)] [])) _
                  refine st21 _ ?_
                  show Steps p.tables e below (T21.setTop (mkF m 62 #[.val (.int tt)] [(.ref w6)])) _
                  jvm_step X21.here [X21.here.top, hx, (hb hby own_d_method_2_62), X21.method', Bd.returns, Value.isRef, FieldType.isReference]
                  first | (intro acts; rw [hr _ acts rfl rfl rfl]) | rw [hr _ _ rfl rfl rfl]
                  exact Steps.refl _
                ·
                  show Q_rmT Z tt w0 w1 w2 w3 w4 w5 w6 w7 h0 n0 (_) T21.heap (_)
                  rw [eh21]
                  exact ⟨by rw [own_ty, if_neg hc1_2, if_neg hc10_5, if_neg hc19_8, if_neg hc28_11, if_neg hc37_14, if_neg hc46_17, if_pos hc56_20], N0, rfl⟩
              ·
                obtain ⟨T22, X22, eh22, st22⟩ := getS2 X0 hx hZ hown (host := "") (Or.inl (hw _ (List.mem_of_getElem? (i := 29) rfl))) Via.refl e0 S7 (g := (mkF m 63 #[.val (.int tt)] [])) rfl (hb hby own_d_method_2_63)
                obtain ⟨fs, hr, hrun, hended, hW, hsame⟩ := X22.leave (v := some (.ref w7)) (fun h => by rw [Bd.returns] at h; cases h)
                refine ⟨_, _, pre19 _ ?_, hrun, hended, _, _, rfl, ?_, ⟨_, rfl⟩, hW, hsame.mono (by decide) (by decide)⟩
                ·
                  show Steps p.tables e below (s₁.setTop (mkF m 56 #[.val (.int tt)] [(.int (6 : Int32)), (.int tt)])) _
                  refine XS.icmpYes X0.here hx rfl (pc0 := 56) (pc' := 63) rfl (hb hby own_d_method_2_56) rfl (feq hc56_20).2 (by decide) (by decide) ?_
                  show Steps p.tables e below (s₁.setTop (mkF m 63 #[.val (.int tt)] [])) _
                  refine st22 _ ?_
                  show Steps p.tables e below (T22.setTop (mkF m 66 #[.val (.int tt)] [(.ref w7)])) _
                  jvm_step X22.here [X22.here.top, hx, (hb hby own_d_method_2_66), X22.method', Bd.returns, Value.isRef, FieldType.isReference]
                  first | (intro acts; rw [hr _ acts rfl rfl rfl]) | rw [hr _ _ rfl rfl rfl]
                  exact Steps.refl _
                ·
                  show Q_rmT Z tt w0 w1 w2 w3 w4 w5 w6 w7 h0 n0 (_) T22.heap (_)
                  rw [eh22]
                  exact ⟨by rw [own_ty, if_neg hc1_2, if_neg hc10_5, if_neg hc19_8, if_neg hc28_11, if_neg hc37_14, if_neg hc46_17, if_neg hc56_20], N0, rfl⟩
theorem own_d_prog_14_1_0 : decode prog_14_method_1_code 0 = .ok (.aload_n 0, 1) := by decide +kernel
theorem own_d_prog_14_1_1 : decode prog_14_method_1_code 1 = .ok (.invokespecial 1, 3) := by decide +kernel
theorem own_d_prog_14_1_4 : decode prog_14_method_1_code 4 = .ok (.aload_n 0, 1) := by decide +kernel
theorem own_d_prog_14_1_5 : decode prog_14_method_1_code 5 = .ok (.aload_n 1, 1) := by decide +kernel
theorem own_d_prog_14_1_6 : decode prog_14_method_1_code 6 = .ok (.putfield 7, 3) := by decide +kernel
theorem own_d_prog_14_1_9 : decode prog_14_method_1_code 9 = .ok (.aload_n 0, 1) := by decide +kernel
theorem own_d_prog_14_1_10 : decode prog_14_method_1_code 10 = .ok (.iload_n 2, 1) := by decide +kernel
theorem own_d_prog_14_1_11 : decode prog_14_method_1_code 11 = .ok (.putfield 13, 3) := by decide +kernel
theorem own_d_prog_14_1_14 : decode prog_14_method_1_code 14 = .ok (.aload_n 0, 1) := by decide +kernel
theorem own_d_prog_14_1_15 : decode prog_14_method_1_code 15 = .ok (.lload_n 3, 1) := by decide +kernel
theorem own_d_prog_14_1_16 : decode prog_14_method_1_code 16 = .ok (.putfield 17, 3) := by decide +kernel
theorem own_d_prog_14_1_19 : decode prog_14_method_1_code 19 = .ok (.return_, 1) := by decide +kernel
theorem own_pn3 : plainName "com/example/chronotag/chronotag/codec/Head" = true := by first | (simp [plainName, overriddenIn]; done) | decide +kernel
theorem ef_rmC (m : MethodId) (a1 : Addr) (m1 : Addr) (p1 : Int32) (q1 : Int64) : entryFrame m #[(.ref a1), (.ref m1), (.int p1), (.long q1)] 5 = mkF m 0 #[.val (.ref a1), .val (.ref m1), .val (.int p1), .val (.long q1), .second] [] := by first | (simp [entryFrame, mkF, argsToLocals, Value.category]; done) | rfl
def Q_rmC (Z : State) (a1 : Addr) (m1 : Addr) (p1 : Int32) (q1 : Int64) (h0 : Heap) (n0 : Nat) (v : Option Value) (h : Heap) (L : List Loc) : Prop := v = none ∧ Fr n0 L ∧ Keep h0 h [a1] ∧ Exa Z h a1 "com/example/chronotag/chronotag/codec/Head" ∧ Fld Z h a1 "com/example/chronotag/chronotag/codec/Head" "majorType" "Lcom/example/chronotag/chronotag/codec/MajorType;" (.ref m1) ∧ Fld Z h a1 "com/example/chronotag/chronotag/codec/Head" "additionalInfo" "I" (.int p1) ∧ Fld Z h a1 "com/example/chronotag/chronotag/codec/Head" "argument" "J" (.long q1)
set_option maxRecDepth 65536 in
set_option maxHeartbeats 40000000 in
theorem rmC (l : Launch) (Z : State) (a0 : Array Value) (hw : ∀ d ∈ tables_1, d.before a0 Z = true) (ws : List Jvm.Cond) (a1 : Addr) (m1 : Addr) (p1 : Int32) (q1 : Int64) (h0 : Heap) (n0 : Nat) (Z0 : n0 ≤ h0.size) (E1 : Exa Z h0 a1 "com/example/chronotag/chronotag/codec/Head") (F0 : Fld Z h0 a1 "com/example/chronotag/chronotag/codec/Head" "majorType" "Lcom/example/chronotag/chronotag/codec/MajorType;" .null) (F1 : Fld Z h0 a1 "com/example/chronotag/chronotag/codec/Head" "additionalInfo" "I" (.int (0 : Int32))) (F2 : Fld Z h0 a1 "com/example/chronotag/chronotag/codec/Head" "argument" "J" (.long (0 : Int64))) (g1 : n0 ≤ a1) :
    MetFree l (⟨"com/example/chronotag/chronotag/codec/Head", "<init>", "(Lcom/example/chronotag/chronotag/codec/MajorType;IJ)V"⟩ : MethodName) (head1 (Jvm.Cond.code (⟨"com/example/chronotag/chronotag/codec/Head", "<init>", "(Lcom/example/chronotag/chronotag/codec/MajorType;IJ)V"⟩ : MethodName) prog_14_method_1_code 5 none :: ws) ({ frames := 1, cells := 0, slots := 0, locals := 12 } : Room)) (fun a U => a = #[(.ref a1), (.ref m1), (.int p1), (.long q1)] ∧ Z.Warmed39 U.vm ∧ U.heap = h0) (fun _ _ _ _ _ => True) (fun _ U o U' => ∃ v L, o = .returned v ∧ Q_rmC Z a1 m1 p1 q1 h0 n0 (v) U'.heap (L) ∧ FrameEnd U o U' L 0 0) := by
  refine MetFree.of_bodySF (plainFor_of_name own_pn3) hisR ?_
  intro p e s m args below meth c s₁ Bd hml0 hP hK
  obtain ⟨rfl, hZ, hh⟩ := hP
  have hx := Bd.exec
  have hby := Bd.bytes
  have hml : c.maxLocals = 5 := hml0
  have hown : s.vm.findClass "com/example/chronotag/chronotag/codec/Head" = some m.cls := findClass_of_methodNamed Bd.named
  have hnm := (name_of_methodNamed Bd.named Bd.method).1
  have X0 : Stand p l e ({ frames := 1, cells := 0, slots := 0, locals := 12 } : Room) s m #[(.ref a1), (.ref m1), (.int p1), (.long q1)] below meth c s₁ [] 0 0 := Stand.of_body Bd
  have e0 : s₁.heap = h0 := by rw [← hh, Bd.state]; rfl
  have N0 := Fr.nil n0
  have pre0 : ∀ tgt, Steps p.tables e below (s₁.setTop (mkF m 0 #[.val (.ref a1), .val (.ref m1), .val (.int p1), .val (.long q1), .second] [])) tgt → Steps p.tables e below (s₁.setTop (entryFrame m #[(.ref a1), (.ref m1), (.int p1), (.long q1)] 5)) tgt := fun tgt k => castTop (ef_rmC m a1 m1 p1 q1) k
  obtain ⟨T1, X1, eh1, st1⟩ := initO X0 hx hZ hown (hw _ (List.mem_of_getElem? (i := 13) rfl)) (hw _ (List.mem_of_getElem? (i := 14) rfl)) (hw _ (List.mem_of_getElem? (i := 15) rfl)) e0 (g := (mkF m 1 #[.val (.ref a1), .val (.ref m1), .val (.int p1), .val (.long q1), .second] [(.ref a1)])) rfl (by rw [hml]; rfl) rfl (hb hby own_d_prog_14_1_1) (by decide) (W := 0) (by show 2 * 0 + _ ≤ _; exact Nat.le_of_eq rfl) (by decide)
  obtain ⟨T2, h2, X2, eh2, W2, st2⟩ := putF X1 hx hZ hown (host := "") (Or.inl (hw _ (List.mem_of_getElem? (i := 16) rfl))) Via.refl eh1 F0 E1 (Or.inr ⟨(hw _ (List.mem_of_getElem? (i := 17) rfl)), rfl, hnm⟩) (hw _ (List.mem_of_getElem? (i := 1) rfl)) (ty := (.object "com/example/chronotag/chronotag/codec/MajorType")) (by decide) rfl rfl (g := (mkF m 6 #[.val (.ref a1), .val (.ref m1), .val (.int p1), .val (.long q1), .second] [(.ref m1), (.ref a1)])) rfl rfl (hb hby own_d_prog_14_1_6)
  have Fw2 := F0.same W2
  have Zs3 : n0 ≤ h2.size := Nat.le_trans Z0 (Nat.le_of_eq W2.size.symm)
  have N3 := Fr.snoc X2 N0 g1
  have Kp3 : Keep h0 h2 [a1] := (Keep.refl h0 [a1]).wr W2 (Or.inl (List.mem_of_getElem? (i := 0) rfl))
  have c4 := (F1.other W2 (Or.inr (slot_ne (Or.inr (hw _ (List.mem_of_getElem? (i := 19) rfl))) (Or.inr (hw _ (List.mem_of_getElem? (i := 17) rfl))) (by decide) (t := .int) (t' := (.object "com/example/chronotag/chronotag/codec/MajorType")) (by decide) (by decide))))
  have c5 := (E1.wr W2)
  obtain ⟨T6, h6, X6, eh6, W6, st6⟩ := putF X2 hx hZ hown (host := "") (Or.inl (hw _ (List.mem_of_getElem? (i := 18) rfl))) Via.refl eh2 c4 c5 (Or.inr ⟨(hw _ (List.mem_of_getElem? (i := 19) rfl)), rfl, hnm⟩) (hw _ (List.mem_of_getElem? (i := 1) rfl)) (ty := .int) (by decide) rfl rfl (g := (mkF m 11 #[.val (.ref a1), .val (.ref m1), .val (.int p1), .val (.long q1), .second] [(.int p1), (.ref a1)])) rfl rfl (hb hby own_d_prog_14_1_11)
  have Fw6 := c4.same W6
  have Zs7 : n0 ≤ h6.size := Nat.le_trans Zs3 (Nat.le_of_eq W6.size.symm)
  have N7 := Fr.snoc X6 N3 g1
  have Kp7 : Keep h0 h6 [a1] := Kp3.wr W6 (Or.inl (List.mem_of_getElem? (i := 0) rfl))
  have c8 := ((F2.other W2 (Or.inr (slot_ne (Or.inr (hw _ (List.mem_of_getElem? (i := 21) rfl))) (Or.inr (hw _ (List.mem_of_getElem? (i := 17) rfl))) (by decide) (t := .long) (t' := (.object "com/example/chronotag/chronotag/codec/MajorType")) (by decide) (by decide)))).other W6 (Or.inr (slot_ne (Or.inr (hw _ (List.mem_of_getElem? (i := 21) rfl))) (Or.inr (hw _ (List.mem_of_getElem? (i := 19) rfl))) (by decide) (t := .long) (t' := .int) (by decide) (by decide))))
  have c9 := (c5.wr W6)
  obtain ⟨T10, h10, X10, eh10, W10, st10⟩ := putF X6 hx hZ hown (host := "") (Or.inl (hw _ (List.mem_of_getElem? (i := 20) rfl))) Via.refl eh6 c8 c9 (Or.inr ⟨(hw _ (List.mem_of_getElem? (i := 21) rfl)), rfl, hnm⟩) (hw _ (List.mem_of_getElem? (i := 1) rfl)) (ty := .long) (by decide) rfl rfl (g := (mkF m 16 #[.val (.ref a1), .val (.ref m1), .val (.int p1), .val (.long q1), .second] [(.long q1), (.ref a1)])) rfl rfl (hb hby own_d_prog_14_1_16)
  have Fw10 := c8.same W10
  have Zs11 : n0 ≤ h10.size := Nat.le_trans Zs7 (Nat.le_of_eq W10.size.symm)
  have N11 := Fr.snoc X10 N7 g1
  have Kp11 : Keep h0 h10 [a1] := Kp7.wr W10 (Or.inl (List.mem_of_getElem? (i := 0) rfl))
  obtain ⟨fs, hr, hrun, hended, hW, hsame⟩ := X10.leave (v := none) (fun _ => rfl)
  refine ⟨_, _, pre0 _ ?_, hrun, hended, _, _, rfl, ?_, ⟨_, rfl⟩, hW, hsame.mono (by decide) (by decide)⟩
  ·
    show Steps p.tables e below (s₁.setTop (mkF m 0 #[.val (.ref a1), .val (.ref m1), .val (.int p1), .val (.long q1), .second] [])) _
    refine XS.aloadN X0.here hx rfl (hb hby own_d_prog_14_1_0) rfl rfl ?_
    show Steps p.tables e below (s₁.setTop (mkF m 1 #[.val (.ref a1), .val (.ref m1), .val (.int p1), .val (.long q1), .second] [(.ref a1)])) _
    refine st1 _ ?_
    show Steps p.tables e below (T1.setTop (mkF m 4 #[.val (.ref a1), .val (.ref m1), .val (.int p1), .val (.long q1), .second] [])) _
    refine XS.aloadN X1.here hx rfl (hb hby own_d_prog_14_1_4) rfl rfl ?_
    show Steps p.tables e below (T1.setTop (mkF m 5 #[.val (.ref a1), .val (.ref m1), .val (.int p1), .val (.long q1), .second] [(.ref a1)])) _
    refine XS.aloadN X1.here hx rfl (hb hby own_d_prog_14_1_5) rfl rfl ?_
    show Steps p.tables e below (T1.setTop (mkF m 6 #[.val (.ref a1), .val (.ref m1), .val (.int p1), .val (.long q1), .second] [(.ref m1), (.ref a1)])) _
    refine st2 _ ?_
    show Steps p.tables e below (T2.setTop (mkF m 9 #[.val (.ref a1), .val (.ref m1), .val (.int p1), .val (.long q1), .second] [])) _
    refine XS.aloadN X2.here hx rfl (hb hby own_d_prog_14_1_9) rfl rfl ?_
    show Steps p.tables e below (T2.setTop (mkF m 10 #[.val (.ref a1), .val (.ref m1), .val (.int p1), .val (.long q1), .second] [(.ref a1)])) _
    refine XS.iloadN X2.here hx rfl (hb hby own_d_prog_14_1_10) rfl ?_
    show Steps p.tables e below (T2.setTop (mkF m 11 #[.val (.ref a1), .val (.ref m1), .val (.int p1), .val (.long q1), .second] [(.int p1), (.ref a1)])) _
    refine st6 _ ?_
    show Steps p.tables e below (T6.setTop (mkF m 14 #[.val (.ref a1), .val (.ref m1), .val (.int p1), .val (.long q1), .second] [])) _
    refine XS.aloadN X6.here hx rfl (hb hby own_d_prog_14_1_14) rfl rfl ?_
    show Steps p.tables e below (T6.setTop (mkF m 15 #[.val (.ref a1), .val (.ref m1), .val (.int p1), .val (.long q1), .second] [(.ref a1)])) _
    refine XS.lloadN X6.here hx rfl (hb hby own_d_prog_14_1_15) rfl ?_
    show Steps p.tables e below (T6.setTop (mkF m 16 #[.val (.ref a1), .val (.ref m1), .val (.int p1), .val (.long q1), .second] [(.long q1), (.ref a1)])) _
    refine st10 _ ?_
    show Steps p.tables e below (T10.setTop (mkF m 19 #[.val (.ref a1), .val (.ref m1), .val (.int p1), .val (.long q1), .second] [])) _
    exact X10.returnOut hx Bd.returns (hb hby own_d_prog_14_1_19) hr
  ·
    show Q_rmC Z a1 m1 p1 q1 h0 n0 (_) T10.heap (_)
    rw [eh10]
    have c12 := (c9.wr W10)
    have c13 := ((Fw2.other W6 (Or.inr (slot_ne (Or.inr (hw _ (List.mem_of_getElem? (i := 17) rfl))) (Or.inr (hw _ (List.mem_of_getElem? (i := 19) rfl))) (by decide) (t := (.object "com/example/chronotag/chronotag/codec/MajorType")) (t' := .int) (by decide) (by decide)))).other W10 (Or.inr (slot_ne (Or.inr (hw _ (List.mem_of_getElem? (i := 17) rfl))) (Or.inr (hw _ (List.mem_of_getElem? (i := 21) rfl))) (by decide) (t := (.object "com/example/chronotag/chronotag/codec/MajorType")) (t' := .long) (by decide) (by decide))))
    have c14 := (Fw6.other W10 (Or.inr (slot_ne (Or.inr (hw _ (List.mem_of_getElem? (i := 19) rfl))) (Or.inr (hw _ (List.mem_of_getElem? (i := 21) rfl))) (by decide) (t := .int) (t' := .long) (by decide) (by decide))))
    exact ⟨rfl, N11, Kp11, c12, c13, c14, Fw10⟩
theorem own_d_prog_14_15_0 : decode prog_14_method_15_code 0 = .ok (.aload_n 1, 1) := by decide +kernel
theorem own_d_prog_14_15_1 : decode prog_14_method_15_code 1 = .ok (.instanceof 8, 3) := by decide +kernel
theorem own_d_prog_14_15_4 : decode prog_14_method_15_code 4 = .ok (.ifCond .eq 11, 3) := by decide +kernel
theorem own_d_prog_14_15_7 : decode prog_14_method_15_code 7 = .ok (.aload_n 1, 1) := by decide +kernel
theorem own_d_prog_14_15_8 : decode prog_14_method_15_code 8 = .ok (.checkcast 8, 3) := by decide +kernel
theorem own_d_prog_14_15_11 : decode prog_14_method_15_code 11 = .ok (.astore_n 2, 1) := by decide +kernel
theorem own_d_prog_14_15_12 : decode prog_14_method_15_code 12 = .ok (.goto 5, 3) := by decide +kernel
theorem own_d_prog_14_15_17 : decode prog_14_method_15_code 17 = .ok (.aload_n 0, 1) := by decide +kernel
theorem own_d_prog_14_15_18 : decode prog_14_method_15_code 18 = .ok (.getfield 7, 3) := by decide +kernel
theorem own_d_prog_14_15_21 : decode prog_14_method_15_code 21 = .ok (.aload_n 2, 1) := by decide +kernel
theorem own_d_prog_14_15_22 : decode prog_14_method_15_code 22 = .ok (.getfield 7, 3) := by decide +kernel
theorem own_d_prog_14_15_25 : decode prog_14_method_15_code 25 = .ok (.if_acmp .ne 30, 3) := by decide +kernel
theorem own_d_prog_14_15_28 : decode prog_14_method_15_code 28 = .ok (.aload_n 0, 1) := by decide +kernel
theorem own_d_prog_14_15_29 : decode prog_14_method_15_code 29 = .ok (.getfield 13, 3) := by decide +kernel
theorem own_d_prog_14_15_32 : decode prog_14_method_15_code 32 = .ok (.aload_n 2, 1) := by decide +kernel
theorem own_d_prog_14_15_33 : decode prog_14_method_15_code 33 = .ok (.getfield 13, 3) := by decide +kernel
theorem own_d_prog_14_15_36 : decode prog_14_method_15_code 36 = .ok (.if_icmp .ne 19, 3) := by decide +kernel
theorem own_d_prog_14_15_39 : decode prog_14_method_15_code 39 = .ok (.aload_n 0, 1) := by decide +kernel
theorem own_d_prog_14_15_40 : decode prog_14_method_15_code 40 = .ok (.getfield 17, 3) := by decide +kernel
theorem own_d_prog_14_15_43 : decode prog_14_method_15_code 43 = .ok (.aload_n 2, 1) := by decide +kernel
theorem own_d_prog_14_15_44 : decode prog_14_method_15_code 44 = .ok (.getfield 17, 3) := by decide +kernel
theorem own_d_prog_14_15_47 : decode prog_14_method_15_code 47 = .ok (.lcmp, 1) := by decide +kernel
theorem own_d_prog_14_15_48 : decode prog_14_method_15_code 48 = .ok (.ifCond .ne 7, 3) := by decide +kernel
theorem own_d_prog_14_15_51 : decode prog_14_method_15_code 51 = .ok (.iconst 1, 1) := by decide +kernel
theorem own_d_prog_14_15_52 : decode prog_14_method_15_code 52 = .ok (.goto 4, 3) := by decide +kernel
theorem own_d_prog_14_15_56 : decode prog_14_method_15_code 56 = .ok (.ireturn, 1) := by decide +kernel
theorem own_d_prog_14_15_55 : decode prog_14_method_15_code 55 = .ok (.iconst 0, 1) := by decide +kernel
theorem ef_rmEq (m : MethodId) (a1 : Addr) (a2 : Addr) : entryFrame m #[(.ref a1), (.ref a2)] 3 = mkF m 0 #[.val (.ref a1), .val (.ref a2), .unset] [] := by first | (simp [entryFrame, mkF, argsToLocals, Value.category]; done) | rfl
def Q_rmEq (Z : State) (a1 : Addr) (a2 : Addr) (m1 : Addr) (i1 : Int32) (g1 : Int64) (m2 : Addr) (i2 : Int32) (g2 : Int64) (r : Int32) (h0 : Heap) (n0 : Nat) (v : Option Value) (h : Heap) (L : List Loc) : Prop := v = some (.int r) ∧ Fr n0 L ∧ h = h0
set_option maxRecDepth 65536 in
set_option maxHeartbeats 40000000 in
theorem rmEq (l : Launch) (Z : State) (a0 : Array Value) (hw : ∀ d ∈ tables_1, d.before a0 Z = true) (ws : List Jvm.Cond) (a1 : Addr) (a2 : Addr) (m1 : Addr) (i1 : Int32) (g1 : Int64) (m2 : Addr) (i2 : Int32) (g2 : Int64) (r : Int32) (h0 : Heap) (n0 : Nat) (Z0 : n0 ≤ h0.size) (E1 : Exa Z h0 a1 "com/example/chronotag/chronotag/codec/Head") (E2 : Exa Z h0 a2 "com/example/chronotag/chronotag/codec/Head") (F01 : Fld Z h0 a1 "com/example/chronotag/chronotag/codec/Head" "majorType" "Lcom/example/chronotag/chronotag/codec/MajorType;" (.ref m1)) (F11 : Fld Z h0 a1 "com/example/chronotag/chronotag/codec/Head" "additionalInfo" "I" (.int i1)) (F21 : Fld Z h0 a1 "com/example/chronotag/chronotag/codec/Head" "argument" "J" (.long g1)) (F02 : Fld Z h0 a2 "com/example/chronotag/chronotag/codec/Head" "majorType" "Lcom/example/chronotag/chronotag/codec/MajorType;" (.ref m2)) (F12 : Fld Z h0 a2 "com/example/chronotag/chronotag/codec/Head" "additionalInfo" "I" (.int i2)) (F22 : Fld Z h0 a2 "com/example/chronotag/chronotag/codec/Head" "argument" "J" (.long g2)) (hr1 : r = if m1 = m2 then (if i1 = i2 then (if lcmpW g1 g2 = 0 then 1 else 0) else 0) else 0) :
    MetFree l (⟨"com/example/chronotag/chronotag/codec/Head", "equals", "(Ljava/lang/Object;)Z"⟩ : MethodName) (head1 (Jvm.Cond.code (⟨"com/example/chronotag/chronotag/codec/Head", "equals", "(Ljava/lang/Object;)Z"⟩ : MethodName) prog_14_method_15_code 3 (some .boolean) :: ws) ({ frames := 0, cells := 0, slots := 0, locals := 0 } : Room)) (fun a U => a = #[(.ref a1), (.ref a2)] ∧ Z.Warmed39 U.vm ∧ U.heap = h0) (fun _ _ _ _ _ => True) (fun _ U o U' => ∃ v L, o = .returned v ∧ Q_rmEq Z a1 a2 m1 i1 g1 m2 i2 g2 r h0 n0 (v) U'.heap (L) ∧ FrameEnd U o U' L 0 0) := by
  refine MetFree.of_bodySF (plainFor_of_name own_pn3) hisR ?_
  intro p e s m args below meth c s₁ Bd hml0 hP hK
  obtain ⟨rfl, hZ, hh⟩ := hP
  have hx := Bd.exec
  have hby := Bd.bytes
  have hml : c.maxLocals = 3 := hml0
  have hown : s.vm.findClass "com/example/chronotag/chronotag/codec/Head" = some m.cls := findClass_of_methodNamed Bd.named
  have hnm := (name_of_methodNamed Bd.named Bd.method).1
  have X0 : Stand p l e ({ frames := 0, cells := 0, slots := 0, locals := 0 } : Room) s m #[(.ref a1), (.ref a2)] below meth c s₁ [] 0 0 := Stand.of_body Bd
  have e0 : s₁.heap = h0 := by rw [← hh, Bd.state]; rfl
  have N0 := Fr.nil n0
  have pre0 : ∀ tgt, Steps p.tables e below (s₁.setTop (mkF m 0 #[.val (.ref a1), .val (.ref a2), .unset] [])) tgt → Steps p.tables e below (s₁.setTop (entryFrame m #[(.ref a1), (.ref a2)] 3)) tgt := fun tgt k => castTop (ef_rmEq m a1 a2) k
  obtain ⟨T1, X1, eh1, st1⟩ := instY X0 hx hZ hown (hw _ (List.mem_of_getElem? (i := 27) rfl)) e0 (Ins.self E2) (g := (mkF m 1 #[.val (.ref a1), .val (.ref a2), .unset] [(.ref a2)])) rfl rfl (hb hby own_d_prog_14_15_1)
  obtain ⟨T2, X2, eh2, st2⟩ := castY X1 hx hZ hown (hw _ (List.mem_of_getElem? (i := 27) rfl)) eh1 (Ins.self E2) (g := (mkF m 8 #[.val (.ref a1), .val (.ref a2), .unset] [(.ref a2)])) rfl rfl (hb hby own_d_prog_14_15_8)
  obtain ⟨T3, X3, eh3, st3⟩ := getF X2 hx hZ hown (host := "") (Or.inl (hw _ (List.mem_of_getElem? (i := 16) rfl))) Via.refl eh2 F01 (g := (mkF m 18 #[.val (.ref a1), .val (.ref a2), .val (.ref a2)] [(.ref a1)])) rfl rfl (hb hby own_d_prog_14_15_18)
  obtain ⟨T4, X4, eh4, st4⟩ := getF X3 hx hZ hown (host := "") (Or.inl (hw _ (List.mem_of_getElem? (i := 16) rfl))) Via.refl eh3 F02 (g := (mkF m 22 #[.val (.ref a1), .val (.ref a2), .val (.ref a2)] [(.ref a2), (.ref m1)])) rfl rfl (hb hby own_d_prog_14_15_22)
  have pre5 : ∀ tgt, Steps p.tables e below (T4.setTop (mkF m 25 #[.val (.ref a1), .val (.ref a2), .val (.ref a2)] [(.ref m2), (.ref m1)])) tgt → Steps p.tables e below (s₁.setTop (entryFrame m #[(.ref a1), (.ref a2)] 3)) tgt := fun tgt kt_ => by
    refine pre0 _ ?_
    show Steps p.tables e below (s₁.setTop (mkF m 0 #[.val (.ref a1), .val (.ref a2), .unset] [])) _
    refine XS.aloadN X0.here hx rfl (hb hby own_d_prog_14_15_0) rfl rfl ?_
    show Steps p.tables e below (s₁.setTop (mkF m 1 #[.val (.ref a1), .val (.ref a2), .unset] [(.ref a2)])) _
    refine st1 _ ?_
    show Steps p.tables e below (T1.setTop (mkF m 4 #[.val (.ref a1), .val (.ref a2), .unset] [(.int (1 : Int32))])) _
    refine XS.ifNo X1.here hx rfl (hb hby own_d_prog_14_15_4) rfl ((if0 _ _).trans (feq (by decide : ¬ ((1 : Int32) = (0 : Int32)))).1) ?_
    show Steps p.tables e below (T1.setTop (mkF m 7 #[.val (.ref a1), .val (.ref a2), .unset] [])) _
    refine XS.aloadN X1.here hx rfl (hb hby own_d_prog_14_15_7) rfl rfl ?_
    show Steps p.tables e below (T1.setTop (mkF m 8 #[.val (.ref a1), .val (.ref a2), .unset] [(.ref a2)])) _
    refine st2 _ ?_
    show Steps p.tables e below (T2.setTop (mkF m 11 #[.val (.ref a1), .val (.ref a2), .unset] [(.ref a2)])) _
    refine XS.astoreN X2.here hx rfl (hb hby own_d_prog_14_15_11) rfl rfl (l' := #[.val (.ref a1), .val (.ref a2), .val (.ref a2)]) rfl ?_
    show Steps p.tables e below (T2.setTop (mkF m 12 #[.val (.ref a1), .val (.ref a2), .val (.ref a2)] [])) _
    refine XS.goto X2.here hx rfl (pc0 := 12) (pc' := 17) rfl (hb hby own_d_prog_14_15_12) (by decide) (by decide) ?_
    show Steps p.tables e below (T2.setTop (mkF m 17 #[.val (.ref a1), .val (.ref a2), .val (.ref a2)] [])) _
    refine XS.aloadN X2.here hx rfl (hb hby own_d_prog_14_15_17) rfl rfl ?_
    show Steps p.tables e below (T2.setTop (mkF m 18 #[.val (.ref a1), .val (.ref a2), .val (.ref a2)] [(.ref a1)])) _
    refine st3 _ ?_
    show Steps p.tables e below (T3.setTop (mkF m 21 #[.val (.ref a1), .val (.ref a2), .val (.ref a2)] [(.ref m1)])) _
    refine XS.aloadN X3.here hx rfl (hb hby own_d_prog_14_15_21) rfl rfl ?_
    show Steps p.tables e below (T3.setTop (mkF m 22 #[.val (.ref a1), .val (.ref a2), .val (.ref a2)] [(.ref a2), (.ref m1)])) _
    refine st4 _ ?_
    show Steps p.tables e below (T4.setTop (mkF m 25 #[.val (.ref a1), .val (.ref a2), .val (.ref a2)] [(.ref m2), (.ref m1)])) _
    exact kt_
  rcases Decidable.em (m1 = m2) with ha25_6 | ha25_6
  ·
    obtain ⟨T7, X7, eh7, st7⟩ := getF X4 hx hZ hown (host := "") (Or.inl (hw _ (List.mem_of_getElem? (i := 18) rfl))) Via.refl eh4 F11 (g := (mkF m 29 #[.val (.ref a1), .val (.ref a2), .val (.ref a2)] [(.ref a1)])) rfl rfl (hb hby own_d_prog_14_15_29)
    obtain ⟨T8, X8, eh8, st8⟩ := getF X7 hx hZ hown (host := "") (Or.inl (hw _ (List.mem_of_getElem? (i := 18) rfl))) Via.refl eh7 F12 (g := (mkF m 33 #[.val (.ref a1), .val (.ref a2), .val (.ref a2)] [(.ref a2), (.int i1)])) rfl rfl (hb hby own_d_prog_14_15_33)
    have pre9 : ∀ tgt, Steps p.tables e below (T8.setTop (mkF m 36 #[.val (.ref a1), .val (.ref a2), .val (.ref a2)] [(.int i2), (.int i1)])) tgt → Steps p.tables e below (s₁.setTop (entryFrame m #[(.ref a1), (.ref a2)] 3)) tgt := fun tgt kt_ => by
      refine pre5 _ ?_
      show Steps p.tables e below (T4.setTop (mkF m 25 #[.val (.ref a1), .val (.ref a2), .val (.ref a2)] [(.ref m2), (.ref m1)])) _
      refine Jvm.RoadKit.acmp (g := (mkF m 25 #[.val (.ref a1), .val (.ref a2), .val (.ref a2)] [(.ref m2), (.ref m1)])) X4 hx rfl rfl rfl (pc0 := 25) (pc' := 28) (same := true) rfl (hb hby own_d_prog_14_15_25) rfl (decide_eq_true (congrArg Value.ref ha25_6)) (by decide) (by decide) ?_
      show Steps p.tables e below (T4.setTop (mkF m 28 #[.val (.ref a1), .val (.ref a2), .val (.ref a2)] [])) _
      refine XS.aloadN X4.here hx rfl (hb hby own_d_prog_14_15_28) rfl rfl ?_
      show Steps p.tables e below (T4.setTop (mkF m 29 #[.val (.ref a1), .val (.ref a2), .val (.ref a2)] [(.ref a1)])) _
      refine st7 _ ?_
      show Steps p.tables e below (T7.setTop (mkF m 32 #[.val (.ref a1), .val (.ref a2), .val (.ref a2)] [(.int i1)])) _
      refine XS.aloadN X7.here hx rfl (hb hby own_d_prog_14_15_32) rfl rfl ?_
      show Steps p.tables e below (T7.setTop (mkF m 33 #[.val (.ref a1), .val (.ref a2), .val (.ref a2)] [(.ref a2), (.int i1)])) _
      refine st8 _ ?_
      show Steps p.tables e below (T8.setTop (mkF m 36 #[.val (.ref a1), .val (.ref a2), .val (.ref a2)] [(.int i2), (.int i1)])) _
      exact kt_
    rcases Decidable.em (i1 = i2) with hc36_10 | hc36_10
    ·
      obtain ⟨T11, X11, eh11, st11⟩ := getF X8 hx hZ hown (host := "") (Or.inl (hw _ (List.mem_of_getElem? (i := 20) rfl))) Via.refl eh8 F21 (g := (mkF m 40 #[.val (.ref a1), .val (.ref a2), .val (.ref a2)] [(.ref a1)])) rfl rfl (hb hby own_d_prog_14_15_40)
      obtain ⟨T12, X12, eh12, st12⟩ := getF X11 hx hZ hown (host := "") (Or.inl (hw _ (List.mem_of_getElem? (i := 20) rfl))) Via.refl eh11 F22 (g := (mkF m 44 #[.val (.ref a1), .val (.ref a2), .val (.ref a2)] [(.ref a2), (.long g1)])) rfl rfl (hb hby own_d_prog_14_15_44)
      have pre13 : ∀ tgt, Steps p.tables e below (T12.setTop (mkF m 48 #[.val (.ref a1), .val (.ref a2), .val (.ref a2)] [(.int (lcmpW g1 g2))])) tgt → Steps p.tables e below (s₁.setTop (entryFrame m #[(.ref a1), (.ref a2)] 3)) tgt := fun tgt kt_ => by
        refine pre9 _ ?_
        show Steps p.tables e below (T8.setTop (mkF m 36 #[.val (.ref a1), .val (.ref a2), .val (.ref a2)] [(.int i2), (.int i1)])) _
        refine XS.icmpNo X8.here hx rfl (hb hby own_d_prog_14_15_36) rfl (teq hc36_10).2 ?_
        show Steps p.tables e below (T8.setTop (mkF m 39 #[.val (.ref a1), .val (.ref a2), .val (.ref a2)] [])) _
        refine XS.aloadN X8.here hx rfl (hb hby own_d_prog_14_15_39) rfl rfl ?_
        show Steps p.tables e below (T8.setTop (mkF m 40 #[.val (.ref a1), .val (.ref a2), .val (.ref a2)] [(.ref a1)])) _
        refine st11 _ ?_
        show Steps p.tables e below (T11.setTop (mkF m 43 #[.val (.ref a1), .val (.ref a2), .val (.ref a2)] [(.long g1)])) _
        refine XS.aloadN X11.here hx rfl (hb hby own_d_prog_14_15_43) rfl rfl ?_
        show Steps p.tables e below (T11.setTop (mkF m 44 #[.val (.ref a1), .val (.ref a2), .val (.ref a2)] [(.ref a2), (.long g1)])) _
        refine st12 _ ?_
        show Steps p.tables e below (T12.setTop (mkF m 47 #[.val (.ref a1), .val (.ref a2), .val (.ref a2)] [(.long g2), (.long g1)])) _
        refine XS.lcmp X12.here hx rfl (hb hby own_d_prog_14_15_47) rfl ?_
        show Steps p.tables e below (T12.setTop (mkF m 48 #[.val (.ref a1), .val (.ref a2), .val (.ref a2)] [(.int (lcmpW g1 g2))])) _
        exact kt_
      rcases Decidable.em ((lcmpW g1 g2) = (0 : Int32)) with hc48_14 | hc48_14
      ·
        obtain ⟨fs, hr, hrun, hended, hW, hsame⟩ := X12.leave (v := some (.int (1 : Int32))) (fun h => by rw [Bd.returns] at h; cases h)
        refine ⟨_, _, pre13 _ ?_, hrun, hended, _, _, rfl, ?_, ⟨_, rfl⟩, hW, hsame.mono (by decide) (by decide)⟩
        ·
          show Steps p.tables e below (T12.setTop (mkF m 48 #[.val (.ref a1), .val (.ref a2), .val (.ref a2)] [(.int (lcmpW g1 g2))])) _
          refine XS.ifNo X12.here hx rfl (hb hby own_d_prog_14_15_48) rfl ((if0 _ _).trans (teq hc48_14).2) ?_
          show Steps p.tables e below (T12.setTop (mkF m 51 #[.val (.ref a1), .val (.ref a2), .val (.ref a2)] [])) _
          refine XS.iconst X12.here hx rfl (hb hby own_d_prog_14_15_51) ?_
          show Steps p.tables e below (T12.setTop (mkF m 52 #[.val (.ref a1), .val (.ref a2), .val (.ref a2)] [(.int (1 : Int32))])) _
          refine XS.goto X12.here hx rfl (pc0 := 52) (pc' := 56) rfl (hb hby own_d_prog_14_15_52) (by decide) (by decide) ?_
          show Steps p.tables e below (T12.setTop (mkF m 56 #[.val (.ref a1), .val (.ref a2), .val (.ref a2)] [(.int (1 : Int32))])) _
          exact retN X12 hx (t := .boolean) Bd.returns (by simp) (hb hby own_d_prog_14_15_56) hr
        ·
          show Q_rmEq Z a1 a2 m1 i1 g1 m2 i2 g2 r h0 n0 (_) T12.heap (_)
          rw [eh12]
          exact ⟨by rw [hr1, if_pos ha25_6, if_pos hc36_10, if_pos hc48_14], N0, rfl⟩
      ·
        obtain ⟨fs, hr, hrun, hended, hW, hsame⟩ := X12.leave (v := some (.int (0 : Int32))) (fun h => by rw [Bd.returns] at h; cases h)
        refine ⟨_, _, pre13 _ ?_, hrun, hended, _, _, rfl, ?_, ⟨_, rfl⟩, hW, hsame.mono (by decide) (by decide)⟩
        ·
          show Steps p.tables e below (T12.setTop (mkF m 48 #[.val (.ref a1), .val (.ref a2), .val (.ref a2)] [(.int (lcmpW g1 g2))])) _
          refine XS.ifYes X12.here hx rfl (pc0 := 48) (pc' := 55) rfl (hb hby own_d_prog_14_15_48) rfl ((if0 _ _).trans (feq hc48_14).2) (by decide) (by decide) ?_
          show Steps p.tables e below (T12.setTop (mkF m 55 #[.val (.ref a1), .val (.ref a2), .val (.ref a2)] [])) _
          refine XS.iconst X12.here hx rfl (hb hby own_d_prog_14_15_55) ?_
          show Steps p.tables e below (T12.setTop (mkF m 56 #[.val (.ref a1), .val (.ref a2), .val (.ref a2)] [(.int (0 : Int32))])) _
          exact retN X12 hx (t := .boolean) Bd.returns (by simp) (hb hby own_d_prog_14_15_56) hr
        ·
          show Q_rmEq Z a1 a2 m1 i1 g1 m2 i2 g2 r h0 n0 (_) T12.heap (_)
          rw [eh12]
          exact ⟨by rw [hr1, if_pos ha25_6, if_pos hc36_10, if_neg hc48_14], N0, rfl⟩
    ·
      obtain ⟨fs, hr, hrun, hended, hW, hsame⟩ := X8.leave (v := some (.int (0 : Int32))) (fun h => by rw [Bd.returns] at h; cases h)
      refine ⟨_, _, pre9 _ ?_, hrun, hended, _, _, rfl, ?_, ⟨_, rfl⟩, hW, hsame.mono (by decide) (by decide)⟩
      ·
        show Steps p.tables e below (T8.setTop (mkF m 36 #[.val (.ref a1), .val (.ref a2), .val (.ref a2)] [(.int i2), (.int i1)])) _
        refine XS.icmpYes X8.here hx rfl (pc0 := 36) (pc' := 55) rfl (hb hby own_d_prog_14_15_36) rfl (feq hc36_10).2 (by decide) (by decide) ?_
        show Steps p.tables e below (T8.setTop (mkF m 55 #[.val (.ref a1), .val (.ref a2), .val (.ref a2)] [])) _
        refine XS.iconst X8.here hx rfl (hb hby own_d_prog_14_15_55) ?_
        show Steps p.tables e below (T8.setTop (mkF m 56 #[.val (.ref a1), .val (.ref a2), .val (.ref a2)] [(.int (0 : Int32))])) _
        exact retN X8 hx (t := .boolean) Bd.returns (by simp) (hb hby own_d_prog_14_15_56) hr
      ·
        show Q_rmEq Z a1 a2 m1 i1 g1 m2 i2 g2 r h0 n0 (_) T8.heap (_)
        rw [eh8]
        exact ⟨by rw [hr1, if_pos ha25_6, if_neg hc36_10], N0, rfl⟩
  ·
    obtain ⟨fs, hr, hrun, hended, hW, hsame⟩ := X4.leave (v := some (.int (0 : Int32))) (fun h => by rw [Bd.returns] at h; cases h)
    refine ⟨_, _, pre5 _ ?_, hrun, hended, _, _, rfl, ?_, ⟨_, rfl⟩, hW, hsame.mono (by decide) (by decide)⟩
    ·
      show Steps p.tables e below (T4.setTop (mkF m 25 #[.val (.ref a1), .val (.ref a2), .val (.ref a2)] [(.ref m2), (.ref m1)])) _
      refine Jvm.RoadKit.acmp (g := (mkF m 25 #[.val (.ref a1), .val (.ref a2), .val (.ref a2)] [(.ref m2), (.ref m1)])) X4 hx rfl rfl rfl (pc0 := 25) (pc' := 55) (same := false) rfl (hb hby own_d_prog_14_15_25) rfl (decide_eq_false fun q => ha25_6 (Value.ref.inj q)) (by decide) (by decide) ?_
      show Steps p.tables e below (T4.setTop (mkF m 55 #[.val (.ref a1), .val (.ref a2), .val (.ref a2)] [])) _
      refine XS.iconst X4.here hx rfl (hb hby own_d_prog_14_15_55) ?_
      show Steps p.tables e below (T4.setTop (mkF m 56 #[.val (.ref a1), .val (.ref a2), .val (.ref a2)] [(.int (0 : Int32))])) _
      exact retN X4 hx (t := .boolean) Bd.returns (by simp) (hb hby own_d_prog_14_15_56) hr
    ·
      show Q_rmEq Z a1 a2 m1 i1 g1 m2 i2 g2 r h0 n0 (_) T4.heap (_)
      rw [eh4]
      exact ⟨by rw [hr1, if_neg ha25_6], N0, rfl⟩
theorem own_d_prog_14_15_15 : decode prog_14_method_15_code 15 = .ok (.iconst 0, 1) := by decide +kernel
theorem own_d_prog_14_15_16 : decode prog_14_method_15_code 16 = .ok (.ireturn, 1) := by decide +kernel
theorem ef_rmEqN (m : MethodId) (a1 : Addr) : entryFrame m #[(.ref a1), .null] 3 = mkF m 0 #[.val (.ref a1), .val .null, .unset] [] := by first | (simp [entryFrame, mkF, argsToLocals, Value.category]; done) | rfl
def Q_rmEqN (Z : State) (a1 : Addr) (h0 : Heap) (n0 : Nat) (v : Option Value) (h : Heap) (L : List Loc) : Prop := v = some (.int 0) ∧ Fr n0 L ∧ h = h0
set_option maxRecDepth 65536 in
set_option maxHeartbeats 40000000 in
theorem rmEqN (l : Launch) (Z : State) (a0 : Array Value) (hw : ∀ d ∈ tables_1, d.before a0 Z = true) (ws : List Jvm.Cond) (a1 : Addr) (h0 : Heap) (n0 : Nat) (Z0 : n0 ≤ h0.size)  :
    MetFree l (⟨"com/example/chronotag/chronotag/codec/Head", "equals", "(Ljava/lang/Object;)Z"⟩ : MethodName) (head1 (Jvm.Cond.code (⟨"com/example/chronotag/chronotag/codec/Head", "equals", "(Ljava/lang/Object;)Z"⟩ : MethodName) prog_14_method_15_code 3 (some .boolean) :: ws) ({ frames := 0, cells := 0, slots := 0, locals := 0 } : Room)) (fun a U => a = #[(.ref a1), .null] ∧ Z.Warmed39 U.vm ∧ U.heap = h0) (fun _ _ _ _ _ => True) (fun _ U o U' => ∃ v L, o = .returned v ∧ Q_rmEqN Z a1 h0 n0 (v) U'.heap (L) ∧ FrameEnd U o U' L 0 0) := by
  refine MetFree.of_bodySF (plainFor_of_name own_pn3) hisR ?_
  intro p e s m args below meth c s₁ Bd hml0 hP hK
  obtain ⟨rfl, hZ, hh⟩ := hP
  have hx := Bd.exec
  have hby := Bd.bytes
  have hml : c.maxLocals = 3 := hml0
  have hown : s.vm.findClass "com/example/chronotag/chronotag/codec/Head" = some m.cls := findClass_of_methodNamed Bd.named
  have hnm := (name_of_methodNamed Bd.named Bd.method).1
  have X0 : Stand p l e ({ frames := 0, cells := 0, slots := 0, locals := 0 } : Room) s m #[(.ref a1), .null] below meth c s₁ [] 0 0 := Stand.of_body Bd
  have e0 : s₁.heap = h0 := by rw [← hh, Bd.state]; rfl
  have N0 := Fr.nil n0
  have pre0 : ∀ tgt, Steps p.tables e below (s₁.setTop (mkF m 0 #[.val (.ref a1), .val .null, .unset] [])) tgt → Steps p.tables e below (s₁.setTop (entryFrame m #[(.ref a1), .null] 3)) tgt := fun tgt k => castTop (ef_rmEqN m a1) k
  obtain ⟨fs, hr, hrun, hended, hW, hsame⟩ := X0.leave (v := some (.int (0 : Int32))) (fun h => by rw [Bd.returns] at h; cases h)
  refine ⟨_, _, pre0 _ ?_, hrun, hended, _, _, rfl, ?_, ⟨_, rfl⟩, hW, hsame.mono (by decide) (by decide)⟩
  ·
    show Steps p.tables e below (s₁.setTop (mkF m 0 #[.val (.ref a1), .val .null, .unset] [])) _
    refine XS.aloadN X0.here hx rfl (hb hby own_d_prog_14_15_0) rfl rfl ?_
    show Steps p.tables e below (s₁.setTop (mkF m 1 #[.val (.ref a1), .val .null, .unset] [.null])) _
    refine X0.instanceofNull hx (g := (mkF m 1 #[.val (.ref a1), .val .null, .unset] [.null])) rfl rfl (hb hby own_d_prog_14_15_1) _ ?_
    show Steps p.tables e below (s₁.setTop (mkF m 4 #[.val (.ref a1), .val .null, .unset] [(.int (0 : Int32))])) _
    refine XS.ifYes X0.here hx rfl (pc0 := 4) (pc' := 15) rfl (hb hby own_d_prog_14_15_4) rfl ((if0 _ _).trans (teq (by decide : (0 : Int32) = (0 : Int32))).1) (by decide) (by decide) ?_
    show Steps p.tables e below (s₁.setTop (mkF m 15 #[.val (.ref a1), .val .null, .unset] [])) _
    refine XS.iconst X0.here hx rfl (hb hby own_d_prog_14_15_15) ?_
    show Steps p.tables e below (s₁.setTop (mkF m 16 #[.val (.ref a1), .val .null, .unset] [(.int (0 : Int32))])) _
    exact retN X0 hx (t := .boolean) Bd.returns (by simp) (hb hby own_d_prog_14_15_16) hr
  ·
    show Q_rmEqN Z a1 h0 n0 (_) s₁.heap (_)
    rw [e0]
    exact ⟨rfl, N0, rfl⟩
theorem ef_rmEqI (m : MethodId) (a1 : Addr) (a2 : Addr) : entryFrame m #[(.ref a1), (.ref a2)] 3 = mkF m 0 #[.val (.ref a1), .val (.ref a2), .unset] [] := by first | (simp [entryFrame, mkF, argsToLocals, Value.category]; done) | rfl
def Q_rmEqI (Z : State) (a1 : Addr) (a2 : Addr) (h0 : Heap) (n0 : Nat) (v : Option Value) (h : Heap) (L : List Loc) : Prop := v = some (.int 0) ∧ Fr n0 L ∧ h = h0
set_option maxRecDepth 65536 in
set_option maxHeartbeats 40000000 in
theorem rmEqI (l : Launch) (Z : State) (a0 : Array Value) (hw : ∀ d ∈ tables_1, d.before a0 Z = true) (ws : List Jvm.Cond) (a1 : Addr) (a2 : Addr) (h0 : Heap) (n0 : Nat) (Z0 : n0 ≤ h0.size) (E2 : Exa Z h0 a2 "java/lang/Integer") :
    MetFree l (⟨"com/example/chronotag/chronotag/codec/Head", "equals", "(Ljava/lang/Object;)Z"⟩ : MethodName) (head1 (Jvm.Cond.code (⟨"com/example/chronotag/chronotag/codec/Head", "equals", "(Ljava/lang/Object;)Z"⟩ : MethodName) prog_14_method_15_code 3 (some .boolean) :: ws) ({ frames := 0, cells := 0, slots := 0, locals := 0 } : Room)) (fun a U => a = #[(.ref a1), (.ref a2)] ∧ Z.Warmed39 U.vm ∧ U.heap = h0) (fun _ _ _ _ _ => True) (fun _ U o U' => ∃ v L, o = .returned v ∧ Q_rmEqI Z a1 a2 h0 n0 (v) U'.heap (L) ∧ FrameEnd U o U' L 0 0) := by
  refine MetFree.of_bodySF (plainFor_of_name own_pn3) hisR ?_
  intro p e s m args below meth c s₁ Bd hml0 hP hK
  obtain ⟨rfl, hZ, hh⟩ := hP
  have hx := Bd.exec
  have hby := Bd.bytes
  have hml : c.maxLocals = 3 := hml0
  have hown : s.vm.findClass "com/example/chronotag/chronotag/codec/Head" = some m.cls := findClass_of_methodNamed Bd.named
  have hnm := (name_of_methodNamed Bd.named Bd.method).1
  have X0 : Stand p l e ({ frames := 0, cells := 0, slots := 0, locals := 0 } : Room) s m #[(.ref a1), (.ref a2)] below meth c s₁ [] 0 0 := Stand.of_body Bd
  have e0 : s₁.heap = h0 := by rw [← hh, Bd.state]; rfl
  have N0 := Fr.nil n0
  have pre0 : ∀ tgt, Steps p.tables e below (s₁.setTop (mkF m 0 #[.val (.ref a1), .val (.ref a2), .unset] [])) tgt → Steps p.tables e below (s₁.setTop (entryFrame m #[(.ref a1), (.ref a2)] 3)) tgt := fun tgt k => castTop (ef_rmEqI m a1 a2) k
  obtain ⟨T1, X1, eh1, st1⟩ := instNo X0 hx hZ hown (hw _ (List.mem_of_getElem? (i := 27) rfl)) e0 E2 (own_nsno (hw _ (List.mem_of_getElem? (i := 46) rfl)) (hw _ (List.mem_of_getElem? (i := 1) rfl)) (NS.step (hw _ (List.mem_of_getElem? (i := 60) rfl)) (NS.step (hw _ (List.mem_of_getElem? (i := 61) rfl)) (own_nsroot (hw _ (List.mem_of_getElem? (i := 62) rfl)) (hw _ (List.mem_of_getElem? (i := 1) rfl)) (by decide)) (by decide)) (by decide)) (by decide)) (g := (mkF m 1 #[.val (.ref a1), .val (.ref a2), .unset] [(.ref a2)])) rfl rfl (hb hby own_d_prog_14_15_1)
  obtain ⟨fs, hr, hrun, hended, hW, hsame⟩ := X1.leave (v := some (.int (0 : Int32))) (fun h => by rw [Bd.returns] at h; cases h)
  refine ⟨_, _, pre0 _ ?_, hrun, hended, _, _, rfl, ?_, ⟨_, rfl⟩, hW, hsame.mono (by decide) (by decide)⟩
  ·
    show Steps p.tables e below (s₁.setTop (mkF m 0 #[.val (.ref a1), .val (.ref a2), .unset] [])) _
    refine XS.aloadN X0.here hx rfl (hb hby own_d_prog_14_15_0) rfl rfl ?_
    show Steps p.tables e below (s₁.setTop (mkF m 1 #[.val (.ref a1), .val (.ref a2), .unset] [(.ref a2)])) _
    refine st1 _ ?_
    show Steps p.tables e below (T1.setTop (mkF m 4 #[.val (.ref a1), .val (.ref a2), .unset] [(.int (0 : Int32))])) _
    refine XS.ifYes X1.here hx rfl (pc0 := 4) (pc' := 15) rfl (hb hby own_d_prog_14_15_4) rfl ((if0 _ _).trans (teq (by decide : (0 : Int32) = (0 : Int32))).1) (by decide) (by decide) ?_
    show Steps p.tables e below (T1.setTop (mkF m 15 #[.val (.ref a1), .val (.ref a2), .unset] [])) _
    refine XS.iconst X1.here hx rfl (hb hby own_d_prog_14_15_15) ?_
    show Steps p.tables e below (T1.setTop (mkF m 16 #[.val (.ref a1), .val (.ref a2), .unset] [(.int (0 : Int32))])) _
    exact retN X1 hx (t := .boolean) Bd.returns (by simp) (hb hby own_d_prog_14_15_16) hr
  ·
    show Q_rmEqI Z a1 a2 h0 n0 (_) T1.heap (_)
    rw [eh1]
    exact ⟨rfl, N0, rfl⟩
theorem own_pd2 : parseMethodDescriptor "(I)Lcom/example/chronotag/chronotag/codec/MajorType;" = some ⟨[.int], some (.object "com/example/chronotag/chronotag/codec/MajorType")⟩ := by decide +kernel
theorem own_pd3 : parseMethodDescriptor "(Lcom/example/chronotag/chronotag/codec/MajorType;IJ)V" = some ⟨[(.object "com/example/chronotag/chronotag/codec/MajorType"), .int, .long], none⟩ := by decide +kernel
theorem own_pd4 : parseMethodDescriptor "(Ljava/lang/Object;)Z" = some ⟨[(.object "java/lang/Object")], some .boolean⟩ := by decide +kernel
theorem own_pd5 : parseMethodDescriptor "(I)Ljava/lang/Integer;" = some ⟨[.int], some (.object "java/lang/Integer")⟩ := by decide +kernel
theorem ef_rm0 (m : MethodId) (p1 : Int32) (p2 : Int32) (q3 : Int64) (p4 : Int32) (q5 : Int64) (p6 : Int32) : entryFrame m #[(.int p1), (.int p2), (.long q3), (.int p4), (.long q5), (.int p6)] maxLocals = mkF m 0 #[.val (.int p1), .val (.int p2), .val (.long q3), .second, .val (.int p4), .val (.long q5), .second, .val (.int p6), .unset, .unset, .unset, .unset, .unset, .unset, .unset, .unset, .unset] [] := by first | (simp [entryFrame, mkF, argsToLocals, Value.category, maxLocals]; done) | rfl
def Q_rm0 (Z : State) (p1 : Int32) (p2 : Int32) (q3 : Int64) (p4 : Int32) (q5 : Int64) (p6 : Int32) (w0 : Addr) (w1 : Addr) (w2 : Addr) (w3 : Addr) (w4 : Addr) (w5 : Addr) (w6 : Addr) (w7 : Addr) (ca : Addr) (cc : Cell) (h0 : Heap) (n0 : Nat) (v : Option Value) (h : Heap) (L : List Loc) : Prop := v = some (.int 1) ∧ Fr n0 L
set_option maxRecDepth 65536 in
set_option maxHeartbeats 40000000 in
theorem rm0 (l : Launch) (Z : State) (a0 : Array Value) (hw : ∀ d ∈ tables_1, d.before a0 Z = true) (ws : List Jvm.Cond) (p1 : Int32) (p2 : Int32) (q3 : Int64) (p4 : Int32) (q5 : Int64) (p6 : Int32) (w0 : Addr) (w1 : Addr) (w2 : Addr) (w3 : Addr) (w4 : Addr) (w5 : Addr) (w6 : Addr) (w7 : Addr) (ca : Addr) (cc : Cell) (h0 : Heap) (n0 : Nat) (Z0 : n0 ≤ h0.size) (O0 : Old Z n0 h0) (SH : Sta Z Z.heap "java/lang/Integer$IntegerCache" "high" "I" (.int (127 : Int32))) (SC : Sta Z Z.heap "java/lang/Integer$IntegerCache" "cache" "[Ljava/lang/Integer;" (.ref ca)) (BX : Bxs Z ca cc "java/lang/Integer" "I" 256 (fun j => .int (j - 128))) (S0 : Sta Z Z.heap "com/example/chronotag/chronotag/codec/MajorType" "UNSIGNED_INTEGER" "Lcom/example/chronotag/chronotag/codec/MajorType;" (.ref w0)) (S1 : Sta Z Z.heap "com/example/chronotag/chronotag/codec/MajorType" "NEGATIVE_INTEGER" "Lcom/example/chronotag/chronotag/codec/MajorType;" (.ref w1)) (S2 : Sta Z Z.heap "com/example/chronotag/chronotag/codec/MajorType" "BYTE_STRING" "Lcom/example/chronotag/chronotag/codec/MajorType;" (.ref w2)) (S3 : Sta Z Z.heap "com/example/chronotag/chronotag/codec/MajorType" "TEXT_STRING" "Lcom/example/chronotag/chronotag/codec/MajorType;" (.ref w3)) (S4 : Sta Z Z.heap "com/example/chronotag/chronotag/codec/MajorType" "ARRAY" "Lcom/example/chronotag/chronotag/codec/MajorType;" (.ref w4)) (S5 : Sta Z Z.heap "com/example/chronotag/chronotag/codec/MajorType" "MAP" "Lcom/example/chronotag/chronotag/codec/MajorType;" (.ref w5)) (S6 : Sta Z Z.heap "com/example/chronotag/chronotag/codec/MajorType" "TAG" "Lcom/example/chronotag/chronotag/codec/MajorType;" (.ref w6)) (S7 : Sta Z Z.heap "com/example/chronotag/chronotag/codec/MajorType" "SIMPLE_OR_FLOAT" "Lcom/example/chronotag/chronotag/codec/MajorType;" (.ref w7)) (F0 : Fld Z Z.heap w0 "java/lang/Enum" "ordinal" "I" (.int (0 : Int32))) (F1 : Fld Z Z.heap w1 "java/lang/Enum" "ordinal" "I" (.int (1 : Int32))) (F2 : Fld Z Z.heap w2 "java/lang/Enum" "ordinal" "I" (.int (2 : Int32))) (F3 : Fld Z Z.heap w3 "java/lang/Enum" "ordinal" "I" (.int (3 : Int32))) (F4 : Fld Z Z.heap w4 "java/lang/Enum" "ordinal" "I" (.int (4 : Int32))) (F5 : Fld Z Z.heap w5 "java/lang/Enum" "ordinal" "I" (.int (5 : Int32))) (F6 : Fld Z Z.heap w6 "java/lang/Enum" "ordinal" "I" (.int (6 : Int32))) (F7 : Fld Z Z.heap w7 "java/lang/Enum" "ordinal" "I" (.int (7 : Int32))) :
    MetFree l x (head1 (Jvm.Cond.code x code maxLocals ret :: ws) room_1) (fun a U => a = #[(.int p1), (.int p2), (.long q3), (.int p4), (.long q5), (.int p6)] ∧ Z.Warmed39 U.vm ∧ U.heap = h0) (fun _ _ _ _ _ => True) (fun _ U o U' => ∃ v L, o = .returned v ∧ Q_rm0 Z p1 p2 q3 p4 q5 p6 w0 w1 w2 w3 w4 w5 w6 w7 ca cc h0 n0 (v) U'.heap (L) ∧ FrameEnd U o U' L 3 7) := by
  refine MetFree.of_bodySF (plainFor_of_name own_pn2) hisR ?_
  intro p e s m args below meth c s₁ Bd hml0 hP hK
  obtain ⟨rfl, hZ, hh⟩ := hP
  have hx := Bd.exec
  have hby := Bd.bytes
  have hml : c.maxLocals = 17 := hml0
  have hown : s.vm.findClass "com/example/chronotag/chronotag/codec/HeadEqualsPinLaw" = some m.cls := findClass_of_methodNamed Bd.named
  have hnm := (name_of_methodNamed Bd.named Bd.method).1
  have X0 : Stand p l e room_1 s m #[(.int p1), (.int p2), (.long q3), (.int p4), (.long q5), (.int p6)] below meth c s₁ [] 0 0 := Stand.of_body Bd
  have e0 : s₁.heap = h0 := by rw [← hh, Bd.state]; rfl
  have N0 := Fr.nil n0
  have pre0 : ∀ tgt, Steps p.tables e below (s₁.setTop (mkF m 0 #[.val (.int p1), .val (.int p2), .val (.long q3), .second, .val (.int p4), .val (.long q5), .second, .val (.int p6), .unset, .unset, .unset, .unset, .unset, .unset, .unset, .unset, .unset] [])) tgt → Steps p.tables e below (s₁.setTop (entryFrame m #[(.int p1), (.int p2), (.long q3), (.int p4), (.long q5), (.int p6)] maxLocals)) tgt := fun tgt k => castTop (ef_rm0 m p1 p2 q3 p4 q5 p6) k
  have pre1 : ∀ tgt, Steps p.tables e below (s₁.setTop (mkF m 6 #[.val (.int p1), .val (.int p2), .val (.long q3), .second, .val (.int p4), .val (.long q5), .second, .val (.int p6), .val (.int (p1 &&& (7 : Int32))), .unset, .unset, .unset, .unset, .unset, .unset, .unset, .unset] [])) tgt → Steps p.tables e below (s₁.setTop (entryFrame m #[(.int p1), (.int p2), (.long q3), (.int p4), (.long q5), (.int p6)] maxLocals)) tgt := fun tgt kt_ => by
    refine pre0 _ ?_
    show Steps p.tables e below (s₁.setTop (mkF m 0 #[.val (.int p1), .val (.int p2), .val (.long q3), .second, .val (.int p4), .val (.long q5), .second, .val (.int p6), .unset, .unset, .unset, .unset, .unset, .unset, .unset, .unset, .unset] [])) _
    refine XS.iloadN X0.here hx rfl (hb hby at_0) rfl ?_
    show Steps p.tables e below (s₁.setTop (mkF m 1 #[.val (.int p1), .val (.int p2), .val (.long q3), .second, .val (.int p4), .val (.long q5), .second, .val (.int p6), .unset, .unset, .unset, .unset, .unset, .unset, .unset, .unset, .unset] [(.int p1)])) _
    refine XS.bipush X0.here hx rfl (hb hby at_1) ?_
    show Steps p.tables e below (s₁.setTop (mkF m 3 #[.val (.int p1), .val (.int p2), .val (.long q3), .second, .val (.int p4), .val (.long q5), .second, .val (.int p6), .unset, .unset, .unset, .unset, .unset, .unset, .unset, .unset, .unset] [(.int (7 : Int32)), (.int p1)])) _
    refine XS.iand X0.here hx rfl (hb hby at_3) rfl ?_
    show Steps p.tables e below (s₁.setTop (mkF m 4 #[.val (.int p1), .val (.int p2), .val (.long q3), .second, .val (.int p4), .val (.long q5), .second, .val (.int p6), .unset, .unset, .unset, .unset, .unset, .unset, .unset, .unset, .unset] [(.int (p1 &&& (7 : Int32)))])) _
    refine XS.istore X0.here hx rfl (hb hby at_4) rfl (l' := #[.val (.int p1), .val (.int p2), .val (.long q3), .second, .val (.int p4), .val (.long q5), .second, .val (.int p6), .val (.int (p1 &&& (7 : Int32))), .unset, .unset, .unset, .unset, .unset, .unset, .unset, .unset]) rfl ?_
    show Steps p.tables e below (s₁.setTop (mkF m 6 #[.val (.int p1), .val (.int p2), .val (.long q3), .second, .val (.int p4), .val (.long q5), .second, .val (.int p6), .val (.int (p1 &&& (7 : Int32))), .unset, .unset, .unset, .unset, .unset, .unset, .unset, .unset] [])) _
    exact kt_
  obtain ⟨t1, ht1⟩ : ∃ z, z = (p1 &&& (7 : Int32)) := ⟨_, rfl⟩
  rw [← ht1] at pre1
  have ho1 : t1 = 0 ∨ t1 = 1 ∨ t1 = 2 ∨ t1 = 3 ∨ t1 = 4 ∨ t1 = 5 ∨ t1 = 6 ∨ t1 = 7 := by rw [ht1]; exact own_a8 p1
  have pre3 : ∀ tgt, Steps p.tables e below (s₁.setTop (mkF m 10 #[.val (.int p1), .val (.int p2), .val (.long q3), .second, .val (.int p4), .val (.long q5), .second, .val (.int p6), .val (.int t1), .unset, .unset, .unset, .unset, .unset, .unset, .unset, .unset] [(.int (p6 &&& (1 : Int32)))])) tgt → Steps p.tables e below (s₁.setTop (entryFrame m #[(.int p1), (.int p2), (.long q3), (.int p4), (.long q5), (.int p6)] maxLocals)) tgt := fun tgt kt_ => by
    refine pre1 _ ?_
    show Steps p.tables e below (s₁.setTop (mkF m 6 #[.val (.int p1), .val (.int p2), .val (.long q3), .second, .val (.int p4), .val (.long q5), .second, .val (.int p6), .val (.int t1), .unset, .unset, .unset, .unset, .unset, .unset, .unset, .unset] [])) _
    refine XS.iload X0.here hx rfl (hb hby at_6) rfl ?_
    show Steps p.tables e below (s₁.setTop (mkF m 8 #[.val (.int p1), .val (.int p2), .val (.long q3), .second, .val (.int p4), .val (.long q5), .second, .val (.int p6), .val (.int t1), .unset, .unset, .unset, .unset, .unset, .unset, .unset, .unset] [(.int p6)])) _
    refine XS.iconst X0.here hx rfl (hb hby at_8) ?_
    show Steps p.tables e below (s₁.setTop (mkF m 9 #[.val (.int p1), .val (.int p2), .val (.long q3), .second, .val (.int p4), .val (.long q5), .second, .val (.int p6), .val (.int t1), .unset, .unset, .unset, .unset, .unset, .unset, .unset, .unset] [(.int (1 : Int32)), (.int p6)])) _
    refine XS.iand X0.here hx rfl (hb hby at_9) rfl ?_
    show Steps p.tables e below (s₁.setTop (mkF m 10 #[.val (.int p1), .val (.int p2), .val (.long q3), .second, .val (.int p4), .val (.long q5), .second, .val (.int p6), .val (.int t1), .unset, .unset, .unset, .unset, .unset, .unset, .unset, .unset] [(.int (p6 &&& (1 : Int32)))])) _
    exact kt_
  have pre4 : ∀ tgt, Steps p.tables e below (s₁.setTop (mkF m 25 #[.val (.int p1), .val (.int p2), .val (.long q3), .second, .val (.int p4), .val (.long q5), .second, .val (.int p6), .val (.int t1), .unset, .unset, .unset, .unset, .unset, .unset, .unset, .unset] [(.int (if (p6 &&& (1 : Int32)) = (0 : Int32) then (((p6.toUInt32 >>> ((5 : Int32) &&& 31).toUInt32).toInt32) &&& (7 : Int32)) else t1))])) tgt → Steps p.tables e below (s₁.setTop (entryFrame m #[(.int p1), (.int p2), (.long q3), (.int p4), (.long q5), (.int p6)] maxLocals)) tgt := fun tgt kt_ => by
    refine pre3 _ ?_
    show Steps p.tables e below (s₁.setTop (mkF m 10 #[.val (.int p1), .val (.int p2), .val (.long q3), .second, .val (.int p4), .val (.long q5), .second, .val (.int p6), .val (.int t1), .unset, .unset, .unset, .unset, .unset, .unset, .unset, .unset] [(.int (p6 &&& (1 : Int32)))])) _
    rcases Decidable.em ((p6 &&& (1 : Int32)) = (0 : Int32)) with hj10_2 | hj10_2
    ·
      refine XS.ifYes X0.here hx rfl (pc0 := 10) (pc' := 18) rfl (hb hby at_10) rfl ((if0 _ _).trans (teq hj10_2).1) (by decide) (by decide) ?_
      show Steps p.tables e below (s₁.setTop (mkF m 18 #[.val (.int p1), .val (.int p2), .val (.long q3), .second, .val (.int p4), .val (.long q5), .second, .val (.int p6), .val (.int t1), .unset, .unset, .unset, .unset, .unset, .unset, .unset, .unset] [])) _
      refine XS.iload X0.here hx rfl (hb hby at_18) rfl ?_
      show Steps p.tables e below (s₁.setTop (mkF m 20 #[.val (.int p1), .val (.int p2), .val (.long q3), .second, .val (.int p4), .val (.long q5), .second, .val (.int p6), .val (.int t1), .unset, .unset, .unset, .unset, .unset, .unset, .unset, .unset] [(.int p6)])) _
      refine XS.iconst X0.here hx rfl (hb hby at_20) ?_
      show Steps p.tables e below (s₁.setTop (mkF m 21 #[.val (.int p1), .val (.int p2), .val (.long q3), .second, .val (.int p4), .val (.long q5), .second, .val (.int p6), .val (.int t1), .unset, .unset, .unset, .unset, .unset, .unset, .unset, .unset] [(.int (5 : Int32)), (.int p6)])) _
      refine XS.iushr X0.here hx rfl (hb hby at_21) rfl ?_
      show Steps p.tables e below (s₁.setTop (mkF m 22 #[.val (.int p1), .val (.int p2), .val (.long q3), .second, .val (.int p4), .val (.long q5), .second, .val (.int p6), .val (.int t1), .unset, .unset, .unset, .unset, .unset, .unset, .unset, .unset] [(.int ((p6.toUInt32 >>> ((5 : Int32) &&& 31).toUInt32).toInt32))])) _
      refine XS.bipush X0.here hx rfl (hb hby at_22) ?_
      show Steps p.tables e below (s₁.setTop (mkF m 24 #[.val (.int p1), .val (.int p2), .val (.long q3), .second, .val (.int p4), .val (.long q5), .second, .val (.int p6), .val (.int t1), .unset, .unset, .unset, .unset, .unset, .unset, .unset, .unset] [(.int (7 : Int32)), (.int ((p6.toUInt32 >>> ((5 : Int32) &&& 31).toUInt32).toInt32))])) _
      refine XS.iand X0.here hx rfl (hb hby at_24) rfl ?_
      show Steps p.tables e below (s₁.setTop (mkF m 25 #[.val (.int p1), .val (.int p2), .val (.long q3), .second, .val (.int p4), .val (.long q5), .second, .val (.int p6), .val (.int t1), .unset, .unset, .unset, .unset, .unset, .unset, .unset, .unset] [(.int (((p6.toUInt32 >>> ((5 : Int32) &&& 31).toUInt32).toInt32) &&& (7 : Int32)))])) _
      simp only [if_pos hj10_2] at kt_
      exact kt_
    ·
      refine XS.ifNo X0.here hx rfl (hb hby at_10) rfl ((if0 _ _).trans (feq hj10_2).1) ?_
      show Steps p.tables e below (s₁.setTop (mkF m 13 #[.val (.int p1), .val (.int p2), .val (.long q3), .second, .val (.int p4), .val (.long q5), .second, .val (.int p6), .val (.int t1), .unset, .unset, .unset, .unset, .unset, .unset, .unset, .unset] [])) _
      refine XS.iload X0.here hx rfl (hb hby at_13) rfl ?_
      show Steps p.tables e below (s₁.setTop (mkF m 15 #[.val (.int p1), .val (.int p2), .val (.long q3), .second, .val (.int p4), .val (.long q5), .second, .val (.int p6), .val (.int t1), .unset, .unset, .unset, .unset, .unset, .unset, .unset, .unset] [(.int t1)])) _
      refine XS.goto X0.here hx rfl (pc0 := 15) (pc' := 25) rfl (hb hby at_15) (by decide) (by decide) ?_
      show Steps p.tables e below (s₁.setTop (mkF m 25 #[.val (.int p1), .val (.int p2), .val (.long q3), .second, .val (.int p4), .val (.long q5), .second, .val (.int p6), .val (.int t1), .unset, .unset, .unset, .unset, .unset, .unset, .unset, .unset] [(.int t1)])) _
      simp only [if_neg hj10_2] at kt_
      exact kt_
  obtain ⟨t2, ht2⟩ : ∃ z, z = (if (p6 &&& (1 : Int32)) = (0 : Int32) then (((p6.toUInt32 >>> ((5 : Int32) &&& 31).toUInt32).toInt32) &&& (7 : Int32)) else t1) := ⟨_, rfl⟩
  rw [← ht2] at pre4
  have ho2 : t2 = 0 ∨ t2 = 1 ∨ t2 = 2 ∨ t2 = 3 ∨ t2 = 4 ∨ t2 = 5 ∨ t2 = 6 ∨ t2 = 7 := by
    rw [ht2]
    by_cases q : (p6 &&& (1 : Int32)) = (0 : Int32)
    · rw [if_pos q]; exact own_a8 _
    · rw [if_neg q]; exact ho1
  have pre6 : ∀ tgt, Steps p.tables e below (s₁.setTop (mkF m 31 #[.val (.int p1), .val (.int p2), .val (.long q3), .second, .val (.int p4), .val (.long q5), .second, .val (.int p6), .val (.int t1), .val (.int t2), .unset, .unset, .unset, .unset, .unset, .unset, .unset] [(.int (p6 &&& (2 : Int32)))])) tgt → Steps p.tables e below (s₁.setTop (entryFrame m #[(.int p1), (.int p2), (.long q3), (.int p4), (.long q5), (.int p6)] maxLocals)) tgt := fun tgt kt_ => by
    refine pre4 _ ?_
    show Steps p.tables e below (s₁.setTop (mkF m 25 #[.val (.int p1), .val (.int p2), .val (.long q3), .second, .val (.int p4), .val (.long q5), .second, .val (.int p6), .val (.int t1), .unset, .unset, .unset, .unset, .unset, .unset, .unset, .unset] [(.int t2)])) _
    refine XS.istore X0.here hx rfl (hb hby at_25) rfl (l' := #[.val (.int p1), .val (.int p2), .val (.long q3), .second, .val (.int p4), .val (.long q5), .second, .val (.int p6), .val (.int t1), .val (.int t2), .unset, .unset, .unset, .unset, .unset, .unset, .unset]) rfl ?_
    show Steps p.tables e below (s₁.setTop (mkF m 27 #[.val (.int p1), .val (.int p2), .val (.long q3), .second, .val (.int p4), .val (.long q5), .second, .val (.int p6), .val (.int t1), .val (.int t2), .unset, .unset, .unset, .unset, .unset, .unset, .unset] [])) _
    refine XS.iload X0.here hx rfl (hb hby at_27) rfl ?_
    show Steps p.tables e below (s₁.setTop (mkF m 29 #[.val (.int p1), .val (.int p2), .val (.long q3), .second, .val (.int p4), .val (.long q5), .second, .val (.int p6), .val (.int t1), .val (.int t2), .unset, .unset, .unset, .unset, .unset, .unset, .unset] [(.int p6)])) _
    refine XS.iconst X0.here hx rfl (hb hby at_29) ?_
    show Steps p.tables e below (s₁.setTop (mkF m 30 #[.val (.int p1), .val (.int p2), .val (.long q3), .second, .val (.int p4), .val (.long q5), .second, .val (.int p6), .val (.int t1), .val (.int t2), .unset, .unset, .unset, .unset, .unset, .unset, .unset] [(.int (2 : Int32)), (.int p6)])) _
    refine XS.iand X0.here hx rfl (hb hby at_30) rfl ?_
    show Steps p.tables e below (s₁.setTop (mkF m 31 #[.val (.int p1), .val (.int p2), .val (.long q3), .second, .val (.int p4), .val (.long q5), .second, .val (.int p6), .val (.int t1), .val (.int t2), .unset, .unset, .unset, .unset, .unset, .unset, .unset] [(.int (p6 &&& (2 : Int32)))])) _
    exact kt_
  have pre7 : ∀ tgt, Steps p.tables e below (s₁.setTop (mkF m 40 #[.val (.int p1), .val (.int p2), .val (.long q3), .second, .val (.int p4), .val (.long q5), .second, .val (.int p6), .val (.int t1), .val (.int t2), .unset, .unset, .unset, .unset, .unset, .unset, .unset] [(.int (if (p6 &&& (2 : Int32)) = (0 : Int32) then p4 else p2))])) tgt → Steps p.tables e below (s₁.setTop (entryFrame m #[(.int p1), (.int p2), (.long q3), (.int p4), (.long q5), (.int p6)] maxLocals)) tgt := fun tgt kt_ => by
    refine pre6 _ ?_
    show Steps p.tables e below (s₁.setTop (mkF m 31 #[.val (.int p1), .val (.int p2), .val (.long q3), .second, .val (.int p4), .val (.long q5), .second, .val (.int p6), .val (.int t1), .val (.int t2), .unset, .unset, .unset, .unset, .unset, .unset, .unset] [(.int (p6 &&& (2 : Int32)))])) _
    rcases Decidable.em ((p6 &&& (2 : Int32)) = (0 : Int32)) with hj31_5 | hj31_5
    ·
      refine XS.ifYes X0.here hx rfl (pc0 := 31) (pc' := 38) rfl (hb hby at_31) rfl ((if0 _ _).trans (teq hj31_5).1) (by decide) (by decide) ?_
      show Steps p.tables e below (s₁.setTop (mkF m 38 #[.val (.int p1), .val (.int p2), .val (.long q3), .second, .val (.int p4), .val (.long q5), .second, .val (.int p6), .val (.int t1), .val (.int t2), .unset, .unset, .unset, .unset, .unset, .unset, .unset] [])) _
      refine XS.iload X0.here hx rfl (hb hby at_38) rfl ?_
      show Steps p.tables e below (s₁.setTop (mkF m 40 #[.val (.int p1), .val (.int p2), .val (.long q3), .second, .val (.int p4), .val (.long q5), .second, .val (.int p6), .val (.int t1), .val (.int t2), .unset, .unset, .unset, .unset, .unset, .unset, .unset] [(.int p4)])) _
      simp only [if_pos hj31_5] at kt_
      exact kt_
    ·
      refine XS.ifNo X0.here hx rfl (hb hby at_31) rfl ((if0 _ _).trans (feq hj31_5).1) ?_
      show Steps p.tables e below (s₁.setTop (mkF m 34 #[.val (.int p1), .val (.int p2), .val (.long q3), .second, .val (.int p4), .val (.long q5), .second, .val (.int p6), .val (.int t1), .val (.int t2), .unset, .unset, .unset, .unset, .unset, .unset, .unset] [])) _
      refine XS.iloadN X0.here hx rfl (hb hby at_34) rfl ?_
      show Steps p.tables e below (s₁.setTop (mkF m 35 #[.val (.int p1), .val (.int p2), .val (.long q3), .second, .val (.int p4), .val (.long q5), .second, .val (.int p6), .val (.int t1), .val (.int t2), .unset, .unset, .unset, .unset, .unset, .unset, .unset] [(.int p2)])) _
      refine XS.goto X0.here hx rfl (pc0 := 35) (pc' := 40) rfl (hb hby at_35) (by decide) (by decide) ?_
      show Steps p.tables e below (s₁.setTop (mkF m 40 #[.val (.int p1), .val (.int p2), .val (.long q3), .second, .val (.int p4), .val (.long q5), .second, .val (.int p6), .val (.int t1), .val (.int t2), .unset, .unset, .unset, .unset, .unset, .unset, .unset] [(.int p2)])) _
      simp only [if_neg hj31_5] at kt_
      exact kt_
  obtain ⟨a2, ha2⟩ : ∃ z, z = (if (p6 &&& (2 : Int32)) = (0 : Int32) then p4 else p2) := ⟨_, rfl⟩
  rw [← ha2] at pre7
  have pre9 : ∀ tgt, Steps p.tables e below (s₁.setTop (mkF m 46 #[.val (.int p1), .val (.int p2), .val (.long q3), .second, .val (.int p4), .val (.long q5), .second, .val (.int p6), .val (.int t1), .val (.int t2), .val (.int a2), .unset, .unset, .unset, .unset, .unset, .unset] [(.int (p6 &&& (4 : Int32)))])) tgt → Steps p.tables e below (s₁.setTop (entryFrame m #[(.int p1), (.int p2), (.long q3), (.int p4), (.long q5), (.int p6)] maxLocals)) tgt := fun tgt kt_ => by
    refine pre7 _ ?_
    show Steps p.tables e below (s₁.setTop (mkF m 40 #[.val (.int p1), .val (.int p2), .val (.long q3), .second, .val (.int p4), .val (.long q5), .second, .val (.int p6), .val (.int t1), .val (.int t2), .unset, .unset, .unset, .unset, .unset, .unset, .unset] [(.int a2)])) _
    refine XS.istore X0.here hx rfl (hb hby at_40) rfl (l' := #[.val (.int p1), .val (.int p2), .val (.long q3), .second, .val (.int p4), .val (.long q5), .second, .val (.int p6), .val (.int t1), .val (.int t2), .val (.int a2), .unset, .unset, .unset, .unset, .unset, .unset]) rfl ?_
    show Steps p.tables e below (s₁.setTop (mkF m 42 #[.val (.int p1), .val (.int p2), .val (.long q3), .second, .val (.int p4), .val (.long q5), .second, .val (.int p6), .val (.int t1), .val (.int t2), .val (.int a2), .unset, .unset, .unset, .unset, .unset, .unset] [])) _
    refine XS.iload X0.here hx rfl (hb hby at_42) rfl ?_
    show Steps p.tables e below (s₁.setTop (mkF m 44 #[.val (.int p1), .val (.int p2), .val (.long q3), .second, .val (.int p4), .val (.long q5), .second, .val (.int p6), .val (.int t1), .val (.int t2), .val (.int a2), .unset, .unset, .unset, .unset, .unset, .unset] [(.int p6)])) _
    refine XS.iconst X0.here hx rfl (hb hby at_44) ?_
    show Steps p.tables e below (s₁.setTop (mkF m 45 #[.val (.int p1), .val (.int p2), .val (.long q3), .second, .val (.int p4), .val (.long q5), .second, .val (.int p6), .val (.int t1), .val (.int t2), .val (.int a2), .unset, .unset, .unset, .unset, .unset, .unset] [(.int (4 : Int32)), (.int p6)])) _
    refine XS.iand X0.here hx rfl (hb hby at_45) rfl ?_
    show Steps p.tables e below (s₁.setTop (mkF m 46 #[.val (.int p1), .val (.int p2), .val (.long q3), .second, .val (.int p4), .val (.long q5), .second, .val (.int p6), .val (.int t1), .val (.int t2), .val (.int a2), .unset, .unset, .unset, .unset, .unset, .unset] [(.int (p6 &&& (4 : Int32)))])) _
    exact kt_
  have pre10 : ∀ tgt, Steps p.tables e below (s₁.setTop (mkF m 55 #[.val (.int p1), .val (.int p2), .val (.long q3), .second, .val (.int p4), .val (.long q5), .second, .val (.int p6), .val (.int t1), .val (.int t2), .val (.int a2), .unset, .unset, .unset, .unset, .unset, .unset] [(.long (if (p6 &&& (4 : Int32)) = (0 : Int32) then q5 else q3))])) tgt → Steps p.tables e below (s₁.setTop (entryFrame m #[(.int p1), (.int p2), (.long q3), (.int p4), (.long q5), (.int p6)] maxLocals)) tgt := fun tgt kt_ => by
    refine pre9 _ ?_
    show Steps p.tables e below (s₁.setTop (mkF m 46 #[.val (.int p1), .val (.int p2), .val (.long q3), .second, .val (.int p4), .val (.long q5), .second, .val (.int p6), .val (.int t1), .val (.int t2), .val (.int a2), .unset, .unset, .unset, .unset, .unset, .unset] [(.int (p6 &&& (4 : Int32)))])) _
    rcases Decidable.em ((p6 &&& (4 : Int32)) = (0 : Int32)) with hj46_8 | hj46_8
    ·
      refine XS.ifYes X0.here hx rfl (pc0 := 46) (pc' := 53) rfl (hb hby at_46) rfl ((if0 _ _).trans (teq hj46_8).1) (by decide) (by decide) ?_
      show Steps p.tables e below (s₁.setTop (mkF m 53 #[.val (.int p1), .val (.int p2), .val (.long q3), .second, .val (.int p4), .val (.long q5), .second, .val (.int p6), .val (.int t1), .val (.int t2), .val (.int a2), .unset, .unset, .unset, .unset, .unset, .unset] [])) _
      refine XS.lload X0.here hx rfl (hb hby at_53) rfl ?_
      show Steps p.tables e below (s₁.setTop (mkF m 55 #[.val (.int p1), .val (.int p2), .val (.long q3), .second, .val (.int p4), .val (.long q5), .second, .val (.int p6), .val (.int t1), .val (.int t2), .val (.int a2), .unset, .unset, .unset, .unset, .unset, .unset] [(.long q5)])) _
      simp only [if_pos hj46_8] at kt_
      exact kt_
    ·
      refine XS.ifNo X0.here hx rfl (hb hby at_46) rfl ((if0 _ _).trans (feq hj46_8).1) ?_
      show Steps p.tables e below (s₁.setTop (mkF m 49 #[.val (.int p1), .val (.int p2), .val (.long q3), .second, .val (.int p4), .val (.long q5), .second, .val (.int p6), .val (.int t1), .val (.int t2), .val (.int a2), .unset, .unset, .unset, .unset, .unset, .unset] [])) _
      refine XS.lloadN X0.here hx rfl (hb hby at_49) rfl ?_
      show Steps p.tables e below (s₁.setTop (mkF m 50 #[.val (.int p1), .val (.int p2), .val (.long q3), .second, .val (.int p4), .val (.long q5), .second, .val (.int p6), .val (.int t1), .val (.int t2), .val (.int a2), .unset, .unset, .unset, .unset, .unset, .unset] [(.long q3)])) _
      refine XS.goto X0.here hx rfl (pc0 := 50) (pc' := 55) rfl (hb hby at_50) (by decide) (by decide) ?_
      show Steps p.tables e below (s₁.setTop (mkF m 55 #[.val (.int p1), .val (.int p2), .val (.long q3), .second, .val (.int p4), .val (.long q5), .second, .val (.int p6), .val (.int t1), .val (.int t2), .val (.int a2), .unset, .unset, .unset, .unset, .unset, .unset] [(.long q3)])) _
      simp only [if_neg hj46_8] at kt_
      exact kt_
  obtain ⟨g2, hg2⟩ : ∃ z, z = (if (p6 &&& (4 : Int32)) = (0 : Int32) then q5 else q3) := ⟨_, rfl⟩
  rw [← hg2] at pre10
  obtain ⟨T11, h11, X11, eh11, Ee11, A11, D11, U11, st11⟩ := newO X0 hx hZ hown (hw _ (List.mem_of_getElem? (i := 0) rfl)) (hw _ (List.mem_of_getElem? (i := 1) rfl)) (hw _ (List.mem_of_getElem? (i := 2) rfl)) e0 (g := (mkF m 57 #[.val (.int p1), .val (.int p2), .val (.long q3), .second, .val (.int p4), .val (.long q5), .second, .val (.int p6), .val (.int t1), .val (.int t2), .val (.int a2), .val (.long g2), .second, .unset, .unset, .unset, .unset] [])) rfl (hb hby at_57) (by decide) (by decide)
  obtain ⟨b11, g11⟩ : ∃ z, z = h0.size := ⟨_, rfl⟩
  rw [← g11] at A11 D11 st11
  have gf_b11 : n0 ≤ b11 := Nat.le_trans Z0 (Nat.le_of_eq g11.symm)
  have Zs12 : n0 ≤ h11.size := Nat.le_trans Z0 Ee11.1
  have O12 := O0.ext Ee11
  have F_majorType_b11 : Fld Z h11 b11 "com/example/chronotag/chronotag/codec/Head" "majorType" "Lcom/example/chronotag/chronotag/codec/MajorType;" .null := D11 (Or.inr (hw _ (List.mem_of_getElem? (i := 17) rfl))) (ty := (.object "com/example/chronotag/chronotag/codec/MajorType")) (by decide)
  have F_additionalInfo_b11 : Fld Z h11 b11 "com/example/chronotag/chronotag/codec/Head" "additionalInfo" "I" (.int (0 : Int32)) := D11 (Or.inr (hw _ (List.mem_of_getElem? (i := 19) rfl))) (ty := .int) (by decide)
  have F_argument_b11 : Fld Z h11 b11 "com/example/chronotag/chronotag/codec/Head" "argument" "J" (.long (0 : Int64)) := D11 (Or.inr (hw _ (List.mem_of_getElem? (i := 21) rfl))) (ty := .long) (by decide)
  have c13 := S0.ext O12.2
  have c14 := S1.ext O12.2
  have c15 := S2.ext O12.2
  have c16 := S3.ext O12.2
  have c17 := S4.ext O12.2
  have c18 := S5.ext O12.2
  have c19 := S6.ext O12.2
  have c20 := S7.ext O12.2
  obtain ⟨_, _, ⟨T21, L21, k21, n21⟩, -, X21, ⟨Lc21, hQ21, l21, y21, z21⟩, st21⟩ := Jvm.LawKit.callS X11 hx (y := (⟨"com/example/chronotag/chronotag/codec/HeadEqualsPinLaw", "type", "(I)Lcom/example/chronotag/chronotag/codec/MajorType;"⟩ : MethodName)) hown (mvT hZ (hw _ (List.mem_of_getElem? (i := 3) rfl))) (mvT hZ (hw _ (List.mem_of_getElem? (i := 4) rfl))) (mvT hZ (hw _ (List.mem_of_getElem? (i := 5) rfl))) (mvT hZ (hw _ (List.mem_of_getElem? (i := 6) rfl))) (by decide) (backOf (W := 2) (rmT l Z a0 hw [] t1 w0 w1 w2 w3 w4 w5 w6 w7 h11 n0 Zs12 c13 c14 c15 c16 c17 c18 c19 c20) hZ (hw _ (List.mem_of_getElem? (i := 6) rfl)) (hw _ (List.mem_of_getElem? (i := 5) rfl)) (by decide) (by decide)) (g := (mkF m 63 #[.val (.int p1), .val (.int p2), .val (.long q3), .second, .val (.int p4), .val (.long q5), .second, .val (.int p6), .val (.int t1), .val (.int t2), .val (.int a2), .val (.long g2), .second, .unset, .unset, .unset, .unset] [(.int t1), (.ref b11), (.ref b11)])) rfl (by rw [hml]; rfl) (argsL := [(.int t1)]) (rest := [(.ref b11), (.ref b11)]) (lenOf own_pd2 rfl) rfl (by show 2 * 0 + _ ≤ _; exact Nat.le_of_eq rfl) (hb hby at_63) (fun _ _ => ⟨rfl, eh11, (by decide : 1 + 0 ≤ _), (by decide : 3 + 0 ≤ _)⟩)
  dsimp only [Pt.U, Pt.locs, Pt.cells, Pt.slots] at X21 l21 y21 z21 st21 hQ21
  subst l21 y21 z21
  obtain ⟨rfl, N21q, eq21⟩ := hQ21
  have N21 := Fr.app N0 N21q
  have pre22 : ∀ tgt, Steps p.tables e below (T21.setTop (mkF m 66 #[.val (.int p1), .val (.int p2), .val (.long q3), .second, .val (.int p4), .val (.long q5), .second, .val (.int p6), .val (.int t1), .val (.int t2), .val (.int a2), .val (.long g2), .second, .unset, .unset, .unset, .unset] [(.ref (own_ty w0 w1 w2 w3 w4 w5 w6 w7 t1)), (.ref b11), (.ref b11)])) tgt → Steps p.tables e below (s₁.setTop (entryFrame m #[(.int p1), (.int p2), (.long q3), (.int p4), (.long q5), (.int p6)] maxLocals)) tgt := fun tgt kt_ => by
    refine pre10 _ ?_
    show Steps p.tables e below (s₁.setTop (mkF m 55 #[.val (.int p1), .val (.int p2), .val (.long q3), .second, .val (.int p4), .val (.long q5), .second, .val (.int p6), .val (.int t1), .val (.int t2), .val (.int a2), .unset, .unset, .unset, .unset, .unset, .unset] [(.long g2)])) _
    refine XS.lstore X0.here hx rfl (hb hby at_55) rfl (l' := #[.val (.int p1), .val (.int p2), .val (.long q3), .second, .val (.int p4), .val (.long q5), .second, .val (.int p6), .val (.int t1), .val (.int t2), .val (.int a2), .val (.long g2), .second, .unset, .unset, .unset, .unset]) rfl ?_
    show Steps p.tables e below (s₁.setTop (mkF m 57 #[.val (.int p1), .val (.int p2), .val (.long q3), .second, .val (.int p4), .val (.long q5), .second, .val (.int p6), .val (.int t1), .val (.int t2), .val (.int a2), .val (.long g2), .second, .unset, .unset, .unset, .unset] [])) _
    refine st11 _ ?_
    show Steps p.tables e below (T11.setTop (mkF m 60 #[.val (.int p1), .val (.int p2), .val (.long q3), .second, .val (.int p4), .val (.long q5), .second, .val (.int p6), .val (.int t1), .val (.int t2), .val (.int a2), .val (.long g2), .second, .unset, .unset, .unset, .unset] [(.ref b11)])) _
    refine XS.dup X11.here hx rfl (hb hby at_60) rfl rfl ?_
    show Steps p.tables e below (T11.setTop (mkF m 61 #[.val (.int p1), .val (.int p2), .val (.long q3), .second, .val (.int p4), .val (.long q5), .second, .val (.int p6), .val (.int t1), .val (.int t2), .val (.int a2), .val (.long g2), .second, .unset, .unset, .unset, .unset] [(.ref b11), (.ref b11)])) _
    refine XS.iload X11.here hx rfl (hb hby at_61) rfl ?_
    show Steps p.tables e below (T11.setTop (mkF m 63 #[.val (.int p1), .val (.int p2), .val (.long q3), .second, .val (.int p4), .val (.long q5), .second, .val (.int p6), .val (.int t1), .val (.int t2), .val (.int a2), .val (.long g2), .second, .unset, .unset, .unset, .unset] [(.int t1), (.ref b11), (.ref b11)])) _
    refine st21 _ ?_
    show Steps p.tables e below (T21.setTop (mkF m 66 #[.val (.int p1), .val (.int p2), .val (.long q3), .second, .val (.int p4), .val (.long q5), .second, .val (.int p6), .val (.int t1), .val (.int t2), .val (.int a2), .val (.long g2), .second, .unset, .unset, .unset, .unset] [(.ref (own_ty w0 w1 w2 w3 w4 w5 w6 w7 t1)), (.ref b11), (.ref b11)])) _
    exact kt_
  obtain ⟨u1, hu1⟩ : ∃ z, z = (own_ty w0 w1 w2 w3 w4 w5 w6 w7 t1) := ⟨_, rfl⟩
  rw [← hu1] at pre22
  have Fo1 := own_ord F0 F1 F2 F3 F4 F5 F6 F7 ho1
  rw [← hu1] at Fo1
  obtain ⟨_, _, ⟨T23, L23, k23, n23⟩, -, X23, ⟨Lc23, hQ23, l23, y23, z23⟩, st23⟩ := X21.specialBack hx (y := (⟨"com/example/chronotag/chronotag/codec/Head", "<init>", "(Lcom/example/chronotag/chronotag/codec/MajorType;IJ)V"⟩ : MethodName)) rfl hown (mvT hZ (hw _ (List.mem_of_getElem? (i := 10) rfl))) (mvT hZ (hw _ (List.mem_of_getElem? (i := 11) rfl))) (mvT hZ (hw _ (List.mem_of_getElem? (i := 12) rfl))) (by decide) (backOf (W := 1) (rmC l Z a0 hw [] b11 u1 p2 q3 h11 n0 Zs12 A11 F_majorType_b11 F_additionalInfo_b11 F_argument_b11 gf_b11) hZ (hw _ (List.mem_of_getElem? (i := 12) rfl)) (hw _ (List.mem_of_getElem? (i := 2) rfl)) (by decide) (by decide)) (g := (mkF m 68 #[.val (.int p1), .val (.int p2), .val (.long q3), .second, .val (.int p4), .val (.long q5), .second, .val (.int p6), .val (.int t1), .val (.int t2), .val (.int a2), .val (.long g2), .second, .unset, .unset, .unset, .unset] [(.long q3), (.int p2), (.ref u1), (.ref b11), (.ref b11)])) rfl (by rw [hml]; rfl) (Steps.refl _) (a := b11) (argsL := [(.ref u1), (.int p2), (.long q3)]) (rest := [(.ref b11)]) (lenOf own_pd3 rfl) rfl (by show 2 * 0 + _ ≤ _; exact Nat.le_of_eq rfl) (hb hby at_68) (fun _ _ => ⟨rfl, eq21, (by decide : 1 + 0 ≤ _), (by decide : 3 + 0 ≤ _)⟩)
  dsimp only [Pt.U, Pt.locs, Pt.cells, Pt.slots] at X23 l23 y23 z23 st23 hQ23
  subst l23 y23 z23
  obtain ⟨rfl, N23q, K23, A23, Fh0_23, Fh1_23, Fh2_23⟩ := hQ23
  have N23 := Fr.app N21 N23q
  have Zs24 : n0 ≤ T23.heap.size := Nat.le_trans Zs12 K23.1
  have O24 := O12.keep K23 (allS gf_b11 all0)
  obtain ⟨T25, h25, X25, eh25, Ee25, A25, D25, U25, st25⟩ := newO X23 hx hZ hown (hw _ (List.mem_of_getElem? (i := 0) rfl)) (hw _ (List.mem_of_getElem? (i := 1) rfl)) (hw _ (List.mem_of_getElem? (i := 2) rfl)) rfl (g := (mkF m 73 #[.val (.int p1), .val (.int p2), .val (.long q3), .second, .val (.int p4), .val (.long q5), .second, .val (.int p6), .val (.int t1), .val (.int t2), .val (.int a2), .val (.long g2), .second, .val (.ref b11), .unset, .unset, .unset] [])) rfl (hb hby at_73) (by decide) (by decide)
  obtain ⟨b25, g25⟩ : ∃ z, z = T23.heap.size := ⟨_, rfl⟩
  rw [← g25] at A25 D25 st25
  have ne_b11_b25 : b11 ≠ b25 := Nat.ne_of_lt (Nat.lt_of_lt_of_le A23.lt (Nat.le_of_eq g25.symm))
  have gf_b25 : n0 ≤ b25 := Nat.le_trans Zs24 (Nat.le_of_eq g25.symm)
  have Zs26 : n0 ≤ h25.size := Nat.le_trans Zs24 Ee25.1
  have O26 := O24.ext Ee25
  have F_majorType_b25 : Fld Z h25 b25 "com/example/chronotag/chronotag/codec/Head" "majorType" "Lcom/example/chronotag/chronotag/codec/MajorType;" .null := D25 (Or.inr (hw _ (List.mem_of_getElem? (i := 17) rfl))) (ty := (.object "com/example/chronotag/chronotag/codec/MajorType")) (by decide)
  have F_additionalInfo_b25 : Fld Z h25 b25 "com/example/chronotag/chronotag/codec/Head" "additionalInfo" "I" (.int (0 : Int32)) := D25 (Or.inr (hw _ (List.mem_of_getElem? (i := 19) rfl))) (ty := .int) (by decide)
  have F_argument_b25 : Fld Z h25 b25 "com/example/chronotag/chronotag/codec/Head" "argument" "J" (.long (0 : Int64)) := D25 (Or.inr (hw _ (List.mem_of_getElem? (i := 21) rfl))) (ty := .long) (by decide)
  have c27 := S0.ext O26.2
  have c28 := S1.ext O26.2
  have c29 := S2.ext O26.2
  have c30 := S3.ext O26.2
  have c31 := S4.ext O26.2
  have c32 := S5.ext O26.2
  have c33 := S6.ext O26.2
  have c34 := S7.ext O26.2
  obtain ⟨_, _, ⟨T35, L35, k35, n35⟩, -, X35, ⟨Lc35, hQ35, l35, y35, z35⟩, st35⟩ := Jvm.LawKit.callS X25 hx (y := (⟨"com/example/chronotag/chronotag/codec/HeadEqualsPinLaw", "type", "(I)Lcom/example/chronotag/chronotag/codec/MajorType;"⟩ : MethodName)) hown (mvT hZ (hw _ (List.mem_of_getElem? (i := 3) rfl))) (mvT hZ (hw _ (List.mem_of_getElem? (i := 4) rfl))) (mvT hZ (hw _ (List.mem_of_getElem? (i := 5) rfl))) (mvT hZ (hw _ (List.mem_of_getElem? (i := 6) rfl))) (by decide) (backOf (W := 2) (rmT l Z a0 hw [] t2 w0 w1 w2 w3 w4 w5 w6 w7 h25 n0 Zs26 c27 c28 c29 c30 c31 c32 c33 c34) hZ (hw _ (List.mem_of_getElem? (i := 6) rfl)) (hw _ (List.mem_of_getElem? (i := 5) rfl)) (by decide) (by decide)) (g := (mkF m 79 #[.val (.int p1), .val (.int p2), .val (.long q3), .second, .val (.int p4), .val (.long q5), .second, .val (.int p6), .val (.int t1), .val (.int t2), .val (.int a2), .val (.long g2), .second, .val (.ref b11), .unset, .unset, .unset] [(.int t2), (.ref b25), (.ref b25)])) rfl (by rw [hml]; rfl) (argsL := [(.int t2)]) (rest := [(.ref b25), (.ref b25)]) (lenOf own_pd2 rfl) rfl (by show 2 * 0 + _ ≤ _; exact Nat.le_of_eq rfl) (hb hby at_79) (fun _ _ => ⟨rfl, eh25, (by decide : 2 + 0 ≤ _), (by decide : 6 + 0 ≤ _)⟩)
  dsimp only [Pt.U, Pt.locs, Pt.cells, Pt.slots] at X35 l35 y35 z35 st35 hQ35
  subst l35 y35 z35
  obtain ⟨rfl, N35q, eq35⟩ := hQ35
  have N35 := Fr.app N23 N35q
  have pre36 : ∀ tgt, Steps p.tables e below (T35.setTop (mkF m 82 #[.val (.int p1), .val (.int p2), .val (.long q3), .second, .val (.int p4), .val (.long q5), .second, .val (.int p6), .val (.int t1), .val (.int t2), .val (.int a2), .val (.long g2), .second, .val (.ref b11), .unset, .unset, .unset] [(.ref (own_ty w0 w1 w2 w3 w4 w5 w6 w7 t2)), (.ref b25), (.ref b25)])) tgt → Steps p.tables e below (s₁.setTop (entryFrame m #[(.int p1), (.int p2), (.long q3), (.int p4), (.long q5), (.int p6)] maxLocals)) tgt := fun tgt kt_ => by
    refine pre22 _ ?_
    show Steps p.tables e below (T21.setTop (mkF m 66 #[.val (.int p1), .val (.int p2), .val (.long q3), .second, .val (.int p4), .val (.long q5), .second, .val (.int p6), .val (.int t1), .val (.int t2), .val (.int a2), .val (.long g2), .second, .unset, .unset, .unset, .unset] [(.ref u1), (.ref b11), (.ref b11)])) _
    refine XS.iloadN X21.here hx rfl (hb hby at_66) rfl ?_
    show Steps p.tables e below (T21.setTop (mkF m 67 #[.val (.int p1), .val (.int p2), .val (.long q3), .second, .val (.int p4), .val (.long q5), .second, .val (.int p6), .val (.int t1), .val (.int t2), .val (.int a2), .val (.long g2), .second, .unset, .unset, .unset, .unset] [(.int p2), (.ref u1), (.ref b11), (.ref b11)])) _
    refine XS.lloadN X21.here hx rfl (hb hby at_67) rfl ?_
    show Steps p.tables e below (T21.setTop (mkF m 68 #[.val (.int p1), .val (.int p2), .val (.long q3), .second, .val (.int p4), .val (.long q5), .second, .val (.int p6), .val (.int t1), .val (.int t2), .val (.int a2), .val (.long g2), .second, .unset, .unset, .unset, .unset] [(.long q3), (.int p2), (.ref u1), (.ref b11), (.ref b11)])) _
    refine st23.trans ?_
    show Steps p.tables e below (T23.setTop (mkF m 71 #[.val (.int p1), .val (.int p2), .val (.long q3), .second, .val (.int p4), .val (.long q5), .second, .val (.int p6), .val (.int t1), .val (.int t2), .val (.int a2), .val (.long g2), .second, .unset, .unset, .unset, .unset] [(.ref b11)])) _
    refine XS.astore X23.here hx rfl (hb hby at_71) rfl rfl (l' := #[.val (.int p1), .val (.int p2), .val (.long q3), .second, .val (.int p4), .val (.long q5), .second, .val (.int p6), .val (.int t1), .val (.int t2), .val (.int a2), .val (.long g2), .second, .val (.ref b11), .unset, .unset, .unset]) rfl ?_
    show Steps p.tables e below (T23.setTop (mkF m 73 #[.val (.int p1), .val (.int p2), .val (.long q3), .second, .val (.int p4), .val (.long q5), .second, .val (.int p6), .val (.int t1), .val (.int t2), .val (.int a2), .val (.long g2), .second, .val (.ref b11), .unset, .unset, .unset] [])) _
    refine st25 _ ?_
    show Steps p.tables e below (T25.setTop (mkF m 76 #[.val (.int p1), .val (.int p2), .val (.long q3), .second, .val (.int p4), .val (.long q5), .second, .val (.int p6), .val (.int t1), .val (.int t2), .val (.int a2), .val (.long g2), .second, .val (.ref b11), .unset, .unset, .unset] [(.ref b25)])) _
    refine XS.dup X25.here hx rfl (hb hby at_76) rfl rfl ?_
    show Steps p.tables e below (T25.setTop (mkF m 77 #[.val (.int p1), .val (.int p2), .val (.long q3), .second, .val (.int p4), .val (.long q5), .second, .val (.int p6), .val (.int t1), .val (.int t2), .val (.int a2), .val (.long g2), .second, .val (.ref b11), .unset, .unset, .unset] [(.ref b25), (.ref b25)])) _
    refine XS.iload X25.here hx rfl (hb hby at_77) rfl ?_
    show Steps p.tables e below (T25.setTop (mkF m 79 #[.val (.int p1), .val (.int p2), .val (.long q3), .second, .val (.int p4), .val (.long q5), .second, .val (.int p6), .val (.int t1), .val (.int t2), .val (.int a2), .val (.long g2), .second, .val (.ref b11), .unset, .unset, .unset] [(.int t2), (.ref b25), (.ref b25)])) _
    refine st35 _ ?_
    show Steps p.tables e below (T35.setTop (mkF m 82 #[.val (.int p1), .val (.int p2), .val (.long q3), .second, .val (.int p4), .val (.long q5), .second, .val (.int p6), .val (.int t1), .val (.int t2), .val (.int a2), .val (.long g2), .second, .val (.ref b11), .unset, .unset, .unset] [(.ref (own_ty w0 w1 w2 w3 w4 w5 w6 w7 t2)), (.ref b25), (.ref b25)])) _
    exact kt_
  obtain ⟨u2, hu2⟩ : ∃ z, z = (own_ty w0 w1 w2 w3 w4 w5 w6 w7 t2) := ⟨_, rfl⟩
  rw [← hu2] at pre36
  have Fo2 := own_ord F0 F1 F2 F3 F4 F5 F6 F7 ho2
  rw [← hu2] at Fo2
  have hinj : u1 = u2 ↔ t1 = t2 := own_inj Fo1 Fo2 (fun q => by rw [hu1, hu2, q])
  obtain ⟨_, _, ⟨T37, L37, k37, n37⟩, -, X37, ⟨Lc37, hQ37, l37, y37, z37⟩, st37⟩ := X35.specialBack hx (y := (⟨"com/example/chronotag/chronotag/codec/Head", "<init>", "(Lcom/example/chronotag/chronotag/codec/MajorType;IJ)V"⟩ : MethodName)) rfl hown (mvT hZ (hw _ (List.mem_of_getElem? (i := 10) rfl))) (mvT hZ (hw _ (List.mem_of_getElem? (i := 11) rfl))) (mvT hZ (hw _ (List.mem_of_getElem? (i := 12) rfl))) (by decide) (backOf (W := 1) (rmC l Z a0 hw [] b25 u2 a2 g2 h25 n0 Zs26 A25 F_majorType_b25 F_additionalInfo_b25 F_argument_b25 gf_b25) hZ (hw _ (List.mem_of_getElem? (i := 12) rfl)) (hw _ (List.mem_of_getElem? (i := 2) rfl)) (by decide) (by decide)) (g := (mkF m 86 #[.val (.int p1), .val (.int p2), .val (.long q3), .second, .val (.int p4), .val (.long q5), .second, .val (.int p6), .val (.int t1), .val (.int t2), .val (.int a2), .val (.long g2), .second, .val (.ref b11), .unset, .unset, .unset] [(.long g2), (.int a2), (.ref u2), (.ref b25), (.ref b25)])) rfl (by rw [hml]; rfl) (Steps.refl _) (a := b25) (argsL := [(.ref u2), (.int a2), (.long g2)]) (rest := [(.ref b25)]) (lenOf own_pd3 rfl) rfl (by show 2 * 0 + _ ≤ _; exact Nat.le_of_eq rfl) (hb hby at_86) (fun _ _ => ⟨rfl, eq35, (by decide : 2 + 0 ≤ _), (by decide : 6 + 0 ≤ _)⟩)
  dsimp only [Pt.U, Pt.locs, Pt.cells, Pt.slots] at X37 l37 y37 z37 st37 hQ37
  subst l37 y37 z37
  obtain ⟨rfl, N37q, K37, A37, Fh0_37, Fh1_37, Fh2_37⟩ := hQ37
  have N37 := Fr.app N35 N37q
  have Zs38 : n0 ≤ T37.heap.size := Nat.le_trans Zs26 K37.1
  have O38 := O26.keep K37 (allS gf_b25 all0)
  have pre39 : ∀ tgt, Steps p.tables e below (T37.setTop (mkF m 102 #[.val (.int p1), .val (.int p2), .val (.long q3), .second, .val (.int p4), .val (.long q5), .second, .val (.int p6), .val (.int t1), .val (.int t2), .val (.int a2), .val (.long g2), .second, .val (.ref b11), .val (.ref b25), .val (.int (((p6.toUInt32 >>> ((3 : Int32) &&& 31).toUInt32).toInt32) &&& (3 : Int32))), .unset] [(.int (1 : Int32)), (.int (((p6.toUInt32 >>> ((3 : Int32) &&& 31).toUInt32).toInt32) &&& (3 : Int32)))])) tgt → Steps p.tables e below (s₁.setTop (entryFrame m #[(.int p1), (.int p2), (.long q3), (.int p4), (.long q5), (.int p6)] maxLocals)) tgt := fun tgt kt_ => by
    refine pre36 _ ?_
    show Steps p.tables e below (T35.setTop (mkF m 82 #[.val (.int p1), .val (.int p2), .val (.long q3), .second, .val (.int p4), .val (.long q5), .second, .val (.int p6), .val (.int t1), .val (.int t2), .val (.int a2), .val (.long g2), .second, .val (.ref b11), .unset, .unset, .unset] [(.ref u2), (.ref b25), (.ref b25)])) _
    refine XS.iload X35.here hx rfl (hb hby at_82) rfl ?_
    show Steps p.tables e below (T35.setTop (mkF m 84 #[.val (.int p1), .val (.int p2), .val (.long q3), .second, .val (.int p4), .val (.long q5), .second, .val (.int p6), .val (.int t1), .val (.int t2), .val (.int a2), .val (.long g2), .second, .val (.ref b11), .unset, .unset, .unset] [(.int a2), (.ref u2), (.ref b25), (.ref b25)])) _
    refine XS.lload X35.here hx rfl (hb hby at_84) rfl ?_
    show Steps p.tables e below (T35.setTop (mkF m 86 #[.val (.int p1), .val (.int p2), .val (.long q3), .second, .val (.int p4), .val (.long q5), .second, .val (.int p6), .val (.int t1), .val (.int t2), .val (.int a2), .val (.long g2), .second, .val (.ref b11), .unset, .unset, .unset] [(.long g2), (.int a2), (.ref u2), (.ref b25), (.ref b25)])) _
    refine st37.trans ?_
    show Steps p.tables e below (T37.setTop (mkF m 89 #[.val (.int p1), .val (.int p2), .val (.long q3), .second, .val (.int p4), .val (.long q5), .second, .val (.int p6), .val (.int t1), .val (.int t2), .val (.int a2), .val (.long g2), .second, .val (.ref b11), .unset, .unset, .unset] [(.ref b25)])) _
    refine XS.astore X37.here hx rfl (hb hby at_89) rfl rfl (l' := #[.val (.int p1), .val (.int p2), .val (.long q3), .second, .val (.int p4), .val (.long q5), .second, .val (.int p6), .val (.int t1), .val (.int t2), .val (.int a2), .val (.long g2), .second, .val (.ref b11), .val (.ref b25), .unset, .unset]) rfl ?_
    show Steps p.tables e below (T37.setTop (mkF m 91 #[.val (.int p1), .val (.int p2), .val (.long q3), .second, .val (.int p4), .val (.long q5), .second, .val (.int p6), .val (.int t1), .val (.int t2), .val (.int a2), .val (.long g2), .second, .val (.ref b11), .val (.ref b25), .unset, .unset] [])) _
    refine XS.iload X37.here hx rfl (hb hby at_91) rfl ?_
    show Steps p.tables e below (T37.setTop (mkF m 93 #[.val (.int p1), .val (.int p2), .val (.long q3), .second, .val (.int p4), .val (.long q5), .second, .val (.int p6), .val (.int t1), .val (.int t2), .val (.int a2), .val (.long g2), .second, .val (.ref b11), .val (.ref b25), .unset, .unset] [(.int p6)])) _
    refine XS.iconst X37.here hx rfl (hb hby at_93) ?_
    show Steps p.tables e below (T37.setTop (mkF m 94 #[.val (.int p1), .val (.int p2), .val (.long q3), .second, .val (.int p4), .val (.long q5), .second, .val (.int p6), .val (.int t1), .val (.int t2), .val (.int a2), .val (.long g2), .second, .val (.ref b11), .val (.ref b25), .unset, .unset] [(.int (3 : Int32)), (.int p6)])) _
    refine XS.iushr X37.here hx rfl (hb hby at_94) rfl ?_
    show Steps p.tables e below (T37.setTop (mkF m 95 #[.val (.int p1), .val (.int p2), .val (.long q3), .second, .val (.int p4), .val (.long q5), .second, .val (.int p6), .val (.int t1), .val (.int t2), .val (.int a2), .val (.long g2), .second, .val (.ref b11), .val (.ref b25), .unset, .unset] [(.int ((p6.toUInt32 >>> ((3 : Int32) &&& 31).toUInt32).toInt32))])) _
    refine XS.iconst X37.here hx rfl (hb hby at_95) ?_
    show Steps p.tables e below (T37.setTop (mkF m 96 #[.val (.int p1), .val (.int p2), .val (.long q3), .second, .val (.int p4), .val (.long q5), .second, .val (.int p6), .val (.int t1), .val (.int t2), .val (.int a2), .val (.long g2), .second, .val (.ref b11), .val (.ref b25), .unset, .unset] [(.int (3 : Int32)), (.int ((p6.toUInt32 >>> ((3 : Int32) &&& 31).toUInt32).toInt32))])) _
    refine XS.iand X37.here hx rfl (hb hby at_96) rfl ?_
    show Steps p.tables e below (T37.setTop (mkF m 97 #[.val (.int p1), .val (.int p2), .val (.long q3), .second, .val (.int p4), .val (.long q5), .second, .val (.int p6), .val (.int t1), .val (.int t2), .val (.int a2), .val (.long g2), .second, .val (.ref b11), .val (.ref b25), .unset, .unset] [(.int (((p6.toUInt32 >>> ((3 : Int32) &&& 31).toUInt32).toInt32) &&& (3 : Int32)))])) _
    refine XS.istore X37.here hx rfl (hb hby at_97) rfl (l' := #[.val (.int p1), .val (.int p2), .val (.long q3), .second, .val (.int p4), .val (.long q5), .second, .val (.int p6), .val (.int t1), .val (.int t2), .val (.int a2), .val (.long g2), .second, .val (.ref b11), .val (.ref b25), .val (.int (((p6.toUInt32 >>> ((3 : Int32) &&& 31).toUInt32).toInt32) &&& (3 : Int32))), .unset]) rfl ?_
    show Steps p.tables e below (T37.setTop (mkF m 99 #[.val (.int p1), .val (.int p2), .val (.long q3), .second, .val (.int p4), .val (.long q5), .second, .val (.int p6), .val (.int t1), .val (.int t2), .val (.int a2), .val (.long g2), .second, .val (.ref b11), .val (.ref b25), .val (.int (((p6.toUInt32 >>> ((3 : Int32) &&& 31).toUInt32).toInt32) &&& (3 : Int32))), .unset] [])) _
    refine XS.iload X37.here hx rfl (hb hby at_99) rfl ?_
    show Steps p.tables e below (T37.setTop (mkF m 101 #[.val (.int p1), .val (.int p2), .val (.long q3), .second, .val (.int p4), .val (.long q5), .second, .val (.int p6), .val (.int t1), .val (.int t2), .val (.int a2), .val (.long g2), .second, .val (.ref b11), .val (.ref b25), .val (.int (((p6.toUInt32 >>> ((3 : Int32) &&& 31).toUInt32).toInt32) &&& (3 : Int32))), .unset] [(.int (((p6.toUInt32 >>> ((3 : Int32) &&& 31).toUInt32).toInt32) &&& (3 : Int32)))])) _
    refine XS.iconst X37.here hx rfl (hb hby at_101) ?_
    show Steps p.tables e below (T37.setTop (mkF m 102 #[.val (.int p1), .val (.int p2), .val (.long q3), .second, .val (.int p4), .val (.long q5), .second, .val (.int p6), .val (.int t1), .val (.int t2), .val (.int a2), .val (.long g2), .second, .val (.ref b11), .val (.ref b25), .val (.int (((p6.toUInt32 >>> ((3 : Int32) &&& 31).toUInt32).toInt32) &&& (3 : Int32))), .unset] [(.int (1 : Int32)), (.int (((p6.toUInt32 >>> ((3 : Int32) &&& 31).toUInt32).toInt32) &&& (3 : Int32)))])) _
    exact kt_
  rcases Decidable.em ((((p6.toUInt32 >>> ((3 : Int32) &&& 31).toUInt32).toInt32) &&& (3 : Int32)) = (1 : Int32)) with hc102_40 | hc102_40
  ·
    have c41 := ((A23.ext Ee25).keep K37)
    obtain ⟨cq42, kq42, q42a, q42b, q42c⟩ := isOf hZ rfl c41
    obtain ⟨_, _, ⟨T42, L42, k42, n42⟩, -, X42, ⟨Lc42, hQ42, l42, y42, z42⟩, st42⟩ := X37.virtualBack hx (y := (⟨"com/example/chronotag/chronotag/codec/Head", "equals", "(Ljava/lang/Object;)Z"⟩ : MethodName)) (z := (⟨"com/example/chronotag/chronotag/codec/Head", "equals", "(Ljava/lang/Object;)Z"⟩ : MethodName)) hown (mvT hZ (hw _ (List.mem_of_getElem? (i := 22) rfl))) (mvT hZ (hw _ (List.mem_of_getElem? (i := 23) rfl))) (notFace_of_selects (args := #[]) (mvT hZ (hw _ (List.mem_of_getElem? (i := 25) rfl)))) (mvT hZ (hw _ (List.mem_of_getElem? (i := 25) rfl))) (mvT hZ (hw _ (List.mem_of_getElem? (i := 24) rfl))) (by decide) (backOf (W := 0) (rmEqN l Z a0 hw [] b11 T37.heap n0 Zs38 ) hZ (hw _ (List.mem_of_getElem? (i := 26) rfl)) (hw _ (List.mem_of_getElem? (i := 2) rfl)) (by decide) (by decide)) q42a q42c (g := (mkF m 108 #[.val (.int p1), .val (.int p2), .val (.long q3), .second, .val (.int p4), .val (.long q5), .second, .val (.int p6), .val (.int t1), .val (.int t2), .val (.int a2), .val (.long g2), .second, .val (.ref b11), .val (.ref b25), .val (.int (((p6.toUInt32 >>> ((3 : Int32) &&& 31).toUInt32).toInt32) &&& (3 : Int32))), .unset] [.null, (.ref b11)])) rfl (by rw [hml]; rfl) (Steps.refl _) (argsL := [.null]) (rest := []) (lenOf own_pd4 rfl) rfl (by show 2 * 0 + _ ≤ _; exact Nat.le_of_eq rfl) (hb hby at_108) (fun _ _ => ⟨rfl, rfl, (by decide : 2 + 0 ≤ _), (by decide : 6 + 0 ≤ _)⟩)
    dsimp only [Pt.U, Pt.locs, Pt.cells, Pt.slots] at X42 l42 y42 z42 st42 hQ42
    subst l42 y42 z42
    obtain ⟨rfl, N42q, eq42⟩ := hQ42
    have N42 := Fr.app N37 N42q
    obtain ⟨fs, hr, hrun, hended, hW, hsame⟩ := X42.leave (v := some (.int (1 : Int32))) (fun h => by rw [Bd.returns] at h; cases h)
    refine ⟨_, _, pre39 _ ?_, hrun, hended, _, _, rfl, ?_, ⟨_, rfl⟩, hW, hsame.mono (by decide) (by decide)⟩
    ·
      show Steps p.tables e below (T37.setTop (mkF m 102 #[.val (.int p1), .val (.int p2), .val (.long q3), .second, .val (.int p4), .val (.long q5), .second, .val (.int p6), .val (.int t1), .val (.int t2), .val (.int a2), .val (.long g2), .second, .val (.ref b11), .val (.ref b25), .val (.int (((p6.toUInt32 >>> ((3 : Int32) &&& 31).toUInt32).toInt32) &&& (3 : Int32))), .unset] [(.int (1 : Int32)), (.int (((p6.toUInt32 >>> ((3 : Int32) &&& 31).toUInt32).toInt32) &&& (3 : Int32)))])) _
      refine XS.icmpNo X37.here hx rfl (hb hby at_102) rfl (teq hc102_40).2 ?_
      show Steps p.tables e below (T37.setTop (mkF m 105 #[.val (.int p1), .val (.int p2), .val (.long q3), .second, .val (.int p4), .val (.long q5), .second, .val (.int p6), .val (.int t1), .val (.int t2), .val (.int a2), .val (.long g2), .second, .val (.ref b11), .val (.ref b25), .val (.int (((p6.toUInt32 >>> ((3 : Int32) &&& 31).toUInt32).toInt32) &&& (3 : Int32))), .unset] [])) _
      refine XS.aload X37.here hx rfl (hb hby at_105) rfl rfl ?_
      show Steps p.tables e below (T37.setTop (mkF m 107 #[.val (.int p1), .val (.int p2), .val (.long q3), .second, .val (.int p4), .val (.long q5), .second, .val (.int p6), .val (.int t1), .val (.int t2), .val (.int a2), .val (.long g2), .second, .val (.ref b11), .val (.ref b25), .val (.int (((p6.toUInt32 >>> ((3 : Int32) &&& 31).toUInt32).toInt32) &&& (3 : Int32))), .unset] [(.ref b11)])) _
      refine XS.aconstNull X37.here hx rfl (hb hby at_107) ?_
      show Steps p.tables e below (T37.setTop (mkF m 108 #[.val (.int p1), .val (.int p2), .val (.long q3), .second, .val (.int p4), .val (.long q5), .second, .val (.int p6), .val (.int t1), .val (.int t2), .val (.int a2), .val (.long g2), .second, .val (.ref b11), .val (.ref b25), .val (.int (((p6.toUInt32 >>> ((3 : Int32) &&& 31).toUInt32).toInt32) &&& (3 : Int32))), .unset] [.null, (.ref b11)])) _
      refine st42.trans ?_
      show Steps p.tables e below (T42.setTop (mkF m 111 #[.val (.int p1), .val (.int p2), .val (.long q3), .second, .val (.int p4), .val (.long q5), .second, .val (.int p6), .val (.int t1), .val (.int t2), .val (.int a2), .val (.long g2), .second, .val (.ref b11), .val (.ref b25), .val (.int (((p6.toUInt32 >>> ((3 : Int32) &&& 31).toUInt32).toInt32) &&& (3 : Int32))), .unset] [(.int (0 : Int32))])) _
      refine XS.ifNo X42.here hx rfl (hb hby at_111) rfl ((if0 _ _).trans (teq (by decide : (0 : Int32) = (0 : Int32))).2) ?_
      show Steps p.tables e below (T42.setTop (mkF m 114 #[.val (.int p1), .val (.int p2), .val (.long q3), .second, .val (.int p4), .val (.long q5), .second, .val (.int p6), .val (.int t1), .val (.int t2), .val (.int a2), .val (.long g2), .second, .val (.ref b11), .val (.ref b25), .val (.int (((p6.toUInt32 >>> ((3 : Int32) &&& 31).toUInt32).toInt32) &&& (3 : Int32))), .unset] [])) _
      refine XS.iconst X42.here hx rfl (hb hby at_114) ?_
      show Steps p.tables e below (T42.setTop (mkF m 115 #[.val (.int p1), .val (.int p2), .val (.long q3), .second, .val (.int p4), .val (.long q5), .second, .val (.int p6), .val (.int t1), .val (.int t2), .val (.int a2), .val (.long g2), .second, .val (.ref b11), .val (.ref b25), .val (.int (((p6.toUInt32 >>> ((3 : Int32) &&& 31).toUInt32).toInt32) &&& (3 : Int32))), .unset] [(.int (1 : Int32))])) _
      refine XS.goto X42.here hx rfl (pc0 := 115) (pc' := 119) rfl (hb hby at_115) (by decide) (by decide) ?_
      show Steps p.tables e below (T42.setTop (mkF m 119 #[.val (.int p1), .val (.int p2), .val (.long q3), .second, .val (.int p4), .val (.long q5), .second, .val (.int p6), .val (.int t1), .val (.int t2), .val (.int a2), .val (.long g2), .second, .val (.ref b11), .val (.ref b25), .val (.int (((p6.toUInt32 >>> ((3 : Int32) &&& 31).toUInt32).toInt32) &&& (3 : Int32))), .unset] [(.int (1 : Int32))])) _
      exact retN X42 hx (t := .boolean) Bd.returns (by simp) (hb hby at_119) hr
    ·
      show Q_rm0 Z p1 p2 q3 p4 q5 p6 w0 w1 w2 w3 w4 w5 w6 w7 ca cc h0 n0 (_) T42.heap (_)
      rw [eq42]
      exact ⟨rfl, N42⟩
  ·
    have pre43 : ∀ tgt, Steps p.tables e below (T37.setTop (mkF m 123 #[.val (.int p1), .val (.int p2), .val (.long q3), .second, .val (.int p4), .val (.long q5), .second, .val (.int p6), .val (.int t1), .val (.int t2), .val (.int a2), .val (.long g2), .second, .val (.ref b11), .val (.ref b25), .val (.int (((p6.toUInt32 >>> ((3 : Int32) &&& 31).toUInt32).toInt32) &&& (3 : Int32))), .unset] [(.int (2 : Int32)), (.int (((p6.toUInt32 >>> ((3 : Int32) &&& 31).toUInt32).toInt32) &&& (3 : Int32)))])) tgt → Steps p.tables e below (s₁.setTop (entryFrame m #[(.int p1), (.int p2), (.long q3), (.int p4), (.long q5), (.int p6)] maxLocals)) tgt := fun tgt kt_ => by
      refine pre39 _ ?_
      show Steps p.tables e below (T37.setTop (mkF m 102 #[.val (.int p1), .val (.int p2), .val (.long q3), .second, .val (.int p4), .val (.long q5), .second, .val (.int p6), .val (.int t1), .val (.int t2), .val (.int a2), .val (.long g2), .second, .val (.ref b11), .val (.ref b25), .val (.int (((p6.toUInt32 >>> ((3 : Int32) &&& 31).toUInt32).toInt32) &&& (3 : Int32))), .unset] [(.int (1 : Int32)), (.int (((p6.toUInt32 >>> ((3 : Int32) &&& 31).toUInt32).toInt32) &&& (3 : Int32)))])) _
      refine XS.icmpYes X37.here hx rfl (pc0 := 102) (pc' := 120) rfl (hb hby at_102) rfl (feq hc102_40).2 (by decide) (by decide) ?_
      show Steps p.tables e below (T37.setTop (mkF m 120 #[.val (.int p1), .val (.int p2), .val (.long q3), .second, .val (.int p4), .val (.long q5), .second, .val (.int p6), .val (.int t1), .val (.int t2), .val (.int a2), .val (.long g2), .second, .val (.ref b11), .val (.ref b25), .val (.int (((p6.toUInt32 >>> ((3 : Int32) &&& 31).toUInt32).toInt32) &&& (3 : Int32))), .unset] [])) _
      refine XS.iload X37.here hx rfl (hb hby at_120) rfl ?_
      show Steps p.tables e below (T37.setTop (mkF m 122 #[.val (.int p1), .val (.int p2), .val (.long q3), .second, .val (.int p4), .val (.long q5), .second, .val (.int p6), .val (.int t1), .val (.int t2), .val (.int a2), .val (.long g2), .second, .val (.ref b11), .val (.ref b25), .val (.int (((p6.toUInt32 >>> ((3 : Int32) &&& 31).toUInt32).toInt32) &&& (3 : Int32))), .unset] [(.int (((p6.toUInt32 >>> ((3 : Int32) &&& 31).toUInt32).toInt32) &&& (3 : Int32)))])) _
      refine XS.iconst X37.here hx rfl (hb hby at_122) ?_
      show Steps p.tables e below (T37.setTop (mkF m 123 #[.val (.int p1), .val (.int p2), .val (.long q3), .second, .val (.int p4), .val (.long q5), .second, .val (.int p6), .val (.int t1), .val (.int t2), .val (.int a2), .val (.long g2), .second, .val (.ref b11), .val (.ref b25), .val (.int (((p6.toUInt32 >>> ((3 : Int32) &&& 31).toUInt32).toInt32) &&& (3 : Int32))), .unset] [(.int (2 : Int32)), (.int (((p6.toUInt32 >>> ((3 : Int32) &&& 31).toUInt32).toInt32) &&& (3 : Int32)))])) _
      exact kt_
    rcases Decidable.em ((((p6.toUInt32 >>> ((3 : Int32) &&& 31).toUInt32).toInt32) &&& (3 : Int32)) = (2 : Int32)) with hc123_44 | hc123_44
    ·
      have c45 := SH.ext O38.2
      have c46 := SC.ext O38.2
      obtain ⟨_, _, ⟨T47, L47, k47, n47⟩, -, X47, ⟨Lc47, hQ47, l47, y47, z47⟩, st47⟩ := Jvm.LawKit.callS X37 hx (y := (⟨"java/lang/Integer", "valueOf", "(I)Ljava/lang/Integer;"⟩ : MethodName)) hown (mvT hZ (hw _ (List.mem_of_getElem? (i := 39) rfl))) (mvT hZ (hw _ (List.mem_of_getElem? (i := 40) rfl))) (mvT hZ (hw _ (List.mem_of_getElem? (i := 41) rfl))) (mvT hZ (hw _ (List.mem_of_getElem? (i := 42) rfl))) (by decide) (backOf (W := 1) (rmVO l Z a0 hw [] p2 ca cc T37.heap n0 Zs38 c45 c46 BX O38) hZ (hw _ (List.mem_of_getElem? (i := 42) rfl)) (hw _ (List.mem_of_getElem? (i := 41) rfl)) (by decide) (by decide)) (g := (mkF m 129 #[.val (.int p1), .val (.int p2), .val (.long q3), .second, .val (.int p4), .val (.long q5), .second, .val (.int p6), .val (.int t1), .val (.int t2), .val (.int a2), .val (.long g2), .second, .val (.ref b11), .val (.ref b25), .val (.int (((p6.toUInt32 >>> ((3 : Int32) &&& 31).toUInt32).toInt32) &&& (3 : Int32))), .unset] [(.int p2), (.ref b11)])) rfl (by rw [hml]; rfl) (argsL := [(.int p2)]) (rest := [(.ref b11)]) (lenOf own_pd5 rfl) rfl (by show 2 * 0 + _ ≤ _; exact Nat.le_of_eq rfl) (hb hby at_129) (fun _ _ => ⟨rfl, rfl, (by decide : 2 + 1 ≤ _), (by decide : 6 + 1 ≤ _)⟩)
      dsimp only [Pt.U, Pt.locs, Pt.cells, Pt.slots] at X47 l47 y47 z47 st47 hQ47
      subst l47 y47 z47
      obtain ⟨bx47, rfl, N47q, K47, A47, F47⟩ := hQ47
      have N47 := Fr.app N37 N47q
      have Zs48 : n0 ≤ T47.heap.size := Nat.le_trans Zs38 K47.1
      have O48 := O38.keep K47 all0
      have c49 := (((A23.ext Ee25).keep K37).keep K47)
      obtain ⟨cq50, kq50, q50a, q50b, q50c⟩ := isOf hZ rfl c49
      obtain ⟨_, _, ⟨T50, L50, k50, n50⟩, -, X50, ⟨Lc50, hQ50, l50, y50, z50⟩, st50⟩ := X47.virtualBack hx (y := (⟨"com/example/chronotag/chronotag/codec/Head", "equals", "(Ljava/lang/Object;)Z"⟩ : MethodName)) (z := (⟨"com/example/chronotag/chronotag/codec/Head", "equals", "(Ljava/lang/Object;)Z"⟩ : MethodName)) hown (mvT hZ (hw _ (List.mem_of_getElem? (i := 22) rfl))) (mvT hZ (hw _ (List.mem_of_getElem? (i := 23) rfl))) (notFace_of_selects (args := #[]) (mvT hZ (hw _ (List.mem_of_getElem? (i := 25) rfl)))) (mvT hZ (hw _ (List.mem_of_getElem? (i := 25) rfl))) (mvT hZ (hw _ (List.mem_of_getElem? (i := 24) rfl))) (by decide) (backOf (W := 0) (rmEqI l Z a0 hw [] b11 bx47 T47.heap n0 Zs48 A47) hZ (hw _ (List.mem_of_getElem? (i := 26) rfl)) (hw _ (List.mem_of_getElem? (i := 2) rfl)) (by decide) (by decide)) q50a q50c (g := (mkF m 132 #[.val (.int p1), .val (.int p2), .val (.long q3), .second, .val (.int p4), .val (.long q5), .second, .val (.int p6), .val (.int t1), .val (.int t2), .val (.int a2), .val (.long g2), .second, .val (.ref b11), .val (.ref b25), .val (.int (((p6.toUInt32 >>> ((3 : Int32) &&& 31).toUInt32).toInt32) &&& (3 : Int32))), .unset] [(.ref bx47), (.ref b11)])) rfl (by rw [hml]; rfl) (Steps.refl _) (argsL := [(.ref bx47)]) (rest := []) (lenOf own_pd4 rfl) rfl (by show 2 * 0 + _ ≤ _; exact Nat.le_of_eq rfl) (hb hby at_132) (fun _ _ => ⟨rfl, rfl, (by decide : 3 + 0 ≤ _), (by decide : 7 + 0 ≤ _)⟩)
      dsimp only [Pt.U, Pt.locs, Pt.cells, Pt.slots] at X50 l50 y50 z50 st50 hQ50
      subst l50 y50 z50
      obtain ⟨rfl, N50q, eq50⟩ := hQ50
      have N50 := Fr.app N47 N50q
      obtain ⟨fs, hr, hrun, hended, hW, hsame⟩ := X50.leave (v := some (.int (1 : Int32))) (fun h => by rw [Bd.returns] at h; cases h)
      refine ⟨_, _, pre43 _ ?_, hrun, hended, _, _, rfl, ?_, ⟨_, rfl⟩, hW, hsame.mono (by decide) (by decide)⟩
      ·
        show Steps p.tables e below (T37.setTop (mkF m 123 #[.val (.int p1), .val (.int p2), .val (.long q3), .second, .val (.int p4), .val (.long q5), .second, .val (.int p6), .val (.int t1), .val (.int t2), .val (.int a2), .val (.long g2), .second, .val (.ref b11), .val (.ref b25), .val (.int (((p6.toUInt32 >>> ((3 : Int32) &&& 31).toUInt32).toInt32) &&& (3 : Int32))), .unset] [(.int (2 : Int32)), (.int (((p6.toUInt32 >>> ((3 : Int32) &&& 31).toUInt32).toInt32) &&& (3 : Int32)))])) _
        refine XS.icmpNo X37.here hx rfl (hb hby at_123) rfl (teq hc123_44).2 ?_
        show Steps p.tables e below (T37.setTop (mkF m 126 #[.val (.int p1), .val (.int p2), .val (.long q3), .second, .val (.int p4), .val (.long q5), .second, .val (.int p6), .val (.int t1), .val (.int t2), .val (.int a2), .val (.long g2), .second, .val (.ref b11), .val (.ref b25), .val (.int (((p6.toUInt32 >>> ((3 : Int32) &&& 31).toUInt32).toInt32) &&& (3 : Int32))), .unset] [])) _
        refine XS.aload X37.here hx rfl (hb hby at_126) rfl rfl ?_
        show Steps p.tables e below (T37.setTop (mkF m 128 #[.val (.int p1), .val (.int p2), .val (.long q3), .second, .val (.int p4), .val (.long q5), .second, .val (.int p6), .val (.int t1), .val (.int t2), .val (.int a2), .val (.long g2), .second, .val (.ref b11), .val (.ref b25), .val (.int (((p6.toUInt32 >>> ((3 : Int32) &&& 31).toUInt32).toInt32) &&& (3 : Int32))), .unset] [(.ref b11)])) _
        refine XS.iloadN X37.here hx rfl (hb hby at_128) rfl ?_
        show Steps p.tables e below (T37.setTop (mkF m 129 #[.val (.int p1), .val (.int p2), .val (.long q3), .second, .val (.int p4), .val (.long q5), .second, .val (.int p6), .val (.int t1), .val (.int t2), .val (.int a2), .val (.long g2), .second, .val (.ref b11), .val (.ref b25), .val (.int (((p6.toUInt32 >>> ((3 : Int32) &&& 31).toUInt32).toInt32) &&& (3 : Int32))), .unset] [(.int p2), (.ref b11)])) _
        refine st47 _ ?_
        show Steps p.tables e below (T47.setTop (mkF m 132 #[.val (.int p1), .val (.int p2), .val (.long q3), .second, .val (.int p4), .val (.long q5), .second, .val (.int p6), .val (.int t1), .val (.int t2), .val (.int a2), .val (.long g2), .second, .val (.ref b11), .val (.ref b25), .val (.int (((p6.toUInt32 >>> ((3 : Int32) &&& 31).toUInt32).toInt32) &&& (3 : Int32))), .unset] [(.ref bx47), (.ref b11)])) _
        refine st50.trans ?_
        show Steps p.tables e below (T50.setTop (mkF m 135 #[.val (.int p1), .val (.int p2), .val (.long q3), .second, .val (.int p4), .val (.long q5), .second, .val (.int p6), .val (.int t1), .val (.int t2), .val (.int a2), .val (.long g2), .second, .val (.ref b11), .val (.ref b25), .val (.int (((p6.toUInt32 >>> ((3 : Int32) &&& 31).toUInt32).toInt32) &&& (3 : Int32))), .unset] [(.int (0 : Int32))])) _
        refine XS.ifNo X50.here hx rfl (hb hby at_135) rfl ((if0 _ _).trans (teq (by decide : (0 : Int32) = (0 : Int32))).2) ?_
        show Steps p.tables e below (T50.setTop (mkF m 138 #[.val (.int p1), .val (.int p2), .val (.long q3), .second, .val (.int p4), .val (.long q5), .second, .val (.int p6), .val (.int t1), .val (.int t2), .val (.int a2), .val (.long g2), .second, .val (.ref b11), .val (.ref b25), .val (.int (((p6.toUInt32 >>> ((3 : Int32) &&& 31).toUInt32).toInt32) &&& (3 : Int32))), .unset] [])) _
        refine XS.iconst X50.here hx rfl (hb hby at_138) ?_
        show Steps p.tables e below (T50.setTop (mkF m 139 #[.val (.int p1), .val (.int p2), .val (.long q3), .second, .val (.int p4), .val (.long q5), .second, .val (.int p6), .val (.int t1), .val (.int t2), .val (.int a2), .val (.long g2), .second, .val (.ref b11), .val (.ref b25), .val (.int (((p6.toUInt32 >>> ((3 : Int32) &&& 31).toUInt32).toInt32) &&& (3 : Int32))), .unset] [(.int (1 : Int32))])) _
        refine XS.goto X50.here hx rfl (pc0 := 139) (pc' := 143) rfl (hb hby at_139) (by decide) (by decide) ?_
        show Steps p.tables e below (T50.setTop (mkF m 143 #[.val (.int p1), .val (.int p2), .val (.long q3), .second, .val (.int p4), .val (.long q5), .second, .val (.int p6), .val (.int t1), .val (.int t2), .val (.int a2), .val (.long g2), .second, .val (.ref b11), .val (.ref b25), .val (.int (((p6.toUInt32 >>> ((3 : Int32) &&& 31).toUInt32).toInt32) &&& (3 : Int32))), .unset] [(.int (1 : Int32))])) _
        exact retN X50 hx (t := .boolean) Bd.returns (by simp) (hb hby at_143) hr
      ·
        show Q_rm0 Z p1 p2 q3 p4 q5 p6 w0 w1 w2 w3 w4 w5 w6 w7 ca cc h0 n0 (_) T50.heap (_)
        rw [eq50]
        exact ⟨rfl, N50⟩
    ·
      have pre51 : ∀ tgt, Steps p.tables e below (T37.setTop (mkF m 147 #[.val (.int p1), .val (.int p2), .val (.long q3), .second, .val (.int p4), .val (.long q5), .second, .val (.int p6), .val (.int t1), .val (.int t2), .val (.int a2), .val (.long g2), .second, .val (.ref b11), .val (.ref b25), .val (.int (((p6.toUInt32 >>> ((3 : Int32) &&& 31).toUInt32).toInt32) &&& (3 : Int32))), .unset] [(.int (3 : Int32)), (.int (((p6.toUInt32 >>> ((3 : Int32) &&& 31).toUInt32).toInt32) &&& (3 : Int32)))])) tgt → Steps p.tables e below (s₁.setTop (entryFrame m #[(.int p1), (.int p2), (.long q3), (.int p4), (.long q5), (.int p6)] maxLocals)) tgt := fun tgt kt_ => by
        refine pre43 _ ?_
        show Steps p.tables e below (T37.setTop (mkF m 123 #[.val (.int p1), .val (.int p2), .val (.long q3), .second, .val (.int p4), .val (.long q5), .second, .val (.int p6), .val (.int t1), .val (.int t2), .val (.int a2), .val (.long g2), .second, .val (.ref b11), .val (.ref b25), .val (.int (((p6.toUInt32 >>> ((3 : Int32) &&& 31).toUInt32).toInt32) &&& (3 : Int32))), .unset] [(.int (2 : Int32)), (.int (((p6.toUInt32 >>> ((3 : Int32) &&& 31).toUInt32).toInt32) &&& (3 : Int32)))])) _
        refine XS.icmpYes X37.here hx rfl (pc0 := 123) (pc' := 144) rfl (hb hby at_123) rfl (feq hc123_44).2 (by decide) (by decide) ?_
        show Steps p.tables e below (T37.setTop (mkF m 144 #[.val (.int p1), .val (.int p2), .val (.long q3), .second, .val (.int p4), .val (.long q5), .second, .val (.int p6), .val (.int t1), .val (.int t2), .val (.int a2), .val (.long g2), .second, .val (.ref b11), .val (.ref b25), .val (.int (((p6.toUInt32 >>> ((3 : Int32) &&& 31).toUInt32).toInt32) &&& (3 : Int32))), .unset] [])) _
        refine XS.iload X37.here hx rfl (hb hby at_144) rfl ?_
        show Steps p.tables e below (T37.setTop (mkF m 146 #[.val (.int p1), .val (.int p2), .val (.long q3), .second, .val (.int p4), .val (.long q5), .second, .val (.int p6), .val (.int t1), .val (.int t2), .val (.int a2), .val (.long g2), .second, .val (.ref b11), .val (.ref b25), .val (.int (((p6.toUInt32 >>> ((3 : Int32) &&& 31).toUInt32).toInt32) &&& (3 : Int32))), .unset] [(.int (((p6.toUInt32 >>> ((3 : Int32) &&& 31).toUInt32).toInt32) &&& (3 : Int32)))])) _
        refine XS.iconst X37.here hx rfl (hb hby at_146) ?_
        show Steps p.tables e below (T37.setTop (mkF m 147 #[.val (.int p1), .val (.int p2), .val (.long q3), .second, .val (.int p4), .val (.long q5), .second, .val (.int p6), .val (.int t1), .val (.int t2), .val (.int a2), .val (.long g2), .second, .val (.ref b11), .val (.ref b25), .val (.int (((p6.toUInt32 >>> ((3 : Int32) &&& 31).toUInt32).toInt32) &&& (3 : Int32))), .unset] [(.int (3 : Int32)), (.int (((p6.toUInt32 >>> ((3 : Int32) &&& 31).toUInt32).toInt32) &&& (3 : Int32)))])) _
        exact kt_
      rcases Decidable.em ((((p6.toUInt32 >>> ((3 : Int32) &&& 31).toUInt32).toInt32) &&& (3 : Int32)) = (3 : Int32)) with hc147_52 | hc147_52
      ·
        have c53 := ((A23.ext Ee25).keep K37)
        have c54 := ((Fh0_23.ext Ee25).keep K37 (ninS ne_b11_b25 nin0))
        have c55 := ((Fh1_23.ext Ee25).keep K37 (ninS ne_b11_b25 nin0))
        have c56 := ((Fh2_23.ext Ee25).keep K37 (ninS ne_b11_b25 nin0))
        obtain ⟨cq57, kq57, q57a, q57b, q57c⟩ := isOf hZ rfl c53
        obtain ⟨_, _, ⟨T57, L57, k57, n57⟩, -, X57, ⟨Lc57, hQ57, l57, y57, z57⟩, st57⟩ := X37.virtualBack hx (y := (⟨"com/example/chronotag/chronotag/codec/Head", "equals", "(Ljava/lang/Object;)Z"⟩ : MethodName)) (z := (⟨"com/example/chronotag/chronotag/codec/Head", "equals", "(Ljava/lang/Object;)Z"⟩ : MethodName)) hown (mvT hZ (hw _ (List.mem_of_getElem? (i := 22) rfl))) (mvT hZ (hw _ (List.mem_of_getElem? (i := 23) rfl))) (notFace_of_selects (args := #[]) (mvT hZ (hw _ (List.mem_of_getElem? (i := 25) rfl)))) (mvT hZ (hw _ (List.mem_of_getElem? (i := 25) rfl))) (mvT hZ (hw _ (List.mem_of_getElem? (i := 24) rfl))) (by decide) (backOf (W := 0) (rmEq l Z a0 hw [] b11 b11 u1 p2 q3 u1 p2 q3 (1 : Int32) T37.heap n0 Zs38 c53 c53 c54 c55 c56 c54 c55 c56 (by rw [if_pos rfl, if_pos rfl, if_pos ((lw_eq _ _).mpr rfl)])) hZ (hw _ (List.mem_of_getElem? (i := 26) rfl)) (hw _ (List.mem_of_getElem? (i := 2) rfl)) (by decide) (by decide)) q57a q57c (g := (mkF m 154 #[.val (.int p1), .val (.int p2), .val (.long q3), .second, .val (.int p4), .val (.long q5), .second, .val (.int p6), .val (.int t1), .val (.int t2), .val (.int a2), .val (.long g2), .second, .val (.ref b11), .val (.ref b25), .val (.int (((p6.toUInt32 >>> ((3 : Int32) &&& 31).toUInt32).toInt32) &&& (3 : Int32))), .unset] [(.ref b11), (.ref b11)])) rfl (by rw [hml]; rfl) (Steps.refl _) (argsL := [(.ref b11)]) (rest := []) (lenOf own_pd4 rfl) rfl (by show 2 * 0 + _ ≤ _; exact Nat.le_of_eq rfl) (hb hby at_154) (fun _ _ => ⟨rfl, rfl, (by decide : 2 + 0 ≤ _), (by decide : 6 + 0 ≤ _)⟩)
        dsimp only [Pt.U, Pt.locs, Pt.cells, Pt.slots] at X57 l57 y57 z57 st57 hQ57
        subst l57 y57 z57
        obtain ⟨rfl, N57q, eq57⟩ := hQ57
        have N57 := Fr.app N37 N57q
        obtain ⟨fs, hr, hrun, hended, hW, hsame⟩ := X57.leave (v := some (.int (1 : Int32))) (fun h => by rw [Bd.returns] at h; cases h)
        refine ⟨_, _, pre51 _ ?_, hrun, hended, _, _, rfl, ?_, ⟨_, rfl⟩, hW, hsame.mono (by decide) (by decide)⟩
        ·
          show Steps p.tables e below (T37.setTop (mkF m 147 #[.val (.int p1), .val (.int p2), .val (.long q3), .second, .val (.int p4), .val (.long q5), .second, .val (.int p6), .val (.int t1), .val (.int t2), .val (.int a2), .val (.long g2), .second, .val (.ref b11), .val (.ref b25), .val (.int (((p6.toUInt32 >>> ((3 : Int32) &&& 31).toUInt32).toInt32) &&& (3 : Int32))), .unset] [(.int (3 : Int32)), (.int (((p6.toUInt32 >>> ((3 : Int32) &&& 31).toUInt32).toInt32) &&& (3 : Int32)))])) _
          refine XS.icmpNo X37.here hx rfl (hb hby at_147) rfl (teq hc147_52).2 ?_
          show Steps p.tables e below (T37.setTop (mkF m 150 #[.val (.int p1), .val (.int p2), .val (.long q3), .second, .val (.int p4), .val (.long q5), .second, .val (.int p6), .val (.int t1), .val (.int t2), .val (.int a2), .val (.long g2), .second, .val (.ref b11), .val (.ref b25), .val (.int (((p6.toUInt32 >>> ((3 : Int32) &&& 31).toUInt32).toInt32) &&& (3 : Int32))), .unset] [])) _
          refine XS.aload X37.here hx rfl (hb hby at_150) rfl rfl ?_
          show Steps p.tables e below (T37.setTop (mkF m 152 #[.val (.int p1), .val (.int p2), .val (.long q3), .second, .val (.int p4), .val (.long q5), .second, .val (.int p6), .val (.int t1), .val (.int t2), .val (.int a2), .val (.long g2), .second, .val (.ref b11), .val (.ref b25), .val (.int (((p6.toUInt32 >>> ((3 : Int32) &&& 31).toUInt32).toInt32) &&& (3 : Int32))), .unset] [(.ref b11)])) _
          refine XS.aload X37.here hx rfl (hb hby at_152) rfl rfl ?_
          show Steps p.tables e below (T37.setTop (mkF m 154 #[.val (.int p1), .val (.int p2), .val (.long q3), .second, .val (.int p4), .val (.long q5), .second, .val (.int p6), .val (.int t1), .val (.int t2), .val (.int a2), .val (.long g2), .second, .val (.ref b11), .val (.ref b25), .val (.int (((p6.toUInt32 >>> ((3 : Int32) &&& 31).toUInt32).toInt32) &&& (3 : Int32))), .unset] [(.ref b11), (.ref b11)])) _
          refine st57.trans ?_
          show Steps p.tables e below (T57.setTop (mkF m 157 #[.val (.int p1), .val (.int p2), .val (.long q3), .second, .val (.int p4), .val (.long q5), .second, .val (.int p6), .val (.int t1), .val (.int t2), .val (.int a2), .val (.long g2), .second, .val (.ref b11), .val (.ref b25), .val (.int (((p6.toUInt32 >>> ((3 : Int32) &&& 31).toUInt32).toInt32) &&& (3 : Int32))), .unset] [(.int (1 : Int32))])) _
          exact retN X57 hx (t := .boolean) Bd.returns (by simp) (hb hby at_157) hr
        ·
          show Q_rm0 Z p1 p2 q3 p4 q5 p6 w0 w1 w2 w3 w4 w5 w6 w7 ca cc h0 n0 (_) T57.heap (_)
          rw [eq57]
          exact ⟨rfl, N57⟩
      ·
        have pre61 : ∀ tgt, Steps p.tables e below (T37.setTop (mkF m 162 #[.val (.int p1), .val (.int p2), .val (.long q3), .second, .val (.int p4), .val (.long q5), .second, .val (.int p6), .val (.int t1), .val (.int t2), .val (.int a2), .val (.long g2), .second, .val (.ref b11), .val (.ref b25), .val (.int (((p6.toUInt32 >>> ((3 : Int32) &&& 31).toUInt32).toInt32) &&& (3 : Int32))), .unset] [(.int t2), (.int t1)])) tgt → Steps p.tables e below (s₁.setTop (entryFrame m #[(.int p1), (.int p2), (.long q3), (.int p4), (.long q5), (.int p6)] maxLocals)) tgt := fun tgt kt_ => by
          refine pre51 _ ?_
          show Steps p.tables e below (T37.setTop (mkF m 147 #[.val (.int p1), .val (.int p2), .val (.long q3), .second, .val (.int p4), .val (.long q5), .second, .val (.int p6), .val (.int t1), .val (.int t2), .val (.int a2), .val (.long g2), .second, .val (.ref b11), .val (.ref b25), .val (.int (((p6.toUInt32 >>> ((3 : Int32) &&& 31).toUInt32).toInt32) &&& (3 : Int32))), .unset] [(.int (3 : Int32)), (.int (((p6.toUInt32 >>> ((3 : Int32) &&& 31).toUInt32).toInt32) &&& (3 : Int32)))])) _
          refine XS.icmpYes X37.here hx rfl (pc0 := 147) (pc' := 158) rfl (hb hby at_147) rfl (feq hc147_52).2 (by decide) (by decide) ?_
          show Steps p.tables e below (T37.setTop (mkF m 158 #[.val (.int p1), .val (.int p2), .val (.long q3), .second, .val (.int p4), .val (.long q5), .second, .val (.int p6), .val (.int t1), .val (.int t2), .val (.int a2), .val (.long g2), .second, .val (.ref b11), .val (.ref b25), .val (.int (((p6.toUInt32 >>> ((3 : Int32) &&& 31).toUInt32).toInt32) &&& (3 : Int32))), .unset] [])) _
          refine XS.iload X37.here hx rfl (hb hby at_158) rfl ?_
          show Steps p.tables e below (T37.setTop (mkF m 160 #[.val (.int p1), .val (.int p2), .val (.long q3), .second, .val (.int p4), .val (.long q5), .second, .val (.int p6), .val (.int t1), .val (.int t2), .val (.int a2), .val (.long g2), .second, .val (.ref b11), .val (.ref b25), .val (.int (((p6.toUInt32 >>> ((3 : Int32) &&& 31).toUInt32).toInt32) &&& (3 : Int32))), .unset] [(.int t1)])) _
          refine XS.iload X37.here hx rfl (hb hby at_160) rfl ?_
          show Steps p.tables e below (T37.setTop (mkF m 162 #[.val (.int p1), .val (.int p2), .val (.long q3), .second, .val (.int p4), .val (.long q5), .second, .val (.int p6), .val (.int t1), .val (.int t2), .val (.int a2), .val (.long g2), .second, .val (.ref b11), .val (.ref b25), .val (.int (((p6.toUInt32 >>> ((3 : Int32) &&& 31).toUInt32).toInt32) &&& (3 : Int32))), .unset] [(.int t2), (.int t1)])) _
          exact kt_
        have pre62 : ∀ tgt, Steps p.tables e below (T37.setTop (mkF m 183 #[.val (.int p1), .val (.int p2), .val (.long q3), .second, .val (.int p4), .val (.long q5), .second, .val (.int p6), .val (.int t1), .val (.int t2), .val (.int a2), .val (.long g2), .second, .val (.ref b11), .val (.ref b25), .val (.int (((p6.toUInt32 >>> ((3 : Int32) &&& 31).toUInt32).toInt32) &&& (3 : Int32))), .unset] [(.int (if t1 = t2 then (if p2 = a2 then (if (lcmpW q3 g2) = (0 : Int32) then (1 : Int32) else (0 : Int32)) else (0 : Int32)) else (0 : Int32)))])) tgt → Steps p.tables e below (s₁.setTop (entryFrame m #[(.int p1), (.int p2), (.long q3), (.int p4), (.long q5), (.int p6)] maxLocals)) tgt := fun tgt kt_ => by
          refine pre61 _ ?_
          show Steps p.tables e below (T37.setTop (mkF m 162 #[.val (.int p1), .val (.int p2), .val (.long q3), .second, .val (.int p4), .val (.long q5), .second, .val (.int p6), .val (.int t1), .val (.int t2), .val (.int a2), .val (.long g2), .second, .val (.ref b11), .val (.ref b25), .val (.int (((p6.toUInt32 >>> ((3 : Int32) &&& 31).toUInt32).toInt32) &&& (3 : Int32))), .unset] [(.int t2), (.int t1)])) _
          rcases Decidable.em (t1 = t2) with hj162_58 | hj162_58
          ·
            refine XS.icmpNo X37.here hx rfl (hb hby at_162) rfl (teq hj162_58).2 ?_
            show Steps p.tables e below (T37.setTop (mkF m 165 #[.val (.int p1), .val (.int p2), .val (.long q3), .second, .val (.int p4), .val (.long q5), .second, .val (.int p6), .val (.int t1), .val (.int t2), .val (.int a2), .val (.long g2), .second, .val (.ref b11), .val (.ref b25), .val (.int (((p6.toUInt32 >>> ((3 : Int32) &&& 31).toUInt32).toInt32) &&& (3 : Int32))), .unset] [])) _
            refine XS.iloadN X37.here hx rfl (hb hby at_165) rfl ?_
            show Steps p.tables e below (T37.setTop (mkF m 166 #[.val (.int p1), .val (.int p2), .val (.long q3), .second, .val (.int p4), .val (.long q5), .second, .val (.int p6), .val (.int t1), .val (.int t2), .val (.int a2), .val (.long g2), .second, .val (.ref b11), .val (.ref b25), .val (.int (((p6.toUInt32 >>> ((3 : Int32) &&& 31).toUInt32).toInt32) &&& (3 : Int32))), .unset] [(.int p2)])) _
            refine XS.iload X37.here hx rfl (hb hby at_166) rfl ?_
            show Steps p.tables e below (T37.setTop (mkF m 168 #[.val (.int p1), .val (.int p2), .val (.long q3), .second, .val (.int p4), .val (.long q5), .second, .val (.int p6), .val (.int t1), .val (.int t2), .val (.int a2), .val (.long g2), .second, .val (.ref b11), .val (.ref b25), .val (.int (((p6.toUInt32 >>> ((3 : Int32) &&& 31).toUInt32).toInt32) &&& (3 : Int32))), .unset] [(.int a2), (.int p2)])) _
            rcases Decidable.em (p2 = a2) with hj168_59 | hj168_59
            ·
              refine XS.icmpNo X37.here hx rfl (hb hby at_168) rfl (teq hj168_59).2 ?_
              show Steps p.tables e below (T37.setTop (mkF m 171 #[.val (.int p1), .val (.int p2), .val (.long q3), .second, .val (.int p4), .val (.long q5), .second, .val (.int p6), .val (.int t1), .val (.int t2), .val (.int a2), .val (.long g2), .second, .val (.ref b11), .val (.ref b25), .val (.int (((p6.toUInt32 >>> ((3 : Int32) &&& 31).toUInt32).toInt32) &&& (3 : Int32))), .unset] [])) _
              refine XS.lloadN X37.here hx rfl (hb hby at_171) rfl ?_
              show Steps p.tables e below (T37.setTop (mkF m 172 #[.val (.int p1), .val (.int p2), .val (.long q3), .second, .val (.int p4), .val (.long q5), .second, .val (.int p6), .val (.int t1), .val (.int t2), .val (.int a2), .val (.long g2), .second, .val (.ref b11), .val (.ref b25), .val (.int (((p6.toUInt32 >>> ((3 : Int32) &&& 31).toUInt32).toInt32) &&& (3 : Int32))), .unset] [(.long q3)])) _
              refine XS.lload X37.here hx rfl (hb hby at_172) rfl ?_
              show Steps p.tables e below (T37.setTop (mkF m 174 #[.val (.int p1), .val (.int p2), .val (.long q3), .second, .val (.int p4), .val (.long q5), .second, .val (.int p6), .val (.int t1), .val (.int t2), .val (.int a2), .val (.long g2), .second, .val (.ref b11), .val (.ref b25), .val (.int (((p6.toUInt32 >>> ((3 : Int32) &&& 31).toUInt32).toInt32) &&& (3 : Int32))), .unset] [(.long g2), (.long q3)])) _
              refine XS.lcmp X37.here hx rfl (hb hby at_174) rfl ?_
              show Steps p.tables e below (T37.setTop (mkF m 175 #[.val (.int p1), .val (.int p2), .val (.long q3), .second, .val (.int p4), .val (.long q5), .second, .val (.int p6), .val (.int t1), .val (.int t2), .val (.int a2), .val (.long g2), .second, .val (.ref b11), .val (.ref b25), .val (.int (((p6.toUInt32 >>> ((3 : Int32) &&& 31).toUInt32).toInt32) &&& (3 : Int32))), .unset] [(.int (lcmpW q3 g2))])) _
              rcases Decidable.em ((lcmpW q3 g2) = (0 : Int32)) with hj175_60 | hj175_60
              ·
                refine XS.ifNo X37.here hx rfl (hb hby at_175) rfl ((if0 _ _).trans (teq hj175_60).2) ?_
                show Steps p.tables e below (T37.setTop (mkF m 178 #[.val (.int p1), .val (.int p2), .val (.long q3), .second, .val (.int p4), .val (.long q5), .second, .val (.int p6), .val (.int t1), .val (.int t2), .val (.int a2), .val (.long g2), .second, .val (.ref b11), .val (.ref b25), .val (.int (((p6.toUInt32 >>> ((3 : Int32) &&& 31).toUInt32).toInt32) &&& (3 : Int32))), .unset] [])) _
                refine XS.iconst X37.here hx rfl (hb hby at_178) ?_
                show Steps p.tables e below (T37.setTop (mkF m 179 #[.val (.int p1), .val (.int p2), .val (.long q3), .second, .val (.int p4), .val (.long q5), .second, .val (.int p6), .val (.int t1), .val (.int t2), .val (.int a2), .val (.long g2), .second, .val (.ref b11), .val (.ref b25), .val (.int (((p6.toUInt32 >>> ((3 : Int32) &&& 31).toUInt32).toInt32) &&& (3 : Int32))), .unset] [(.int (1 : Int32))])) _
                refine XS.goto X37.here hx rfl (pc0 := 179) (pc' := 183) rfl (hb hby at_179) (by decide) (by decide) ?_
                show Steps p.tables e below (T37.setTop (mkF m 183 #[.val (.int p1), .val (.int p2), .val (.long q3), .second, .val (.int p4), .val (.long q5), .second, .val (.int p6), .val (.int t1), .val (.int t2), .val (.int a2), .val (.long g2), .second, .val (.ref b11), .val (.ref b25), .val (.int (((p6.toUInt32 >>> ((3 : Int32) &&& 31).toUInt32).toInt32) &&& (3 : Int32))), .unset] [(.int (1 : Int32))])) _
                simp only [if_pos hj162_58, if_pos hj168_59, if_pos hj175_60] at kt_
                exact kt_
              ·
                refine XS.ifYes X37.here hx rfl (pc0 := 175) (pc' := 182) rfl (hb hby at_175) rfl ((if0 _ _).trans (feq hj175_60).2) (by decide) (by decide) ?_
                show Steps p.tables e below (T37.setTop (mkF m 182 #[.val (.int p1), .val (.int p2), .val (.long q3), .second, .val (.int p4), .val (.long q5), .second, .val (.int p6), .val (.int t1), .val (.int t2), .val (.int a2), .val (.long g2), .second, .val (.ref b11), .val (.ref b25), .val (.int (((p6.toUInt32 >>> ((3 : Int32) &&& 31).toUInt32).toInt32) &&& (3 : Int32))), .unset] [])) _
                refine XS.iconst X37.here hx rfl (hb hby at_182) ?_
                show Steps p.tables e below (T37.setTop (mkF m 183 #[.val (.int p1), .val (.int p2), .val (.long q3), .second, .val (.int p4), .val (.long q5), .second, .val (.int p6), .val (.int t1), .val (.int t2), .val (.int a2), .val (.long g2), .second, .val (.ref b11), .val (.ref b25), .val (.int (((p6.toUInt32 >>> ((3 : Int32) &&& 31).toUInt32).toInt32) &&& (3 : Int32))), .unset] [(.int (0 : Int32))])) _
                simp only [if_pos hj162_58, if_pos hj168_59, if_neg hj175_60] at kt_
                exact kt_
            ·
              refine XS.icmpYes X37.here hx rfl (pc0 := 168) (pc' := 182) rfl (hb hby at_168) rfl (feq hj168_59).2 (by decide) (by decide) ?_
              show Steps p.tables e below (T37.setTop (mkF m 182 #[.val (.int p1), .val (.int p2), .val (.long q3), .second, .val (.int p4), .val (.long q5), .second, .val (.int p6), .val (.int t1), .val (.int t2), .val (.int a2), .val (.long g2), .second, .val (.ref b11), .val (.ref b25), .val (.int (((p6.toUInt32 >>> ((3 : Int32) &&& 31).toUInt32).toInt32) &&& (3 : Int32))), .unset] [])) _
              refine XS.iconst X37.here hx rfl (hb hby at_182) ?_
              show Steps p.tables e below (T37.setTop (mkF m 183 #[.val (.int p1), .val (.int p2), .val (.long q3), .second, .val (.int p4), .val (.long q5), .second, .val (.int p6), .val (.int t1), .val (.int t2), .val (.int a2), .val (.long g2), .second, .val (.ref b11), .val (.ref b25), .val (.int (((p6.toUInt32 >>> ((3 : Int32) &&& 31).toUInt32).toInt32) &&& (3 : Int32))), .unset] [(.int (0 : Int32))])) _
              simp only [if_pos hj162_58, if_neg hj168_59] at kt_
              exact kt_
          ·
            refine XS.icmpYes X37.here hx rfl (pc0 := 162) (pc' := 182) rfl (hb hby at_162) rfl (feq hj162_58).2 (by decide) (by decide) ?_
            show Steps p.tables e below (T37.setTop (mkF m 182 #[.val (.int p1), .val (.int p2), .val (.long q3), .second, .val (.int p4), .val (.long q5), .second, .val (.int p6), .val (.int t1), .val (.int t2), .val (.int a2), .val (.long g2), .second, .val (.ref b11), .val (.ref b25), .val (.int (((p6.toUInt32 >>> ((3 : Int32) &&& 31).toUInt32).toInt32) &&& (3 : Int32))), .unset] [])) _
            refine XS.iconst X37.here hx rfl (hb hby at_182) ?_
            show Steps p.tables e below (T37.setTop (mkF m 183 #[.val (.int p1), .val (.int p2), .val (.long q3), .second, .val (.int p4), .val (.long q5), .second, .val (.int p6), .val (.int t1), .val (.int t2), .val (.int a2), .val (.long g2), .second, .val (.ref b11), .val (.ref b25), .val (.int (((p6.toUInt32 >>> ((3 : Int32) &&& 31).toUInt32).toInt32) &&& (3 : Int32))), .unset] [(.int (0 : Int32))])) _
            simp only [if_neg hj162_58] at kt_
            exact kt_
        obtain ⟨ex, hex⟩ : ∃ z, z = (if t1 = t2 then (if p2 = a2 then (if (lcmpW q3 g2) = (0 : Int32) then (1 : Int32) else (0 : Int32)) else (0 : Int32)) else (0 : Int32)) := ⟨_, rfl⟩
        rw [← hex] at pre62
        have c63 := ((A23.ext Ee25).keep K37)
        have c64 := ((Fh0_23.ext Ee25).keep K37 (ninS ne_b11_b25 nin0))
        have c65 := ((Fh1_23.ext Ee25).keep K37 (ninS ne_b11_b25 nin0))
        have c66 := ((Fh2_23.ext Ee25).keep K37 (ninS ne_b11_b25 nin0))
        obtain ⟨cq67, kq67, q67a, q67b, q67c⟩ := isOf hZ rfl c63
        obtain ⟨_, _, ⟨T67, L67, k67, n67⟩, -, X67, ⟨Lc67, hQ67, l67, y67, z67⟩, st67⟩ := X37.virtualBack hx (y := (⟨"com/example/chronotag/chronotag/codec/Head", "equals", "(Ljava/lang/Object;)Z"⟩ : MethodName)) (z := (⟨"com/example/chronotag/chronotag/codec/Head", "equals", "(Ljava/lang/Object;)Z"⟩ : MethodName)) hown (mvT hZ (hw _ (List.mem_of_getElem? (i := 22) rfl))) (mvT hZ (hw _ (List.mem_of_getElem? (i := 23) rfl))) (notFace_of_selects (args := #[]) (mvT hZ (hw _ (List.mem_of_getElem? (i := 25) rfl)))) (mvT hZ (hw _ (List.mem_of_getElem? (i := 25) rfl))) (mvT hZ (hw _ (List.mem_of_getElem? (i := 24) rfl))) (by decide) (backOf (W := 0) (rmEq l Z a0 hw [] b11 b25 u1 p2 q3 u2 a2 g2 ex T37.heap n0 Zs38 c63 A37 c64 c65 c66 Fh0_37 Fh1_37 Fh2_37 (hex.trans (own_hx hinj _ _))) hZ (hw _ (List.mem_of_getElem? (i := 26) rfl)) (hw _ (List.mem_of_getElem? (i := 2) rfl)) (by decide) (by decide)) q67a q67c (g := (mkF m 189 #[.val (.int p1), .val (.int p2), .val (.long q3), .second, .val (.int p4), .val (.long q5), .second, .val (.int p6), .val (.int t1), .val (.int t2), .val (.int a2), .val (.long g2), .second, .val (.ref b11), .val (.ref b25), .val (.int (((p6.toUInt32 >>> ((3 : Int32) &&& 31).toUInt32).toInt32) &&& (3 : Int32))), .val (.int ex)] [(.ref b25), (.ref b11)])) rfl (by rw [hml]; rfl) (Steps.refl _) (argsL := [(.ref b25)]) (rest := []) (lenOf own_pd4 rfl) rfl (by show 2 * 0 + _ ≤ _; exact Nat.le_of_eq rfl) (hb hby at_189) (fun _ _ => ⟨rfl, rfl, (by decide : 2 + 0 ≤ _), (by decide : 6 + 0 ≤ _)⟩)
        dsimp only [Pt.U, Pt.locs, Pt.cells, Pt.slots] at X67 l67 y67 z67 st67 hQ67
        subst l67 y67 z67
        obtain ⟨rfl, N67q, eq67⟩ := hQ67
        have N67 := Fr.app N37 N67q
        obtain ⟨cq68, kq68, q68a, q68b, q68c⟩ := isOf hZ eq67 A37
        obtain ⟨_, _, ⟨T68, L68, k68, n68⟩, -, X68, ⟨Lc68, hQ68, l68, y68, z68⟩, st68⟩ := X67.virtualBack hx (y := (⟨"com/example/chronotag/chronotag/codec/Head", "equals", "(Ljava/lang/Object;)Z"⟩ : MethodName)) (z := (⟨"com/example/chronotag/chronotag/codec/Head", "equals", "(Ljava/lang/Object;)Z"⟩ : MethodName)) hown (mvT hZ (hw _ (List.mem_of_getElem? (i := 22) rfl))) (mvT hZ (hw _ (List.mem_of_getElem? (i := 23) rfl))) (notFace_of_selects (args := #[]) (mvT hZ (hw _ (List.mem_of_getElem? (i := 25) rfl)))) (mvT hZ (hw _ (List.mem_of_getElem? (i := 25) rfl))) (mvT hZ (hw _ (List.mem_of_getElem? (i := 24) rfl))) (by decide) (backOf (W := 0) (rmEq l Z a0 hw [] b25 b11 u2 a2 g2 u1 p2 q3 ex T37.heap n0 Zs38 A37 c63 Fh0_37 Fh1_37 Fh2_37 c64 c65 c66 ((hex.trans (own_hx hinj _ _)).trans (own_rev _ _ _ _ _ _))) hZ (hw _ (List.mem_of_getElem? (i := 26) rfl)) (hw _ (List.mem_of_getElem? (i := 2) rfl)) (by decide) (by decide)) q68a q68c (g := (mkF m 201 #[.val (.int p1), .val (.int p2), .val (.long q3), .second, .val (.int p4), .val (.long q5), .second, .val (.int p6), .val (.int t1), .val (.int t2), .val (.int a2), .val (.long g2), .second, .val (.ref b11), .val (.ref b25), .val (.int (((p6.toUInt32 >>> ((3 : Int32) &&& 31).toUInt32).toInt32) &&& (3 : Int32))), .val (.int ex)] [(.ref b11), (.ref b25)])) rfl (by rw [hml]; rfl) (Steps.refl _) (argsL := [(.ref b11)]) (rest := []) (lenOf own_pd4 rfl) rfl (by show 2 * 0 + _ ≤ _; exact Nat.le_of_eq rfl) (hb hby at_201) (fun _ _ => ⟨rfl, eq67, (by decide : 2 + 0 ≤ _), (by decide : 6 + 0 ≤ _)⟩)
        dsimp only [Pt.U, Pt.locs, Pt.cells, Pt.slots] at X68 l68 y68 z68 st68 hQ68
        subst l68 y68 z68
        obtain ⟨rfl, N68q, eq68⟩ := hQ68
        have N68 := Fr.app N67 N68q
        obtain ⟨fs, hr, hrun, hended, hW, hsame⟩ := X68.leave (v := some (.int (1 : Int32))) (fun h => by rw [Bd.returns] at h; cases h)
        refine ⟨_, _, pre62 _ ?_, hrun, hended, _, _, rfl, ?_, ⟨_, rfl⟩, hW, hsame.mono (by decide) (by decide)⟩
        ·
          show Steps p.tables e below (T37.setTop (mkF m 183 #[.val (.int p1), .val (.int p2), .val (.long q3), .second, .val (.int p4), .val (.long q5), .second, .val (.int p6), .val (.int t1), .val (.int t2), .val (.int a2), .val (.long g2), .second, .val (.ref b11), .val (.ref b25), .val (.int (((p6.toUInt32 >>> ((3 : Int32) &&& 31).toUInt32).toInt32) &&& (3 : Int32))), .unset] [(.int ex)])) _
          refine XS.istore X37.here hx rfl (hb hby at_183) rfl (l' := #[.val (.int p1), .val (.int p2), .val (.long q3), .second, .val (.int p4), .val (.long q5), .second, .val (.int p6), .val (.int t1), .val (.int t2), .val (.int a2), .val (.long g2), .second, .val (.ref b11), .val (.ref b25), .val (.int (((p6.toUInt32 >>> ((3 : Int32) &&& 31).toUInt32).toInt32) &&& (3 : Int32))), .val (.int ex)]) rfl ?_
          show Steps p.tables e below (T37.setTop (mkF m 185 #[.val (.int p1), .val (.int p2), .val (.long q3), .second, .val (.int p4), .val (.long q5), .second, .val (.int p6), .val (.int t1), .val (.int t2), .val (.int a2), .val (.long g2), .second, .val (.ref b11), .val (.ref b25), .val (.int (((p6.toUInt32 >>> ((3 : Int32) &&& 31).toUInt32).toInt32) &&& (3 : Int32))), .val (.int ex)] [])) _
          refine XS.aload X37.here hx rfl (hb hby at_185) rfl rfl ?_
          show Steps p.tables e below (T37.setTop (mkF m 187 #[.val (.int p1), .val (.int p2), .val (.long q3), .second, .val (.int p4), .val (.long q5), .second, .val (.int p6), .val (.int t1), .val (.int t2), .val (.int a2), .val (.long g2), .second, .val (.ref b11), .val (.ref b25), .val (.int (((p6.toUInt32 >>> ((3 : Int32) &&& 31).toUInt32).toInt32) &&& (3 : Int32))), .val (.int ex)] [(.ref b11)])) _
          refine XS.aload X37.here hx rfl (hb hby at_187) rfl rfl ?_
          show Steps p.tables e below (T37.setTop (mkF m 189 #[.val (.int p1), .val (.int p2), .val (.long q3), .second, .val (.int p4), .val (.long q5), .second, .val (.int p6), .val (.int t1), .val (.int t2), .val (.int a2), .val (.long g2), .second, .val (.ref b11), .val (.ref b25), .val (.int (((p6.toUInt32 >>> ((3 : Int32) &&& 31).toUInt32).toInt32) &&& (3 : Int32))), .val (.int ex)] [(.ref b25), (.ref b11)])) _
          refine st67.trans ?_
          show Steps p.tables e below (T67.setTop (mkF m 192 #[.val (.int p1), .val (.int p2), .val (.long q3), .second, .val (.int p4), .val (.long q5), .second, .val (.int p6), .val (.int t1), .val (.int t2), .val (.int a2), .val (.long g2), .second, .val (.ref b11), .val (.ref b25), .val (.int (((p6.toUInt32 >>> ((3 : Int32) &&& 31).toUInt32).toInt32) &&& (3 : Int32))), .val (.int ex)] [(.int ex)])) _
          refine XS.iload X67.here hx rfl (hb hby at_192) rfl ?_
          show Steps p.tables e below (T67.setTop (mkF m 194 #[.val (.int p1), .val (.int p2), .val (.long q3), .second, .val (.int p4), .val (.long q5), .second, .val (.int p6), .val (.int t1), .val (.int t2), .val (.int a2), .val (.long g2), .second, .val (.ref b11), .val (.ref b25), .val (.int (((p6.toUInt32 >>> ((3 : Int32) &&& 31).toUInt32).toInt32) &&& (3 : Int32))), .val (.int ex)] [(.int ex), (.int ex)])) _
          refine XS.icmpNo X67.here hx rfl (hb hby at_194) rfl (teq (rfl : ex = ex)).2 ?_
          show Steps p.tables e below (T67.setTop (mkF m 197 #[.val (.int p1), .val (.int p2), .val (.long q3), .second, .val (.int p4), .val (.long q5), .second, .val (.int p6), .val (.int t1), .val (.int t2), .val (.int a2), .val (.long g2), .second, .val (.ref b11), .val (.ref b25), .val (.int (((p6.toUInt32 >>> ((3 : Int32) &&& 31).toUInt32).toInt32) &&& (3 : Int32))), .val (.int ex)] [])) _
          refine XS.aload X67.here hx rfl (hb hby at_197) rfl rfl ?_
          show Steps p.tables e below (T67.setTop (mkF m 199 #[.val (.int p1), .val (.int p2), .val (.long q3), .second, .val (.int p4), .val (.long q5), .second, .val (.int p6), .val (.int t1), .val (.int t2), .val (.int a2), .val (.long g2), .second, .val (.ref b11), .val (.ref b25), .val (.int (((p6.toUInt32 >>> ((3 : Int32) &&& 31).toUInt32).toInt32) &&& (3 : Int32))), .val (.int ex)] [(.ref b25)])) _
          refine XS.aload X67.here hx rfl (hb hby at_199) rfl rfl ?_
          show Steps p.tables e below (T67.setTop (mkF m 201 #[.val (.int p1), .val (.int p2), .val (.long q3), .second, .val (.int p4), .val (.long q5), .second, .val (.int p6), .val (.int t1), .val (.int t2), .val (.int a2), .val (.long g2), .second, .val (.ref b11), .val (.ref b25), .val (.int (((p6.toUInt32 >>> ((3 : Int32) &&& 31).toUInt32).toInt32) &&& (3 : Int32))), .val (.int ex)] [(.ref b11), (.ref b25)])) _
          refine st68.trans ?_
          show Steps p.tables e below (T68.setTop (mkF m 204 #[.val (.int p1), .val (.int p2), .val (.long q3), .second, .val (.int p4), .val (.long q5), .second, .val (.int p6), .val (.int t1), .val (.int t2), .val (.int a2), .val (.long g2), .second, .val (.ref b11), .val (.ref b25), .val (.int (((p6.toUInt32 >>> ((3 : Int32) &&& 31).toUInt32).toInt32) &&& (3 : Int32))), .val (.int ex)] [(.int ex)])) _
          refine XS.iload X68.here hx rfl (hb hby at_204) rfl ?_
          show Steps p.tables e below (T68.setTop (mkF m 206 #[.val (.int p1), .val (.int p2), .val (.long q3), .second, .val (.int p4), .val (.long q5), .second, .val (.int p6), .val (.int t1), .val (.int t2), .val (.int a2), .val (.long g2), .second, .val (.ref b11), .val (.ref b25), .val (.int (((p6.toUInt32 >>> ((3 : Int32) &&& 31).toUInt32).toInt32) &&& (3 : Int32))), .val (.int ex)] [(.int ex), (.int ex)])) _
          refine XS.icmpNo X68.here hx rfl (hb hby at_206) rfl (teq (rfl : ex = ex)).2 ?_
          show Steps p.tables e below (T68.setTop (mkF m 209 #[.val (.int p1), .val (.int p2), .val (.long q3), .second, .val (.int p4), .val (.long q5), .second, .val (.int p6), .val (.int t1), .val (.int t2), .val (.int a2), .val (.long g2), .second, .val (.ref b11), .val (.ref b25), .val (.int (((p6.toUInt32 >>> ((3 : Int32) &&& 31).toUInt32).toInt32) &&& (3 : Int32))), .val (.int ex)] [])) _
          refine XS.iconst X68.here hx rfl (hb hby at_209) ?_
          show Steps p.tables e below (T68.setTop (mkF m 210 #[.val (.int p1), .val (.int p2), .val (.long q3), .second, .val (.int p4), .val (.long q5), .second, .val (.int p6), .val (.int t1), .val (.int t2), .val (.int a2), .val (.long g2), .second, .val (.ref b11), .val (.ref b25), .val (.int (((p6.toUInt32 >>> ((3 : Int32) &&& 31).toUInt32).toInt32) &&& (3 : Int32))), .val (.int ex)] [(.int (1 : Int32))])) _
          refine XS.goto X68.here hx rfl (pc0 := 210) (pc' := 214) rfl (hb hby at_210) (by decide) (by decide) ?_
          show Steps p.tables e below (T68.setTop (mkF m 214 #[.val (.int p1), .val (.int p2), .val (.long q3), .second, .val (.int p4), .val (.long q5), .second, .val (.int p6), .val (.int t1), .val (.int t2), .val (.int a2), .val (.long g2), .second, .val (.ref b11), .val (.ref b25), .val (.int (((p6.toUInt32 >>> ((3 : Int32) &&& 31).toUInt32).toInt32) &&& (3 : Int32))), .val (.int ex)] [(.int (1 : Int32))])) _
          exact retN X68 hx (t := .boolean) Bd.returns (by simp) (hb hby at_214) hr
        ·
          show Q_rm0 Z p1 p2 q3 p4 q5 p6 w0 w1 w2 w3 w4 w5 w6 w7 ca cc h0 n0 (_) T68.heap (_)
          rw [eq68]
          exact ⟨rfl, N68⟩
set_option maxRecDepth 65536 in
set_option maxHeartbeats 40000000 in
theorem comes_1 {Post : Tables → Env → Array Value → State → Outcome → State → Prop} (hpost : ∀ tb e args s v u, (limb_1_1.after args s (.returned v) u = true ∧ limb_1_2.after args s (.returned v) u = true ∧ True) → FrameEnd s (.returned v) u (Jvm.fieldLocs frame_1_writes args s ++ Jvm.arrayLocs frame_1_arrays args s ++ Jvm.staticLocs frame_1_statics s) 16 128 → Post tb e args s (.returned v) u) :
    ArmFor flags0 classFile x code maxLocals ret World_1 tables_1 room_1 Calls_1 rest_1 Pre_1 Post := by
  intro l hfl _ _ p e ha hc hk s m args below hf hA hF happ hP
  obtain ⟨hcalls, hrest, hpre⟩ := hP
  obtain ⟨-, -, -, hnamed, -, -, -, hat⟩ := (Spec.applies_iff hf).mp happ
  obtain ⟨hg, hn⟩ := and_e (Cond.before_iff.mp (show (Jvm.Cond.and given_1 narrow_1).before args s = true from hpre))
  obtain ⟨g1, g2⟩ := and_e hg
  obtain ⟨g3, g4⟩ := and_e g2
  obtain ⟨g5, g6⟩ := and_e g4
  obtain ⟨g7, g8⟩ := and_e g6
  obtain ⟨g9, g10⟩ := and_e g8
  obtain ⟨g11, g12⟩ := and_e g10
  obtain ⟨w0, w1, w2, w3, w4, w5, rfl⟩ : ∃ w0 w1 w2 w3 w4 w5 : Value, args = #[w0, w1, w2, w3, w4, w5] := by
    have hs : args.size = 6 := by simpa [Cond.value, given_1] using g1
    obtain ⟨L⟩ := args
    match L, hs with
    | [w0, w1, w2, w3, w4, w5], _ => exact ⟨w0, w1, w2, w3, w4, w5, rfl⟩
  have hw := fun d (hd : d ∈ tables_1) => atoms_spec (ws := Jvm.Cond.code x code maxLocals ret :: tables_1) hat d (List.mem_cons_of_mem _ hd)
  have hfit : Fit s := fun {y c} hc i hi => by
    obtain ⟨ha, rfl⟩ := Array.getElem?_eq_some_iff.mp hc
    have q := List.all_eq_true.mp ((Array.all_eq_true_iff_forall_mem.mp hF) _ (Array.getElem_mem ha)) i (List.mem_range.mpr hi)
    simpa [Array.getElem?_eq_getElem hi] using q
  obtain ⟨hsets, hown0⟩ := atoms_of _ (rest_1_c_eq ▸ (show rest_1_c.before _ s = true from hrest))
  have hr0 := Cond.before_iff.mp hown0
  obtain ⟨i0, ei0⟩ := is_v g3
  obtain rfl : w0 = (.int i0) := Option.some.inj ei0
  obtain ⟨i1, ei1⟩ := is_v g5
  obtain rfl : w1 = (.int i1) := Option.some.inj ei1
  obtain ⟨i2, ei2⟩ := isL_v g7
  obtain rfl : w2 = (.long i2) := Option.some.inj ei2
  obtain ⟨i3, ei3⟩ := is_v g9
  obtain rfl : w3 = (.int i3) := Option.some.inj ei3
  obtain ⟨i4, ei4⟩ := isL_v g11
  obtain rfl : w4 = (.long i4) := Option.some.inj ei4
  obtain ⟨i5, ei5⟩ := is_v g12
  obtain rfl : w5 = (.int i5) := Option.some.inj ei5
  obtain ⟨g13, g14⟩ := and_e hn
  obtain ⟨g15, g16⟩ := and_e g14
  obtain ⟨g17, g18⟩ := and_e g16
  obtain ⟨g19, g20⟩ := and_e g18
  obtain ⟨g21, g22⟩ := and_e g20
  obtain ⟨g23, g24⟩ := and_e g22
  obtain ⟨g25, g26⟩ := and_e g24
  obtain ⟨g27, g28⟩ := and_e g26
  obtain ⟨g29, g30⟩ := and_e g28
  obtain ⟨g31, g32⟩ := and_e g30
  obtain ⟨g33, g34⟩ := and_e g32
  obtain ⟨g35, g36⟩ := and_e g34
  obtain ⟨g37, g38⟩ := and_e g36
  obtain ⟨g39, g40⟩ := and_e g38
  obtain ⟨g41, g42⟩ := and_e g40
  have eh := own_eqI (Cond.before_iff.mp (hsets _ (List.mem_of_getElem? (i := 3) rfl)))
  have SH := Sta.start eh (Or.inr ⟨(hw _ (List.mem_of_getElem? (i := 44) rfl)), (hsets _ (List.mem_of_getElem? (i := 0) rfl))⟩)
  have hca := Cond.before_iff.mp (hsets _ (List.mem_of_getElem? (i := 4) rfl))
  obtain ⟨ca, eca⟩ := arr_v hca
  have SC := Sta.start eca (Or.inr ⟨(hw _ (List.mem_of_getElem? (i := 44) rfl)), (hsets _ (List.mem_of_getElem? (i := 2) rfl))⟩)
  obtain ⟨cc, Ac⟩ := Arr.start eca hca
  have hcl := Cond.before_iff.mp (hsets _ (List.mem_of_getElem? (i := 6) rfl))
  have hcz := own_len eca Ac hcl
  have hc31 := own_len31 eca Ac hcl
  have BX : Bxs s ca cc "java/lang/Integer" "I" 256 (fun j => .int (j - 128)) := Bxs.start (fun _ => eca) Ac hc31 hcz (by decide) (Cond.before_iff.mp (hsets _ (List.mem_of_getElem? (i := 7) rfl))) (fun X j hj hX => eqv_i (by simp only [Jvm.Term.eval, (back32 hj).1, List.getElem?_cons_zero, Option.map_some, Option.bind_some, Option.bind_eq_bind]; rfl) hX)
  obtain ⟨w_UNSIGNED_INTEGER, ev_UNSIGNED_INTEGER⟩ := exa_v g13
  have S_UNSIGNED_INTEGER := Sta.start ev_UNSIGNED_INTEGER (Or.inr ⟨(hw _ (List.mem_of_getElem? (i := 8) rfl)), (hw _ (List.mem_of_getElem? (i := 9) rfl))⟩)
  have E_UNSIGNED_INTEGER := Exa.start ev_UNSIGNED_INTEGER g13
  obtain ⟨w_SIMPLE_OR_FLOAT, ev_SIMPLE_OR_FLOAT⟩ := exa_v g15
  have S_SIMPLE_OR_FLOAT := Sta.start ev_SIMPLE_OR_FLOAT (Or.inr ⟨(hw _ (List.mem_of_getElem? (i := 8) rfl)), (hw _ (List.mem_of_getElem? (i := 30) rfl))⟩)
  have E_SIMPLE_OR_FLOAT := Exa.start ev_SIMPLE_OR_FLOAT g15
  obtain ⟨w_TAG, ev_TAG⟩ := exa_v g17
  have S_TAG := Sta.start ev_TAG (Or.inr ⟨(hw _ (List.mem_of_getElem? (i := 8) rfl)), (hw _ (List.mem_of_getElem? (i := 32) rfl))⟩)
  have E_TAG := Exa.start ev_TAG g17
  obtain ⟨w_MAP, ev_MAP⟩ := exa_v g19
  have S_MAP := Sta.start ev_MAP (Or.inr ⟨(hw _ (List.mem_of_getElem? (i := 8) rfl)), (hw _ (List.mem_of_getElem? (i := 34) rfl))⟩)
  have E_MAP := Exa.start ev_MAP g19
  obtain ⟨w_NEGATIVE_INTEGER, ev_NEGATIVE_INTEGER⟩ := exa_v g21
  have S_NEGATIVE_INTEGER := Sta.start ev_NEGATIVE_INTEGER (Or.inr ⟨(hw _ (List.mem_of_getElem? (i := 8) rfl)), (hw _ (List.mem_of_getElem? (i := 36) rfl))⟩)
  have E_NEGATIVE_INTEGER := Exa.start ev_NEGATIVE_INTEGER g21
  have F_MAP_ordinal := own_fldI ev_MAP g23
  have F_NEGATIVE_INTEGER_ordinal := own_fldI ev_NEGATIVE_INTEGER g25
  have F_TAG_ordinal := own_fldI ev_TAG g27
  have F_UNSIGNED_INTEGER_ordinal := own_fldI ev_UNSIGNED_INTEGER g29
  obtain ⟨w_BYTE_STRING, ev_BYTE_STRING⟩ := exa_v g31
  have S_BYTE_STRING := Sta.start ev_BYTE_STRING (Or.inr ⟨(hw _ (List.mem_of_getElem? (i := 8) rfl)), (hw _ (List.mem_of_getElem? (i := 38) rfl))⟩)
  have E_BYTE_STRING := Exa.start ev_BYTE_STRING g31
  have F_BYTE_STRING_ordinal := own_fldI ev_BYTE_STRING g33
  obtain ⟨w_ARRAY, ev_ARRAY⟩ := exa_v g35
  have S_ARRAY := Sta.start ev_ARRAY (Or.inr ⟨(hw _ (List.mem_of_getElem? (i := 8) rfl)), (hw _ (List.mem_of_getElem? (i := 64) rfl))⟩)
  have E_ARRAY := Exa.start ev_ARRAY g35
  obtain ⟨w_TEXT_STRING, ev_TEXT_STRING⟩ := exa_v g37
  have S_TEXT_STRING := Sta.start ev_TEXT_STRING (Or.inr ⟨(hw _ (List.mem_of_getElem? (i := 8) rfl)), (hw _ (List.mem_of_getElem? (i := 67) rfl))⟩)
  have E_TEXT_STRING := Exa.start ev_TEXT_STRING g37
  have F_SIMPLE_OR_FLOAT_ordinal := own_fldI ev_SIMPLE_OR_FLOAT g39
  have F_ARRAY_ordinal := own_fldI ev_ARRAY g41
  have F_TEXT_STRING_ordinal := own_fldI ev_TEXT_STRING g42
  obtain ⟨n, o, h1, h2, h3, _, L, rfl, ⟨rfl, N⟩, hq⟩ := rm0 l s _ hw tables_1 i0 i1 i2 i3 i4 i5 w_UNSIGNED_INTEGER w_NEGATIVE_INTEGER w_BYTE_STRING w_TEXT_STRING w_ARRAY w_MAP w_TAG w_SIMPLE_OR_FLOAT ca cc s.heap s.heap.size (Nat.le_refl _) (Old.start s) SH SC BX S_UNSIGNED_INTEGER S_NEGATIVE_INTEGER S_BYTE_STRING S_TEXT_STRING S_ARRAY S_MAP S_TAG S_SIMPLE_OR_FLOAT F_UNSIGNED_INTEGER_ordinal F_NEGATIVE_INTEGER_ordinal F_BYTE_STRING_ordinal F_TEXT_STRING_ordinal F_ARRAY_ordinal F_MAP_ordinal F_TAG_ordinal F_SIMPLE_OR_FLOAT_ordinal p e ha hc hk s m _ below hf ((Spec.applies_iff_loose hf).mp happ).1 ⟨rfl, State.Warmed39.refl s, rfl⟩ trivial
  refine ⟨n, _, h1, h2, h3, hpost _ _ _ _ _ _ ⟨Cond.after_iff.mpr rfl, Cond.after_iff.mpr (eq_i res_at (Term.int_eval (1)) rfl), trivial⟩ ⟨hq.1, hq.2.1, (hq.2.2.sift fun y hy => Or.inr (N y hy)).mono (by decide) (by decide)⟩⟩
theorem main_1_1 : Claimed_1_1 := comes_1 fun _ _ _ _ _ _ h hF => ⟨h.1, hF⟩
theorem main_1_2 : Claimed_1_2 := comes_1 fun _ _ _ _ _ _ h hF => ⟨h.2.1, hF⟩
end Jvm.Pilot.@@N@@
namespace Jvm.Pilot.@@N@@
open Jvm Jvm.ClassFile Sem Op Lib Jvm.Free Jvm.Stand Jvm.Pilot.@@N@@.Jvm.D
/-! MADE BY PROGRAM (witnessworld.py) out of the Statement's table words and the real class files: 18 classes; the members and pool entries that the words name. The judged class is class 1, her method 2. -/
namespace start1
open Jvm.ClassFile
def u (s : String) : CpInfo := .utf8 (stringToUtf16 s)
/-- a pool by its gaps: so many unusable entries, then the entry; so many at the end -/
def gap : Nat → List CpInfo → List CpInfo
  | 0, r => r
  | n + 1, r => .unusable :: gap n r
def poolList (es : List (Nat × CpInfo)) (last : Nat) : List CpInfo := es.foldr (fun e r => gap e.1 (e.2 :: r)) (gap last [])
def pool (es : List (Nat × CpInfo)) (last : Nat) : Array CpInfo := ⟨poolList es last⟩
def fileOf (pool : Array CpInfo) (this : Nat) (attrs : Array Attribute := #[]) (ms : Array MethodInfo := #[]) (fl : Nat := 33) (sup : Nat := 0) (ifs : Array Nat := #[]) (fds : Array FieldInfo := #[]) : ClassFile where
  minorVersion := 0
  majorVersion := 65
  constantPool := pool
  accessFlags := fl
  thisClass := this
  superClass := sup
  interfaces := ifs
  fields := fds
  methods := ms
  attributes := attrs
def plain (name : String) (sup : Option ClassId) : Class where
  name := name
  kind := .ordinary
  loader := none
  accessFlags := 33
  super := sup
  interfaces := #[]
  cf := none
  fields := #[]
  methods := #[]
  instanceTypes := #[]
  staticTypes := #[]
  resolved := #[]
  callSites := []
  init := .initialized
  statics := none
  mirror := none

def pool0 : Array CpInfo := pool [(5, u "<init>"), (0, u "()V"), (1, .class_ 10), (1, u "java/lang/Object")] 113

def k0c0 : Code := { maxStack := 0, maxLocals := 1, code := object_method_1_code, exceptionTable := #[], attributes := #[] }
def k0m0 : Method := { name := "<init>", desc := "()V", sig := { parameters := [], returnType := none }, accessFlags := 1, code := some k0c0 }
/-- java/lang/Object -/
def k0 : Class := { plain "java/lang/Object" none with
  accessFlags := 33
  interfaces := #[]
  cf := some (fileOf pool0 8 #[] #[{ accessFlags := 1, nameIndex := 5, descriptorIndex := 6, attributes := #[] }] 33 0 #[] #[])
  fields := #[]
  methods := #[k0m0]
  instanceTypes := #[]
  staticTypes := #[]
  resolved := Array.replicate 124 none
  statics := none }

def pool1 : Array CpInfo := pool [(2, .class_ 4), (1, u "java/lang/Object"), (0, u "<init>"), (0, u "()V"), (0, .fieldref 8 9), (0, .class_ 10), (0, .nameAndType 11 12), (0, u "com/example/chronotag/chronotag/codec/MajorType"), (0, u "UNSIGNED_INTEGER"), (0, u "Lcom/example/chronotag/chronotag/codec/MajorType;"), (0, .fieldref 8 14), (0, .nameAndType 15 12), (0, u "NEGATIVE_INTEGER"), (0, .fieldref 8 17), (0, .nameAndType 18 12), (0, u "BYTE_STRING"), (0, .fieldref 8 20), (0, .nameAndType 21 12), (0, u "TEXT_STRING"), (0, .fieldref 8 23), (0, .nameAndType 24 12), (0, u "ARRAY"), (0, .fieldref 8 26), (0, .nameAndType 27 12), (0, u "MAP"), (0, .fieldref 8 29), (0, .nameAndType 30 12), (0, u "TAG"), (0, .fieldref 8 32), (0, .nameAndType 33 12), (0, u "SIMPLE_OR_FLOAT"), (0, .class_ 35), (0, u "com/example/chronotag/chronotag/codec/Head"), (0, .methodref 37 38), (0, .class_ 39), (0, .nameAndType 40 41), (0, u "com/example/chronotag/chronotag/codec/HeadEqualsPinLaw"), (0, u "type"), (0, u "(I)Lcom/example/chronotag/chronotag/codec/MajorType;"), (0, .methodref 34 43), (0, .nameAndType 5 44), (0, u "(Lcom/example/chronotag/chronotag/codec/MajorType;IJ)V"), (0, .methodref 34 46), (0, .nameAndType 47 48), (0, u "equals"), (0, u "(Ljava/lang/Object;)Z"), (0, .methodref 50 51), (0, .class_ 52), (0, .nameAndType 53 54), (0, u "java/lang/Integer"), (0, u "valueOf"), (0, u "(I)Ljava/lang/Integer;"), (3, u "law"), (0, u "(IIJIJI)Z")] 2

def k1m0 : Method := { name := "<init>", desc := "()V", sig := { parameters := [], returnType := none }, accessFlags := 1, code := none }
def k1c1 : Code := { maxStack := 2, maxLocals := 1, code := method_2_code, exceptionTable := #[], attributes := #[] }
def k1m1 : Method := { name := "type", desc := "(I)Lcom/example/chronotag/chronotag/codec/MajorType;", sig := { parameters := [.int], returnType := some (.object "com/example/chronotag/chronotag/codec/MajorType") }, accessFlags := 10, code := some k1c1 }
def k1c2 : Code := { maxStack := 6, maxLocals := 17, code := code, exceptionTable := #[], attributes := #[] }
def k1m2 : Method := { name := "law", desc := "(IIJIJI)Z", sig := { parameters := [.int, .int, .long, .int, .long, .int], returnType := some .boolean }, accessFlags := 9, code := some k1c2 }
/-- com/example/chronotag/chronotag/codec/HeadEqualsPinLaw -/
def k1 : Class := { plain "com/example/chronotag/chronotag/codec/HeadEqualsPinLaw" (some 0) with
  accessFlags := 49
  interfaces := #[]
  cf := some (fileOf pool1 37 #[] #[{ accessFlags := 1, nameIndex := 5, descriptorIndex := 6, attributes := #[] }, { accessFlags := 10, nameIndex := 40, descriptorIndex := 41, attributes := #[] }, { accessFlags := 9, nameIndex := 58, descriptorIndex := 59, attributes := #[] }] 49 2 #[] #[])
  fields := #[]
  methods := #[k1m0, k1m1, k1m2]
  instanceTypes := #[]
  staticTypes := #[]
  resolved := Array.replicate 62 none
  statics := none }

def pool2 : Array CpInfo := pool [(1, .methodref 2 3), (0, .class_ 4), (0, .nameAndType 5 6), (0, u "java/lang/Object"), (0, u "<init>"), (0, u "()V"), (0, .fieldref 8 9), (0, .class_ 10), (0, .nameAndType 11 12), (0, u "com/example/chronotag/chronotag/codec/Head"), (0, u "majorType"), (0, u "Lcom/example/chronotag/chronotag/codec/MajorType;"), (0, .fieldref 8 14), (0, .nameAndType 15 16), (0, u "additionalInfo"), (0, u "I"), (0, .fieldref 8 18), (0, .nameAndType 19 20), (0, u "argument"), (0, u "J"), (158, u "INDEFINITE"), (2, u "FIRST_TWO_BYTE_SIMPLE_VALUE"), (1, u "NO_INDICATOR"), (1, u "(Lcom/example/chronotag/chronotag/codec/MajorType;IJ)V"), (10, u "equals"), (0, u "(Ljava/lang/Object;)Z")] 24

def k2c0 : Code := { maxStack := 3, maxLocals := 5, code := prog_14_method_1_code, exceptionTable := #[], attributes := #[] }
def k2m0 : Method := { name := "<init>", desc := "(Lcom/example/chronotag/chronotag/codec/MajorType;IJ)V", sig := { parameters := [(.object "com/example/chronotag/chronotag/codec/MajorType"), .int, .long], returnType := none }, accessFlags := 0, code := some k2c0 }
def k2c1 : Code := { maxStack := 4, maxLocals := 3, code := prog_14_method_15_code, exceptionTable := #[], attributes := #[] }
def k2m1 : Method := { name := "equals", desc := "(Ljava/lang/Object;)Z", sig := { parameters := [(.object "java/lang/Object")], returnType := some .boolean }, accessFlags := 1, code := some k2c1 }
/-- com/example/chronotag/chronotag/codec/Head -/
def k2 : Class := { plain "com/example/chronotag/chronotag/codec/Head" (some 0) with
  accessFlags := 49
  interfaces := #[]
  cf := some (fileOf pool2 8 #[] #[{ accessFlags := 0, nameIndex := 5, descriptorIndex := 186, attributes := #[] }, { accessFlags := 1, nameIndex := 197, descriptorIndex := 198, attributes := #[] }] 49 2 #[] #[{ accessFlags := 25, nameIndex := 179, descriptorIndex := 16, attributes := #[] }, { accessFlags := 24, nameIndex := 182, descriptorIndex := 16, attributes := #[] }, { accessFlags := 24, nameIndex := 184, descriptorIndex := 16, attributes := #[] }, { accessFlags := 18, nameIndex := 11, descriptorIndex := 12, attributes := #[] }, { accessFlags := 18, nameIndex := 15, descriptorIndex := 16, attributes := #[] }, { accessFlags := 18, nameIndex := 19, descriptorIndex := 20, attributes := #[] }])
  fields := #[{ name := "INDEFINITE", type := .int, accessFlags := 25, slot := 0, constantValue := 0 }, { name := "FIRST_TWO_BYTE_SIMPLE_VALUE", type := .int, accessFlags := 24, slot := 1, constantValue := 0 }, { name := "NO_INDICATOR", type := .int, accessFlags := 24, slot := 2, constantValue := 0 }, { name := "majorType", type := (.object "com/example/chronotag/chronotag/codec/MajorType"), accessFlags := 18, slot := 0, constantValue := 0 }, { name := "additionalInfo", type := .int, accessFlags := 18, slot := 1, constantValue := 0 }, { name := "argument", type := .long, accessFlags := 18, slot := 2, constantValue := 0 }]
  methods := #[k2m0, k2m1]
  instanceTypes := #[(.object "com/example/chronotag/chronotag/codec/MajorType"), .int, .long]
  staticTypes := #[.int, .int, .int]
  resolved := Array.replicate 223 none
  statics := none }

def pool3 : Array CpInfo := pool [(1, .class_ 2), (0, u "java/lang/constant/Constable"), (0, .class_ 4), (0, u "java/lang/Object")] 6

/-- java/lang/constant/Constable -/
def k3 : Class := { plain "java/lang/constant/Constable" (some 0) with
  accessFlags := 1537
  interfaces := #[]
  cf := some (fileOf pool3 1 #[] #[] 1537 3 #[] #[])
  fields := #[]
  methods := #[]
  instanceTypes := #[]
  staticTypes := #[]
  resolved := Array.replicate 11 none
  statics := none }

def pool4 : Array CpInfo := pool [(1, .class_ 2), (0, u "java/lang/Comparable"), (0, .class_ 4), (0, u "java/lang/Object")] 7

/-- java/lang/Comparable -/
def k4 : Class := { plain "java/lang/Comparable" (some 0) with
  accessFlags := 1537
  interfaces := #[]
  cf := some (fileOf pool4 1 #[] #[] 1537 3 #[] #[])
  fields := #[]
  methods := #[]
  instanceTypes := #[]
  staticTypes := #[]
  resolved := Array.replicate 12 none
  statics := none }

def pool5 : Array CpInfo := pool [(1, .class_ 2), (0, u "java/io/Serializable"), (0, .class_ 4), (0, u "java/lang/Object")] 2

/-- java/io/Serializable -/
def k5 : Class := { plain "java/io/Serializable" (some 0) with
  accessFlags := 1537
  interfaces := #[]
  cf := some (fileOf pool5 1 #[] #[] 1537 3 #[] #[])
  fields := #[]
  methods := #[]
  instanceTypes := #[]
  staticTypes := #[]
  resolved := Array.replicate 7 none
  statics := none }

def pool6 : Array CpInfo := pool [(2, .class_ 4), (1, u "java/lang/Enum"), (0, u "name"), (0, u "Ljava/lang/String;"), (2, u "ordinal"), (0, u "I"), (1, .class_ 14), (1, u "java/lang/Object"), (4, u "hash"), (86, .class_ 108), (1, u "java/lang/Enum$EnumDesc"), (2, .class_ 112), (0, u "java/lang/constant/Constable"), (0, .class_ 114), (0, u "java/lang/Comparable"), (0, .class_ 116), (0, u "java/io/Serializable")] 87

/-- java/lang/Enum -/
def k6 : Class := { plain "java/lang/Enum" (some 0) with
  accessFlags := 1057
  interfaces := #[3, 4, 5]
  cf := some (fileOf pool6 2 #[.nestMembers #[106]] #[] 1057 12 #[111, 113, 115] #[{ accessFlags := 18, nameIndex := 5, descriptorIndex := 6, attributes := #[] }, { accessFlags := 18, nameIndex := 9, descriptorIndex := 10, attributes := #[] }, { accessFlags := 2, nameIndex := 19, descriptorIndex := 10, attributes := #[] }])
  fields := #[{ name := "name", type := (.object "java/lang/String"), accessFlags := 18, slot := 0, constantValue := 0 }, { name := "ordinal", type := .int, accessFlags := 18, slot := 1, constantValue := 0 }, { name := "hash", type := .int, accessFlags := 2, slot := 2, constantValue := 0 }]
  methods := #[]
  instanceTypes := #[(.object "java/lang/String"), .int, .int]
  staticTypes := #[]
  resolved := Array.replicate 204 none
  statics := none }

def pool7 : Array CpInfo := pool [(1, .class_ 2), (0, u "com/example/chronotag/chronotag/codec/MajorType"), (2, u "UNSIGNED_INTEGER"), (0, u "Lcom/example/chronotag/chronotag/codec/MajorType;"), (2, u "NEGATIVE_INTEGER"), (2, u "BYTE_STRING"), (2, u "TEXT_STRING"), (2, u "ARRAY"), (2, u "MAP"), (2, u "TAG"), (2, u "SIMPLE_OR_FLOAT"), (2, u "$VALUES"), (0, u "[Lcom/example/chronotag/chronotag/codec/MajorType;"), (6, .class_ 40), (1, u "java/lang/Enum"), (12, u "BY_NUMBER")] 29

/-- com/example/chronotag/chronotag/codec/MajorType -/
def k7 : Class := { plain "com/example/chronotag/chronotag/codec/MajorType" (some 6) with
  accessFlags := 16433
  interfaces := #[]
  cf := some (fileOf pool7 1 #[] #[] 16433 38 #[] #[{ accessFlags := 16409, nameIndex := 5, descriptorIndex := 6, attributes := #[] }, { accessFlags := 16409, nameIndex := 9, descriptorIndex := 6, attributes := #[] }, { accessFlags := 16409, nameIndex := 12, descriptorIndex := 6, attributes := #[] }, { accessFlags := 16409, nameIndex := 15, descriptorIndex := 6, attributes := #[] }, { accessFlags := 16409, nameIndex := 18, descriptorIndex := 6, attributes := #[] }, { accessFlags := 16409, nameIndex := 21, descriptorIndex := 6, attributes := #[] }, { accessFlags := 16409, nameIndex := 24, descriptorIndex := 6, attributes := #[] }, { accessFlags := 16409, nameIndex := 27, descriptorIndex := 6, attributes := #[] }, { accessFlags := 26, nameIndex := 53, descriptorIndex := 31, attributes := #[] }, { accessFlags := 4122, nameIndex := 30, descriptorIndex := 31, attributes := #[] }])
  fields := #[{ name := "UNSIGNED_INTEGER", type := (.object "com/example/chronotag/chronotag/codec/MajorType"), accessFlags := 16409, slot := 0, constantValue := 0 }, { name := "NEGATIVE_INTEGER", type := (.object "com/example/chronotag/chronotag/codec/MajorType"), accessFlags := 16409, slot := 1, constantValue := 0 }, { name := "BYTE_STRING", type := (.object "com/example/chronotag/chronotag/codec/MajorType"), accessFlags := 16409, slot := 2, constantValue := 0 }, { name := "TEXT_STRING", type := (.object "com/example/chronotag/chronotag/codec/MajorType"), accessFlags := 16409, slot := 3, constantValue := 0 }, { name := "ARRAY", type := (.object "com/example/chronotag/chronotag/codec/MajorType"), accessFlags := 16409, slot := 4, constantValue := 0 }, { name := "MAP", type := (.object "com/example/chronotag/chronotag/codec/MajorType"), accessFlags := 16409, slot := 5, constantValue := 0 }, { name := "TAG", type := (.object "com/example/chronotag/chronotag/codec/MajorType"), accessFlags := 16409, slot := 6, constantValue := 0 }, { name := "SIMPLE_OR_FLOAT", type := (.object "com/example/chronotag/chronotag/codec/MajorType"), accessFlags := 16409, slot := 7, constantValue := 0 }, { name := "BY_NUMBER", type := (.array (.object "com/example/chronotag/chronotag/codec/MajorType")), accessFlags := 26, slot := 8, constantValue := 0 }, { name := "$VALUES", type := (.array (.object "com/example/chronotag/chronotag/codec/MajorType")), accessFlags := 4122, slot := 9, constantValue := 0 }]
  methods := #[]
  instanceTypes := #[(.object "java/lang/String"), .int, .int]
  staticTypes := #[(.object "com/example/chronotag/chronotag/codec/MajorType"), (.object "com/example/chronotag/chronotag/codec/MajorType"), (.object "com/example/chronotag/chronotag/codec/MajorType"), (.object "com/example/chronotag/chronotag/codec/MajorType"), (.object "com/example/chronotag/chronotag/codec/MajorType"), (.object "com/example/chronotag/chronotag/codec/MajorType"), (.object "com/example/chronotag/chronotag/codec/MajorType"), (.object "com/example/chronotag/chronotag/codec/MajorType"), (.array (.object "com/example/chronotag/chronotag/codec/MajorType")), (.array (.object "com/example/chronotag/chronotag/codec/MajorType"))]
  resolved := Array.replicate 83 none
  statics := some 0 }

def pool8 : Array CpInfo := pool [(1, .methodref 2 3), (0, .class_ 4), (0, .nameAndType 5 6), (0, u "java/lang/Object"), (0, u "<init>"), (0, u "()V"), (1, .class_ 10), (1, u "java/lang/Number"), (2, .class_ 14), (0, u "java/io/Serializable"), (0, u "serialVersionUID"), (0, u "J")] 20

def k8c0 : Code := { maxStack := 1, maxLocals := 1, code := jdk_18_method_1_code, exceptionTable := #[], attributes := #[] }
def k8m0 : Method := { name := "<init>", desc := "()V", sig := { parameters := [], returnType := none }, accessFlags := 1, code := some k8c0 }
/-- java/lang/Number -/
def k8 : Class := { plain "java/lang/Number" (some 0) with
  accessFlags := 1057
  interfaces := #[5]
  cf := some (fileOf pool8 8 #[] #[{ accessFlags := 1, nameIndex := 5, descriptorIndex := 6, attributes := #[] }] 1057 2 #[13] #[{ accessFlags := 26, nameIndex := 15, descriptorIndex := 16, attributes := #[] }])
  fields := #[{ name := "serialVersionUID", type := .long, accessFlags := 26, slot := 0, constantValue := 0 }]
  methods := #[k8m0]
  instanceTypes := #[]
  staticTypes := #[.long]
  resolved := Array.replicate 37 none
  statics := none }

def pool9 : Array CpInfo := pool [(1, .class_ 2), (0, u "java/lang/constant/ConstantDesc"), (0, .class_ 4), (0, u "java/lang/Object")] 32

/-- java/lang/constant/ConstantDesc -/
def k9 : Class := { plain "java/lang/constant/ConstantDesc" (some 0) with
  accessFlags := 1537
  interfaces := #[]
  cf := some (fileOf pool9 1 #[] #[] 1537 3 #[] #[])
  fields := #[]
  methods := #[]
  instanceTypes := #[]
  staticTypes := #[]
  resolved := Array.replicate 37 none
  statics := none }

def pool10 : Array CpInfo := pool [(1, .class_ 2), (0, u "java/lang/Integer"), (16, u "digits"), (0, u "[C"), (46, u "<init>"), (17, u "DigitOnes"), (0, u "[B"), (2, u "DigitTens"), (10, .nameAndType 67 101), (0, u "()V"), (85, u "valueOf"), (0, u "(I)Ljava/lang/Integer;"), (0, .class_ 190), (0, u "java/lang/Integer$IntegerCache"), (0, .fieldref 189 192), (0, .nameAndType 193 194), (0, u "high"), (0, u "I"), (0, .fieldref 189 196), (0, .nameAndType 197 198), (0, u "cache"), (0, u "[Ljava/lang/Integer;"), (0, .methodref 1 200), (0, .nameAndType 67 201), (0, u "(I)V"), (0, .methodref 203 100), (0, .class_ 204), (0, u "java/lang/Number"), (0, .fieldref 1 206), (0, .nameAndType 207 194), (0, u "value"), (94, u "TYPE"), (0, u "Ljava/lang/Class;"), (0, .class_ 305), (0, u "java/lang/Comparable"), (0, .class_ 307), (0, u "java/lang/constant/Constable"), (0, .class_ 309), (0, u "java/lang/constant/ConstantDesc"), (0, u "MIN_VALUE"), (1, u "MAX_VALUE"), (3, u "SIZE"), (1, u "BYTES"), (1, u "serialVersionUID"), (0, u "J")] 131

def k10c0 : Code := { maxStack := 3, maxLocals := 1, code := jdk_33_method_22_code, exceptionTable := #[], attributes := #[] }
def k10m0 : Method := { name := "valueOf", desc := "(I)Ljava/lang/Integer;", sig := { parameters := [.int], returnType := some (.object "java/lang/Integer") }, accessFlags := 9, code := some k10c0 }
def k10c1 : Code := { maxStack := 2, maxLocals := 2, code := jdk_33_method_23_code, exceptionTable := #[], attributes := #[] }
def k10m1 : Method := { name := "<init>", desc := "(I)V", sig := { parameters := [.int], returnType := none }, accessFlags := 1, code := some k10c1 }
/-- java/lang/Integer -/
def k10 : Class := { plain "java/lang/Integer" (some 8) with
  accessFlags := 49
  interfaces := #[4, 3, 9]
  cf := some (fileOf pool10 1 #[.nestMembers #[189]] #[{ accessFlags := 9, nameIndex := 187, descriptorIndex := 188, attributes := #[] }, { accessFlags := 1, nameIndex := 67, descriptorIndex := 201, attributes := #[] }] 49 203 #[304, 306, 308] #[{ accessFlags := 25, nameIndex := 310, descriptorIndex := 194, attributes := #[] }, { accessFlags := 25, nameIndex := 312, descriptorIndex := 194, attributes := #[] }, { accessFlags := 25, nameIndex := 302, descriptorIndex := 303, attributes := #[] }, { accessFlags := 24, nameIndex := 19, descriptorIndex := 20, attributes := #[] }, { accessFlags := 24, nameIndex := 89, descriptorIndex := 86, attributes := #[] }, { accessFlags := 24, nameIndex := 85, descriptorIndex := 86, attributes := #[] }, { accessFlags := 18, nameIndex := 207, descriptorIndex := 194, attributes := #[] }, { accessFlags := 25, nameIndex := 316, descriptorIndex := 194, attributes := #[] }, { accessFlags := 25, nameIndex := 318, descriptorIndex := 194, attributes := #[] }, { accessFlags := 26, nameIndex := 320, descriptorIndex := 321, attributes := #[] }])
  fields := #[{ name := "MIN_VALUE", type := .int, accessFlags := 25, slot := 0, constantValue := 0 }, { name := "MAX_VALUE", type := .int, accessFlags := 25, slot := 1, constantValue := 0 }, { name := "TYPE", type := (.object "java/lang/Class"), accessFlags := 25, slot := 2, constantValue := 0 }, { name := "digits", type := (.array .char), accessFlags := 24, slot := 3, constantValue := 0 }, { name := "DigitTens", type := (.array .byte), accessFlags := 24, slot := 4, constantValue := 0 }, { name := "DigitOnes", type := (.array .byte), accessFlags := 24, slot := 5, constantValue := 0 }, { name := "value", type := .int, accessFlags := 18, slot := 0, constantValue := 0 }, { name := "SIZE", type := .int, accessFlags := 25, slot := 6, constantValue := 0 }, { name := "BYTES", type := .int, accessFlags := 25, slot := 7, constantValue := 0 }, { name := "serialVersionUID", type := .long, accessFlags := 26, slot := 8, constantValue := 0 }]
  methods := #[k10m0, k10m1]
  instanceTypes := #[.int]
  staticTypes := #[.int, .int, (.object "java/lang/Class"), (.array .char), (.array .byte), (.array .byte), .int, .int, .long]
  resolved := Array.replicate 453 none
  statics := none }

def pool11 : Array CpInfo := pool [(2, .class_ 4), (1, u "java/lang/Object"), (0, u "<init>"), (0, u "()V"), (0, .class_ 8), (0, u "java/lang/Integer"), (7, .class_ 18), (1, u "java/lang/Integer$IntegerCache"), (0, u "$assertionsDisabled"), (0, u "Z"), (26, u "high"), (0, u "I"), (8, u "archivedCache"), (0, u "[Ljava/lang/Integer;"), (12, u "cache"), (0, u "low")] 27

def k11m0 : Method := { name := "<init>", desc := "()V", sig := { parameters := [], returnType := none }, accessFlags := 2, code := none }
/-- java/lang/Integer$IntegerCache -/
def k11 : Class := { plain "java/lang/Integer$IntegerCache" (some 0) with
  accessFlags := 48
  interfaces := #[]
  cf := some (fileOf pool11 16 #[.nestHost 7] #[{ accessFlags := 2, nameIndex := 5, descriptorIndex := 6, attributes := #[] }] 48 2 #[] #[{ accessFlags := 24, nameIndex := 72, descriptorIndex := 48, attributes := #[] }, { accessFlags := 24, nameIndex := 47, descriptorIndex := 48, attributes := #[] }, { accessFlags := 24, nameIndex := 71, descriptorIndex := 58, attributes := #[] }, { accessFlags := 8, nameIndex := 57, descriptorIndex := 58, attributes := #[] }, { accessFlags := 4120, nameIndex := 19, descriptorIndex := 20, attributes := #[] }])
  fields := #[{ name := "low", type := .int, accessFlags := 24, slot := 0, constantValue := 0 }, { name := "high", type := .int, accessFlags := 24, slot := 1, constantValue := 0 }, { name := "cache", type := (.array (.object "java/lang/Integer")), accessFlags := 24, slot := 2, constantValue := 0 }, { name := "archivedCache", type := (.array (.object "java/lang/Integer")), accessFlags := 8, slot := 3, constantValue := 0 }, { name := "$assertionsDisabled", type := .boolean, accessFlags := 4120, slot := 4, constantValue := 0 }]
  methods := #[k11m0]
  instanceTypes := #[]
  staticTypes := #[.int, .int, (.array (.object "java/lang/Integer")), (.array (.object "java/lang/Integer")), .boolean]
  resolved := Array.replicate 100 none
  statics := some 1 }

def pool12 : Array CpInfo := pool [(1, u "java/lang/Cloneable"), (0, .class_ 1), (0, u "java/lang/Object"), (0, .class_ 3)] 3

/-- java/lang/Cloneable -/
def k12 : Class := { plain "java/lang/Cloneable" (some 0) with
  accessFlags := 1537
  interfaces := #[]
  cf := some (fileOf pool12 2 #[] #[] 1537 4 #[] #[])
  fields := #[]
  methods := #[]
  instanceTypes := #[]
  staticTypes := #[]
  resolved := Array.replicate 8 none
  statics := none }

/-- the primitive byte -/
def k13 : Class := { plain "byte" none with kind := .primitive 'B', accessFlags := 0x411 }
/-- [B -/
def k14 : Class := { plain "[B" (some 0) with kind := .array 13 .byte, interfaces := #[12, 5], accessFlags := 1041 }

/-- the primitive int -/
def k15 : Class := { plain "int" none with kind := .primitive 'I', accessFlags := 0x411 }
/-- [I -/
def k16 : Class := { plain "[I" (some 0) with kind := .array 15 .int, interfaces := #[12, 5], accessFlags := 1041 }

/-- [Ljava/lang/Integer; -/
def k17 : Class := { plain "[Ljava/lang/Integer;" (some 0) with kind := .array 10 (.object "java/lang/Integer"), interfaces := #[12, 5], accessFlags := 1041 }

def heap : Heap := #[{ cls := 7, slots := #[.ref 3, .ref 4, .ref 5, .ref 6, .ref 7, .ref 8, .ref 9, .ref 10, .null, .null], vm := .statics 7 },
  { cls := 11, slots := #[.int 0, .int 127, .ref 2, .null, .int 0], vm := .statics 11 },
  { cls := 17, slots := #[.ref 11, .ref 12, .ref 13, .ref 14, .ref 15, .ref 16, .ref 17, .ref 18, .ref 19, .ref 20, .ref 21, .ref 22, .ref 23, .ref 24, .ref 25, .ref 26, .ref 27, .ref 28, .ref 29, .ref 30, .ref 31, .ref 32, .ref 33, .ref 34, .ref 35, .ref 36, .ref 37, .ref 38, .ref 39, .ref 40, .ref 41, .ref 42, .ref 43, .ref 44, .ref 45, .ref 46, .ref 47, .ref 48, .ref 49, .ref 50, .ref 51, .ref 52, .ref 53, .ref 54, .ref 55, .ref 56, .ref 57, .ref 58, .ref 59, .ref 60, .ref 61, .ref 62, .ref 63, .ref 64, .ref 65, .ref 66, .ref 67, .ref 68, .ref 69, .ref 70, .ref 71, .ref 72, .ref 73, .ref 74, .ref 75, .ref 76, .ref 77, .ref 78, .ref 79, .ref 80, .ref 81, .ref 82, .ref 83, .ref 84, .ref 85, .ref 86, .ref 87, .ref 88, .ref 89, .ref 90, .ref 91, .ref 92, .ref 93, .ref 94, .ref 95, .ref 96, .ref 97, .ref 98, .ref 99, .ref 100, .ref 101, .ref 102, .ref 103, .ref 104, .ref 105, .ref 106, .ref 107, .ref 108, .ref 109, .ref 110, .ref 111, .ref 112, .ref 113, .ref 114, .ref 115, .ref 116, .ref 117, .ref 118, .ref 119, .ref 120, .ref 121, .ref 122, .ref 123, .ref 124, .ref 125, .ref 126, .ref 127, .ref 128, .ref 129, .ref 130, .ref 131, .ref 132, .ref 133, .ref 134, .ref 135, .ref 136, .ref 137, .ref 138, .ref 139, .ref 140, .ref 141, .ref 142, .ref 143, .ref 144, .ref 145, .ref 146, .ref 147, .ref 148, .ref 149, .ref 150, .ref 151, .ref 152, .ref 153, .ref 154, .ref 155, .ref 156, .ref 157, .ref 158, .ref 159, .ref 160, .ref 161, .ref 162, .ref 163, .ref 164, .ref 165, .ref 166, .ref 167, .ref 168, .ref 169, .ref 170, .ref 171, .ref 172, .ref 173, .ref 174, .ref 175, .ref 176, .ref 177, .ref 178, .ref 179, .ref 180, .ref 181, .ref 182, .ref 183, .ref 184, .ref 185, .ref 186, .ref 187, .ref 188, .ref 189, .ref 190, .ref 191, .ref 192, .ref 193, .ref 194, .ref 195, .ref 196, .ref 197, .ref 198, .ref 199, .ref 200, .ref 201, .ref 202, .ref 203, .ref 204, .ref 205, .ref 206, .ref 207, .ref 208, .ref 209, .ref 210, .ref 211, .ref 212, .ref 213, .ref 214, .ref 215, .ref 216, .ref 217, .ref 218, .ref 219, .ref 220, .ref 221, .ref 222, .ref 223, .ref 224, .ref 225, .ref 226, .ref 227, .ref 228, .ref 229, .ref 230, .ref 231, .ref 232, .ref 233, .ref 234, .ref 235, .ref 236, .ref 237, .ref 238, .ref 239, .ref 240, .ref 241, .ref 242, .ref 243, .ref 244, .ref 245, .ref 246, .ref 247, .ref 248, .ref 249, .ref 250, .ref 251, .ref 252, .ref 253, .ref 254, .ref 255, .ref 256, .ref 257, .ref 258, .ref 259, .ref 260, .ref 261, .ref 262, .ref 263, .ref 264, .ref 265, .ref 266], vm := .none },
  { cls := 7, slots := #[.null, .int 0, .int 0], vm := .none },
  { cls := 7, slots := #[.null, .int 1, .int 0], vm := .none },
  { cls := 7, slots := #[.null, .int 2, .int 0], vm := .none },
  { cls := 7, slots := #[.null, .int 3, .int 0], vm := .none },
  { cls := 7, slots := #[.null, .int 4, .int 0], vm := .none },
  { cls := 7, slots := #[.null, .int 5, .int 0], vm := .none },
  { cls := 7, slots := #[.null, .int 6, .int 0], vm := .none },
  { cls := 7, slots := #[.null, .int 7, .int 0], vm := .none },
  { cls := 10, slots := #[.int (-128)], vm := .none },
  { cls := 10, slots := #[.int (-127)], vm := .none },
  { cls := 10, slots := #[.int (-126)], vm := .none },
  { cls := 10, slots := #[.int (-125)], vm := .none },
  { cls := 10, slots := #[.int (-124)], vm := .none },
  { cls := 10, slots := #[.int (-123)], vm := .none },
  { cls := 10, slots := #[.int (-122)], vm := .none },
  { cls := 10, slots := #[.int (-121)], vm := .none },
  { cls := 10, slots := #[.int (-120)], vm := .none },
  { cls := 10, slots := #[.int (-119)], vm := .none },
  { cls := 10, slots := #[.int (-118)], vm := .none },
  { cls := 10, slots := #[.int (-117)], vm := .none },
  { cls := 10, slots := #[.int (-116)], vm := .none },
  { cls := 10, slots := #[.int (-115)], vm := .none },
  { cls := 10, slots := #[.int (-114)], vm := .none },
  { cls := 10, slots := #[.int (-113)], vm := .none },
  { cls := 10, slots := #[.int (-112)], vm := .none },
  { cls := 10, slots := #[.int (-111)], vm := .none },
  { cls := 10, slots := #[.int (-110)], vm := .none },
  { cls := 10, slots := #[.int (-109)], vm := .none },
  { cls := 10, slots := #[.int (-108)], vm := .none },
  { cls := 10, slots := #[.int (-107)], vm := .none },
  { cls := 10, slots := #[.int (-106)], vm := .none },
  { cls := 10, slots := #[.int (-105)], vm := .none },
  { cls := 10, slots := #[.int (-104)], vm := .none },
  { cls := 10, slots := #[.int (-103)], vm := .none },
  { cls := 10, slots := #[.int (-102)], vm := .none },
  { cls := 10, slots := #[.int (-101)], vm := .none },
  { cls := 10, slots := #[.int (-100)], vm := .none },
  { cls := 10, slots := #[.int (-99)], vm := .none },
  { cls := 10, slots := #[.int (-98)], vm := .none },
  { cls := 10, slots := #[.int (-97)], vm := .none },
  { cls := 10, slots := #[.int (-96)], vm := .none },
  { cls := 10, slots := #[.int (-95)], vm := .none },
  { cls := 10, slots := #[.int (-94)], vm := .none },
  { cls := 10, slots := #[.int (-93)], vm := .none },
  { cls := 10, slots := #[.int (-92)], vm := .none },
  { cls := 10, slots := #[.int (-91)], vm := .none },
  { cls := 10, slots := #[.int (-90)], vm := .none },
  { cls := 10, slots := #[.int (-89)], vm := .none },
  { cls := 10, slots := #[.int (-88)], vm := .none },
  { cls := 10, slots := #[.int (-87)], vm := .none },
  { cls := 10, slots := #[.int (-86)], vm := .none },
  { cls := 10, slots := #[.int (-85)], vm := .none },
  { cls := 10, slots := #[.int (-84)], vm := .none },
  { cls := 10, slots := #[.int (-83)], vm := .none },
  { cls := 10, slots := #[.int (-82)], vm := .none },
  { cls := 10, slots := #[.int (-81)], vm := .none },
  { cls := 10, slots := #[.int (-80)], vm := .none },
  { cls := 10, slots := #[.int (-79)], vm := .none },
  { cls := 10, slots := #[.int (-78)], vm := .none },
  { cls := 10, slots := #[.int (-77)], vm := .none },
  { cls := 10, slots := #[.int (-76)], vm := .none },
  { cls := 10, slots := #[.int (-75)], vm := .none },
  { cls := 10, slots := #[.int (-74)], vm := .none },
  { cls := 10, slots := #[.int (-73)], vm := .none },
  { cls := 10, slots := #[.int (-72)], vm := .none },
  { cls := 10, slots := #[.int (-71)], vm := .none },
  { cls := 10, slots := #[.int (-70)], vm := .none },
  { cls := 10, slots := #[.int (-69)], vm := .none },
  { cls := 10, slots := #[.int (-68)], vm := .none },
  { cls := 10, slots := #[.int (-67)], vm := .none },
  { cls := 10, slots := #[.int (-66)], vm := .none },
  { cls := 10, slots := #[.int (-65)], vm := .none },
  { cls := 10, slots := #[.int (-64)], vm := .none },
  { cls := 10, slots := #[.int (-63)], vm := .none },
  { cls := 10, slots := #[.int (-62)], vm := .none },
  { cls := 10, slots := #[.int (-61)], vm := .none },
  { cls := 10, slots := #[.int (-60)], vm := .none },
  { cls := 10, slots := #[.int (-59)], vm := .none },
  { cls := 10, slots := #[.int (-58)], vm := .none },
  { cls := 10, slots := #[.int (-57)], vm := .none },
  { cls := 10, slots := #[.int (-56)], vm := .none },
  { cls := 10, slots := #[.int (-55)], vm := .none },
  { cls := 10, slots := #[.int (-54)], vm := .none },
  { cls := 10, slots := #[.int (-53)], vm := .none },
  { cls := 10, slots := #[.int (-52)], vm := .none },
  { cls := 10, slots := #[.int (-51)], vm := .none },
  { cls := 10, slots := #[.int (-50)], vm := .none },
  { cls := 10, slots := #[.int (-49)], vm := .none },
  { cls := 10, slots := #[.int (-48)], vm := .none },
  { cls := 10, slots := #[.int (-47)], vm := .none },
  { cls := 10, slots := #[.int (-46)], vm := .none },
  { cls := 10, slots := #[.int (-45)], vm := .none },
  { cls := 10, slots := #[.int (-44)], vm := .none },
  { cls := 10, slots := #[.int (-43)], vm := .none },
  { cls := 10, slots := #[.int (-42)], vm := .none },
  { cls := 10, slots := #[.int (-41)], vm := .none },
  { cls := 10, slots := #[.int (-40)], vm := .none },
  { cls := 10, slots := #[.int (-39)], vm := .none },
  { cls := 10, slots := #[.int (-38)], vm := .none },
  { cls := 10, slots := #[.int (-37)], vm := .none },
  { cls := 10, slots := #[.int (-36)], vm := .none },
  { cls := 10, slots := #[.int (-35)], vm := .none },
  { cls := 10, slots := #[.int (-34)], vm := .none },
  { cls := 10, slots := #[.int (-33)], vm := .none },
  { cls := 10, slots := #[.int (-32)], vm := .none },
  { cls := 10, slots := #[.int (-31)], vm := .none },
  { cls := 10, slots := #[.int (-30)], vm := .none },
  { cls := 10, slots := #[.int (-29)], vm := .none },
  { cls := 10, slots := #[.int (-28)], vm := .none },
  { cls := 10, slots := #[.int (-27)], vm := .none },
  { cls := 10, slots := #[.int (-26)], vm := .none },
  { cls := 10, slots := #[.int (-25)], vm := .none },
  { cls := 10, slots := #[.int (-24)], vm := .none },
  { cls := 10, slots := #[.int (-23)], vm := .none },
  { cls := 10, slots := #[.int (-22)], vm := .none },
  { cls := 10, slots := #[.int (-21)], vm := .none },
  { cls := 10, slots := #[.int (-20)], vm := .none },
  { cls := 10, slots := #[.int (-19)], vm := .none },
  { cls := 10, slots := #[.int (-18)], vm := .none },
  { cls := 10, slots := #[.int (-17)], vm := .none },
  { cls := 10, slots := #[.int (-16)], vm := .none },
  { cls := 10, slots := #[.int (-15)], vm := .none },
  { cls := 10, slots := #[.int (-14)], vm := .none },
  { cls := 10, slots := #[.int (-13)], vm := .none },
  { cls := 10, slots := #[.int (-12)], vm := .none },
  { cls := 10, slots := #[.int (-11)], vm := .none },
  { cls := 10, slots := #[.int (-10)], vm := .none },
  { cls := 10, slots := #[.int (-9)], vm := .none },
  { cls := 10, slots := #[.int (-8)], vm := .none },
  { cls := 10, slots := #[.int (-7)], vm := .none },
  { cls := 10, slots := #[.int (-6)], vm := .none },
  { cls := 10, slots := #[.int (-5)], vm := .none },
  { cls := 10, slots := #[.int (-4)], vm := .none },
  { cls := 10, slots := #[.int (-3)], vm := .none },
  { cls := 10, slots := #[.int (-2)], vm := .none },
  { cls := 10, slots := #[.int (-1)], vm := .none },
  { cls := 10, slots := #[.int 0], vm := .none },
  { cls := 10, slots := #[.int 1], vm := .none },
  { cls := 10, slots := #[.int 2], vm := .none },
  { cls := 10, slots := #[.int 3], vm := .none },
  { cls := 10, slots := #[.int 4], vm := .none },
  { cls := 10, slots := #[.int 5], vm := .none },
  { cls := 10, slots := #[.int 6], vm := .none },
  { cls := 10, slots := #[.int 7], vm := .none },
  { cls := 10, slots := #[.int 8], vm := .none },
  { cls := 10, slots := #[.int 9], vm := .none },
  { cls := 10, slots := #[.int 10], vm := .none },
  { cls := 10, slots := #[.int 11], vm := .none },
  { cls := 10, slots := #[.int 12], vm := .none },
  { cls := 10, slots := #[.int 13], vm := .none },
  { cls := 10, slots := #[.int 14], vm := .none },
  { cls := 10, slots := #[.int 15], vm := .none },
  { cls := 10, slots := #[.int 16], vm := .none },
  { cls := 10, slots := #[.int 17], vm := .none },
  { cls := 10, slots := #[.int 18], vm := .none },
  { cls := 10, slots := #[.int 19], vm := .none },
  { cls := 10, slots := #[.int 20], vm := .none },
  { cls := 10, slots := #[.int 21], vm := .none },
  { cls := 10, slots := #[.int 22], vm := .none },
  { cls := 10, slots := #[.int 23], vm := .none },
  { cls := 10, slots := #[.int 24], vm := .none },
  { cls := 10, slots := #[.int 25], vm := .none },
  { cls := 10, slots := #[.int 26], vm := .none },
  { cls := 10, slots := #[.int 27], vm := .none },
  { cls := 10, slots := #[.int 28], vm := .none },
  { cls := 10, slots := #[.int 29], vm := .none },
  { cls := 10, slots := #[.int 30], vm := .none },
  { cls := 10, slots := #[.int 31], vm := .none },
  { cls := 10, slots := #[.int 32], vm := .none },
  { cls := 10, slots := #[.int 33], vm := .none },
  { cls := 10, slots := #[.int 34], vm := .none },
  { cls := 10, slots := #[.int 35], vm := .none },
  { cls := 10, slots := #[.int 36], vm := .none },
  { cls := 10, slots := #[.int 37], vm := .none },
  { cls := 10, slots := #[.int 38], vm := .none },
  { cls := 10, slots := #[.int 39], vm := .none },
  { cls := 10, slots := #[.int 40], vm := .none },
  { cls := 10, slots := #[.int 41], vm := .none },
  { cls := 10, slots := #[.int 42], vm := .none },
  { cls := 10, slots := #[.int 43], vm := .none },
  { cls := 10, slots := #[.int 44], vm := .none },
  { cls := 10, slots := #[.int 45], vm := .none },
  { cls := 10, slots := #[.int 46], vm := .none },
  { cls := 10, slots := #[.int 47], vm := .none },
  { cls := 10, slots := #[.int 48], vm := .none },
  { cls := 10, slots := #[.int 49], vm := .none },
  { cls := 10, slots := #[.int 50], vm := .none },
  { cls := 10, slots := #[.int 51], vm := .none },
  { cls := 10, slots := #[.int 52], vm := .none },
  { cls := 10, slots := #[.int 53], vm := .none },
  { cls := 10, slots := #[.int 54], vm := .none },
  { cls := 10, slots := #[.int 55], vm := .none },
  { cls := 10, slots := #[.int 56], vm := .none },
  { cls := 10, slots := #[.int 57], vm := .none },
  { cls := 10, slots := #[.int 58], vm := .none },
  { cls := 10, slots := #[.int 59], vm := .none },
  { cls := 10, slots := #[.int 60], vm := .none },
  { cls := 10, slots := #[.int 61], vm := .none },
  { cls := 10, slots := #[.int 62], vm := .none },
  { cls := 10, slots := #[.int 63], vm := .none },
  { cls := 10, slots := #[.int 64], vm := .none },
  { cls := 10, slots := #[.int 65], vm := .none },
  { cls := 10, slots := #[.int 66], vm := .none },
  { cls := 10, slots := #[.int 67], vm := .none },
  { cls := 10, slots := #[.int 68], vm := .none },
  { cls := 10, slots := #[.int 69], vm := .none },
  { cls := 10, slots := #[.int 70], vm := .none },
  { cls := 10, slots := #[.int 71], vm := .none },
  { cls := 10, slots := #[.int 72], vm := .none },
  { cls := 10, slots := #[.int 73], vm := .none },
  { cls := 10, slots := #[.int 74], vm := .none },
  { cls := 10, slots := #[.int 75], vm := .none },
  { cls := 10, slots := #[.int 76], vm := .none },
  { cls := 10, slots := #[.int 77], vm := .none },
  { cls := 10, slots := #[.int 78], vm := .none },
  { cls := 10, slots := #[.int 79], vm := .none },
  { cls := 10, slots := #[.int 80], vm := .none },
  { cls := 10, slots := #[.int 81], vm := .none },
  { cls := 10, slots := #[.int 82], vm := .none },
  { cls := 10, slots := #[.int 83], vm := .none },
  { cls := 10, slots := #[.int 84], vm := .none },
  { cls := 10, slots := #[.int 85], vm := .none },
  { cls := 10, slots := #[.int 86], vm := .none },
  { cls := 10, slots := #[.int 87], vm := .none },
  { cls := 10, slots := #[.int 88], vm := .none },
  { cls := 10, slots := #[.int 89], vm := .none },
  { cls := 10, slots := #[.int 90], vm := .none },
  { cls := 10, slots := #[.int 91], vm := .none },
  { cls := 10, slots := #[.int 92], vm := .none },
  { cls := 10, slots := #[.int 93], vm := .none },
  { cls := 10, slots := #[.int 94], vm := .none },
  { cls := 10, slots := #[.int 95], vm := .none },
  { cls := 10, slots := #[.int 96], vm := .none },
  { cls := 10, slots := #[.int 97], vm := .none },
  { cls := 10, slots := #[.int 98], vm := .none },
  { cls := 10, slots := #[.int 99], vm := .none },
  { cls := 10, slots := #[.int 100], vm := .none },
  { cls := 10, slots := #[.int 101], vm := .none },
  { cls := 10, slots := #[.int 102], vm := .none },
  { cls := 10, slots := #[.int 103], vm := .none },
  { cls := 10, slots := #[.int 104], vm := .none },
  { cls := 10, slots := #[.int 105], vm := .none },
  { cls := 10, slots := #[.int 106], vm := .none },
  { cls := 10, slots := #[.int 107], vm := .none },
  { cls := 10, slots := #[.int 108], vm := .none },
  { cls := 10, slots := #[.int 109], vm := .none },
  { cls := 10, slots := #[.int 110], vm := .none },
  { cls := 10, slots := #[.int 111], vm := .none },
  { cls := 10, slots := #[.int 112], vm := .none },
  { cls := 10, slots := #[.int 113], vm := .none },
  { cls := 10, slots := #[.int 114], vm := .none },
  { cls := 10, slots := #[.int 115], vm := .none },
  { cls := 10, slots := #[.int 116], vm := .none },
  { cls := 10, slots := #[.int 117], vm := .none },
  { cls := 10, slots := #[.int 118], vm := .none },
  { cls := 10, slots := #[.int 119], vm := .none },
  { cls := 10, slots := #[.int 120], vm := .none },
  { cls := 10, slots := #[.int 121], vm := .none },
  { cls := 10, slots := #[.int 122], vm := .none },
  { cls := 10, slots := #[.int 123], vm := .none },
  { cls := 10, slots := #[.int 124], vm := .none },
  { cls := 10, slots := #[.int 125], vm := .none },
  { cls := 10, slots := #[.int 126], vm := .none },
  { cls := 10, slots := #[.int 127], vm := .none }]
def classes : Array Class := #[k0, k1, k2, k3, k4, k5, k6, k7, k8, k9, k10, k11, k12, k13, k14, k15, k16, k17]
def interned : List (Array UInt16 × Addr) := []
def slotsUsed : Nat := 551
def theMethod : MethodId := ⟨1, 2⟩
def args0 : Array Value := #[.int 3, .int 4, .long 5, .int 6, .long 7, .int 8]
def aboutOver (below : List Frame) : State where
  vm := { classes := classes, interned := interned.toArray }
  heap := heap
  slotsUsed := slotsUsed
  threads := #[{ frames := .invoking theMethod args0 :: below }]
def below0 : List Frame := [.native { method := ⟨0, 0⟩, args := #[] }]
def about1 : State := aboutOver below0
def p0 : Program := .bare "" "" ""
def e0 : Env := launch0.env 0 0 0
theorem w_frames : about1.frames = Frame.invoking theMethod args0 :: below0 := rfl
set_option maxRecDepth 65536 in
theorem w_args : argsFit about1.vm theMethod args0 = true := by decide +kernel
set_option maxRecDepth 65536 in
theorem w_heap : heapFits about1 = true := by decide +kernel
set_option maxRecDepth 65536 in
theorem w_runnable : about1.curStatus? = some .runnable := by decide +kernel
set_option maxRecDepth 65536 in
theorem w_alone : about1.alone = true := by decide +kernel
set_option maxRecDepth 65536 in
theorem w_named : about1.methodNamed? x = some theMethod := by decide +kernel
set_option maxRecDepth 65536 in
theorem w_hears : about1.hears theMethod below0 = true := by decide +kernel
set_option maxRecDepth 65536 in
theorem w_ripe : about1.ripe theMethod args0 below0 = true := by decide +kernel
theorem w_running : about1.status = .running := rfl
set_option maxRecDepth 65536 in
theorem w_room : about1.hasRoom e0.platform room_1 = true :=
  launch0.hasRoom_least _ room_1 (by decide +kernel) (by decide +kernel) (by decide +kernel) (by decide +kernel) (by decide +kernel) (by decide +kernel)
theorem allAtoms_all (ts : List Jvm.Cond) (a : Array Jvm.Value) (st : Jvm.State) : (allAtoms ts).before a st = ts.all (fun c => c.before a st) := by
  induction ts with
  | nil => rfl
  | cons c t ih =>
    show (Jvm.Cond.and c (allAtoms t)).before a st = _
    rw [Jvm.Cond.before_and, ih, List.all_cons]
def words1 : List Jvm.Cond := Jvm.Cond.code x code maxLocals ret :: tables_1
/-- a 'code' word, met by the world's own term for the bytes: nothing is compared byte by byte -/
theorem code_word {y : MethodName} {bytes : ByteArray} {mx : Nat} {rt : Option FieldType} {a : Array Value} {s : State} {m : MethodId} {meth : Method} {c : Code} (h1 : s.methodNamed? y = some m) (h2 : s.vm.method? m = some meth) (h3 : meth.code = some c) (h4 : c.code = bytes)
    (h5 : (c.maxLocals == mx && c.exceptionTable.isEmpty && decide (c.maxStack ≤ mostOperands) && decide (meth.sig.returnType = rt) && !meth.locks && decide (parseMethodDescriptor y.desc = some meth.sig)) = true) : (Jvm.Cond.code y bytes mx rt).before a s = true := by
  simp only [Bool.and_eq_true, beq_iff_eq, Bool.not_eq_true', decide_eq_true_eq] at h5
  obtain ⟨⟨⟨⟨⟨g1, g2⟩, g3⟩, g4⟩, g5⟩, g6⟩ := h5
  simp [Cond.before, Cond.holds, Cond.value, h1, h2, h3, h4, g1, g2, g3, g4, g5, g6]
def isCode : Jvm.Cond → Bool
  | .code _ _ _ _ => true
  | _ => false
theorem all_split {L : List Jvm.Cond} {P : Jvm.Cond → Bool} (h1 : L.all (fun c => isCode c || P c) = true) (h2 : ∀ c ∈ L.filter isCode, P c = true) : L.all P = true := by
  refine List.all_eq_true.mpr fun c hc => ?_
  have h := List.all_eq_true.mp h1 c hc
  rcases Bool.eq_false_or_eq_true (isCode c) with hi | hi
  · exact h2 c (List.mem_filter.mpr ⟨hc, hi⟩)
  · simpa [hi] using h
set_option maxRecDepth 65536 in
theorem w_c0 : (Jvm.Cond.code x code maxLocals ret).before args0 about1 = true := code_word (m := ⟨1, 2⟩) (meth := k1m2) (c := k1c2) (by decide +kernel) rfl rfl rfl (by decide +kernel)
set_option maxRecDepth 65536 in
theorem w_c1 : (Jvm.Cond.code ({ cls := "com/example/chronotag/chronotag/codec/HeadEqualsPinLaw", name := "type", desc := "(I)Lcom/example/chronotag/chronotag/codec/MajorType;" } : Jvm.MethodName) method_2_code (1 : Nat) (Option.some (Jvm.ClassFile.FieldType.object "com/example/chronotag/chronotag/codec/MajorType"))).before args0 about1 = true := code_word (m := ⟨1, 1⟩) (meth := k1m1) (c := k1c1) (by decide +kernel) rfl rfl rfl (by decide +kernel)
set_option maxRecDepth 65536 in
theorem w_c2 : (Jvm.Cond.code ({ cls := "com/example/chronotag/chronotag/codec/Head", name := "<init>", desc := "(Lcom/example/chronotag/chronotag/codec/MajorType;IJ)V" } : Jvm.MethodName) prog_14_method_1_code (5 : Nat) (Option.none : Option Jvm.ClassFile.FieldType)).before args0 about1 = true := code_word (m := ⟨2, 0⟩) (meth := k2m0) (c := k2c0) (by decide +kernel) rfl rfl rfl (by decide +kernel)
set_option maxRecDepth 65536 in
theorem w_c3 : (Jvm.Cond.code ({ cls := "java/lang/Object", name := "<init>", desc := "()V" } : Jvm.MethodName) object_method_1_code (1 : Nat) (Option.none : Option Jvm.ClassFile.FieldType)).before args0 about1 = true := code_word (m := ⟨0, 0⟩) (meth := k0m0) (c := k0c0) (by decide +kernel) rfl rfl rfl (by decide +kernel)
set_option maxRecDepth 65536 in
theorem w_c4 : (Jvm.Cond.code ({ cls := "com/example/chronotag/chronotag/codec/Head", name := "equals", desc := "(Ljava/lang/Object;)Z" } : Jvm.MethodName) prog_14_method_15_code (3 : Nat) (Option.some Jvm.ClassFile.FieldType.boolean)).before args0 about1 = true := code_word (m := ⟨2, 1⟩) (meth := k2m1) (c := k2c1) (by decide +kernel) rfl rfl rfl (by decide +kernel)
set_option maxRecDepth 65536 in
theorem w_c5 : (Jvm.Cond.code ({ cls := "java/lang/Integer", name := "valueOf", desc := "(I)Ljava/lang/Integer;" } : Jvm.MethodName) jdk_33_method_22_code (1 : Nat) (Option.some (Jvm.ClassFile.FieldType.object "java/lang/Integer"))).before args0 about1 = true := code_word (m := ⟨10, 0⟩) (meth := k10m0) (c := k10c0) (by decide +kernel) rfl rfl rfl (by decide +kernel)
set_option maxRecDepth 65536 in
theorem w_c6 : (Jvm.Cond.code ({ cls := "java/lang/Integer", name := "<init>", desc := "(I)V" } : Jvm.MethodName) jdk_33_method_23_code (2 : Nat) (Option.none : Option Jvm.ClassFile.FieldType)).before args0 about1 = true := code_word (m := ⟨10, 1⟩) (meth := k10m1) (c := k10c1) (by decide +kernel) rfl rfl rfl (by decide +kernel)
set_option maxRecDepth 65536 in
theorem w_c7 : (Jvm.Cond.code ({ cls := "java/lang/Number", name := "<init>", desc := "()V" } : Jvm.MethodName) jdk_18_method_1_code (1 : Nat) (Option.none : Option Jvm.ClassFile.FieldType)).before args0 about1 = true := code_word (m := ⟨8, 0⟩) (meth := k8m0) (c := k8c0) (by decide +kernel) rfl rfl rfl (by decide +kernel)
def codes1 : List Jvm.Cond := [Jvm.Cond.code x code maxLocals ret, Jvm.Cond.code ({ cls := "com/example/chronotag/chronotag/codec/HeadEqualsPinLaw", name := "type", desc := "(I)Lcom/example/chronotag/chronotag/codec/MajorType;" } : Jvm.MethodName) method_2_code (1 : Nat) (Option.some (Jvm.ClassFile.FieldType.object "com/example/chronotag/chronotag/codec/MajorType")), Jvm.Cond.code ({ cls := "com/example/chronotag/chronotag/codec/Head", name := "<init>", desc := "(Lcom/example/chronotag/chronotag/codec/MajorType;IJ)V" } : Jvm.MethodName) prog_14_method_1_code (5 : Nat) (Option.none : Option Jvm.ClassFile.FieldType), Jvm.Cond.code ({ cls := "java/lang/Object", name := "<init>", desc := "()V" } : Jvm.MethodName) object_method_1_code (1 : Nat) (Option.none : Option Jvm.ClassFile.FieldType), Jvm.Cond.code ({ cls := "com/example/chronotag/chronotag/codec/Head", name := "equals", desc := "(Ljava/lang/Object;)Z" } : Jvm.MethodName) prog_14_method_15_code (3 : Nat) (Option.some Jvm.ClassFile.FieldType.boolean), Jvm.Cond.code ({ cls := "java/lang/Integer", name := "valueOf", desc := "(I)Ljava/lang/Integer;" } : Jvm.MethodName) jdk_33_method_22_code (1 : Nat) (Option.some (Jvm.ClassFile.FieldType.object "java/lang/Integer")), Jvm.Cond.code ({ cls := "java/lang/Integer", name := "<init>", desc := "(I)V" } : Jvm.MethodName) jdk_33_method_23_code (2 : Nat) (Option.none : Option Jvm.ClassFile.FieldType), Jvm.Cond.code ({ cls := "java/lang/Number", name := "<init>", desc := "()V" } : Jvm.MethodName) jdk_18_method_1_code (1 : Nat) (Option.none : Option Jvm.ClassFile.FieldType)]
set_option maxRecDepth 65536 in
theorem codes_eq : words1.filter isCode = codes1 := rfl
theorem w_codes : ∀ c ∈ words1.filter isCode, c.before args0 about1 = true := by
  rw [codes_eq]
  intro c hc
  simp only [codes1, List.mem_cons, List.not_mem_nil, or_false] at hc
  rcases hc with rfl | rfl | rfl | rfl | rfl | rfl | rfl | rfl
  · exact w_c0
  · exact w_c1
  · exact w_c2
  · exact w_c3
  · exact w_c4
  · exact w_c5
  · exact w_c6
  · exact w_c7
set_option maxRecDepth 65536 in
theorem w_t1 : (words1.take 24).all (fun c => isCode c || c.before args0 about1) = true := by decide +kernel
set_option maxRecDepth 65536 in
theorem w_t2 : ((words1.drop 24).take 24).all (fun c => isCode c || c.before args0 about1) = true := by decide +kernel
set_option maxRecDepth 65536 in
theorem w_t3 : ((words1.drop 24).drop 24).all (fun c => isCode c || c.before args0 about1) = true := by decide +kernel
theorem w_tables : (allAtoms (Jvm.Cond.code x code maxLocals ret :: tables_1)).before args0 about1 = true := by
  rw [allAtoms_all]
  show words1.all (fun c => c.before args0 about1) = true
  refine all_split ?_ w_codes
  rw [← List.take_append_drop 24 words1, List.all_append, w_t1, ← List.take_append_drop 24 (words1.drop 24), List.all_append, w_t2, w_t3]
  rfl
set_option maxRecDepth 65536 in
theorem w_rest : rest_1_c.before args0 about1 = true := by decide +kernel
set_option maxRecDepth 65536 in
theorem w_case : (Jvm.Cond.and given_1 narrow_1).before args0 about1 = true := by decide +kernel
theorem w_applies : (headSpec (Jvm.Cond.code x code maxLocals ret :: tables_1) room_1).applies x e0.platform about1 = true :=
  (Spec.applies_iff w_frames).mpr ⟨w_running, w_runnable, w_alone, w_named, w_hears, w_ripe, w_room, w_tables⟩
theorem atStart : AtStart classFile x code maxLocals ret World_1 tables_1 room_1 Calls_1 rest_1 Pre_1 launch0 p0 e0 about1 theMethod args0 below0 :=
  ⟨lists_1, trivial, launch0.admits_env _ _ _, launch0.least_env, fairChoices_fair.cas, fairChoices_fair.clock, w_frames, w_args, w_heap, w_applies, trivial, w_rest, w_case⟩
end start1
theorem witness_1 : WitnessClaimed_1 := ⟨start1.p0, start1.e0, start1.about1, start1.theMethod, start1.args0, start1.below0, start1.atStart⟩
end Jvm.Pilot.@@N@@
