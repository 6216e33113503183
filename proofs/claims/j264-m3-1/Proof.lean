import JvmDerived
import JvmDerived.Pilot.@@N@@Statement
import JvmDerived.Pilot.@@N@@Code
set_option linter.unusedVariables false
set_option linter.unusedSimpArgs false
namespace Jvm.Pilot.@@N@@
open Jvm Jvm.ClassFile Sem Op Lib Jvm.Free Jvm.Stand Jvm.LawKit Jvm.RoadKit Bundle Jvm.Pilot.@@N@@.Jvm.D
theorem own_eqI {args : Array Value} {s : State} {t : Jvm.Term} {k : Int32} (h : (Jvm.Cond.eq t (.int k)).value args s none s [] = some true) : t.eval args s none [] s = some (.int k) := by
  cases ht : t.eval args s none [] s with
  | none => simp [Jvm.Cond.value, ht] at h
  | some x => cases x <;> simp [Jvm.Cond.value, ht, Jvm.Term.eval] at h ⊢; exact h
theorem own_eqR {args : Array Value} {s : State} {t u : Jvm.Term} {w : Addr} (hu : u.eval args s none [] s = some (.ref w)) (h : (Jvm.Cond.eq t u).value args s none s [] = some true) : t.eval args s none [] s = some (.ref w) := by
  cases ht : t.eval args s none [] s with
  | none => simp [Jvm.Cond.value, ht] at h
  | some x => cases x <;> simp [Jvm.Cond.value, ht, hu] at h ⊢; exact h
theorem own_fldI {args : Array Value} {s : State} {t : Jvm.Term} {w : Addr} {C n d : String} {k : Int32} (ht : t.eval args s none [] s = some (.ref w)) (h : (Jvm.Cond.eq (Jvm.Term.field t C n d) (.int k)).value args s none s [] = some true) : Fld s s.heap w C n d (.int k) := Fld.start ((fld_at ht).symm.trans (own_eqI h))
theorem own_fldN {args : Array Value} {s : State} {t : Jvm.Term} {w : Addr} {C n d : String} (ht : t.eval args s none [] s = some (.ref w)) (h : (Jvm.Cond.eq (Jvm.Term.field t C n d) .null).value args s none s [] = some true) : Fld s s.heap w C n d .null := Fld.start ((fld_at ht).symm.trans (null_v h))
theorem own_fldR {args : Array Value} {s : State} {t : Jvm.Term} {w y : Addr} {C n d : String} (ht : t.eval args s none [] s = some (.ref w)) (h : (Jvm.Term.field t C n d).eval args s none [] s = some (.ref y)) : Fld s s.heap w C n d (.ref y) := Fld.start ((fld_at ht).symm.trans h)
theorem own_len {args : Array Value} {s : State} {t : Jvm.Term} {y : Addr} {cl : Cell} {ty : FieldType} {z : Int32} (ht : t.eval args s none [] s = some (.ref y)) (A : Arr s s.heap y cl ty) (h : (Jvm.Cond.eq (Jvm.Term.length t) (.int z)).value args s none s [] = some true) : cl.slots.size.toInt32 = z := by
  obtain ⟨b, cell, e1, e2, -, e4⟩ := Term.length_spec (own_eqI h)
  have hb : y = b := Value.ref.inj (Option.some.inj (ht.symm.trans e1))
  subst hb
  have hc : cell = cl := Option.some.inj (e2.symm.trans (IntBox.arrayAt_of A.1 A.2.1 A.2.2))
  rw [← hc]
theorem own_d_prog_7_4_0 : decode prog_7_method_4_code 0 = .ok (.aload_n 0, 1) := by decide +kernel
theorem own_d_prog_7_4_1 : decode prog_7_method_4_code 1 = .ok (.getstatic 3, 3) := by decide +kernel
theorem own_d_prog_7_4_4 : decode prog_7_method_4_code 4 = .ok (.if_acmp .eq 10, 3) := by decide +kernel
theorem own_d_prog_7_4_14 : decode prog_7_method_4_code 14 = .ok (.iconst 1, 1) := by decide +kernel
theorem own_d_prog_7_4_15 : decode prog_7_method_4_code 15 = .ok (.goto 4, 3) := by decide +kernel
theorem own_d_prog_7_4_19 : decode prog_7_method_4_code 19 = .ok (.ireturn, 1) := by decide +kernel
theorem own_d_prog_7_4_7 : decode prog_7_method_4_code 7 = .ok (.aload_n 1, 1) := by decide +kernel
theorem own_d_prog_7_4_8 : decode prog_7_method_4_code 8 = .ok (.getstatic 29, 3) := by decide +kernel
theorem own_d_prog_7_4_11 : decode prog_7_method_4_code 11 = .ok (.if_acmp .ne 7, 3) := by decide +kernel
theorem own_d_prog_7_4_18 : decode prog_7_method_4_code 18 = .ok (.iconst 0, 1) := by decide +kernel
theorem own_pn0 : plainName "com/example/amortis/amortis/BalanceConvention" = true := by first | (simp [plainName, overriddenIn]; done) | decide +kernel
theorem ef_rm1 (m : MethodId) (a1 : Addr) (a2 : Addr) : entryFrame m #[(.ref a1), (.ref a2)] 2 = mkF m 0 #[.val (.ref a1), .val (.ref a2)] [] := by first | (simp [entryFrame, mkF, argsToLocals, Value.category]; done) | rfl
def Q_rm1 (Z : State) (a1 : Addr) (a2 : Addr) (w3 : Addr) (w7 : Addr) (r : Int32) (h0 : Heap) (n0 : Nat) (v : Option Value) (h : Heap) (L : List Loc) : Prop := v = some (.int r) ∧ Fr n0 L ∧ h = h0
set_option maxRecDepth 65536 in
set_option maxHeartbeats 40000000 in
theorem rm1 (l : Launch) (Z : State) (a0 : Array Value) (hw : ∀ d ∈ tables_1, d.before a0 Z = true) (ws : List Jvm.Cond) (a1 : Addr) (a2 : Addr) (w3 : Addr) (w7 : Addr) (r : Int32) (h0 : Heap) (n0 : Nat) (Z0 : n0 ≤ h0.size) (S3 : Sta Z h0 "com/example/amortis/amortis/BalanceConvention" "SCHEDULE" "Lcom/example/amortis/amortis/BalanceConvention;" (.ref w3)) (S7 : Sta Z h0 "com/example/amortis/amortis/Method" "EQUAL_INSTALLMENT" "Lcom/example/amortis/amortis/Method;" (.ref w7)) (hr1 : r = if a1 = w3 then 1 else if a2 = w7 then 1 else 0) :
    MetFree l (⟨"com/example/amortis/amortis/BalanceConvention", "appliesTo", "(Lcom/example/amortis/amortis/Method;)Z"⟩ : MethodName) (head1 (Jvm.Cond.code (⟨"com/example/amortis/amortis/BalanceConvention", "appliesTo", "(Lcom/example/amortis/amortis/Method;)Z"⟩ : MethodName) prog_7_method_4_code 2 (some .boolean) :: ws) ({ frames := 0, cells := 0, slots := 0, locals := 0 } : Room)) (fun a U => a = #[(.ref a1), (.ref a2)] ∧ Z.Warmed39 U.vm ∧ U.heap = h0) (fun _ _ _ _ _ => True) (fun _ U o U' => ∃ v L, o = .returned v ∧ Q_rm1 Z a1 a2 w3 w7 r h0 n0 (v) U'.heap (L) ∧ FrameEnd U o U' L 0 0) := by
  refine MetFree.of_bodySF (plainFor_of_name own_pn0) hisR ?_
  intro p e s m args below meth c s₁ Bd hml0 hP hK
  obtain ⟨rfl, hZ, hh⟩ := hP
  have hx := Bd.exec
  have hby := Bd.bytes
  have hml : c.maxLocals = 2 := hml0
  have hown : s.vm.findClass "com/example/amortis/amortis/BalanceConvention" = some m.cls := findClass_of_methodNamed Bd.named
  have hnm := (name_of_methodNamed Bd.named Bd.method).1
  have X0 : Stand p l e ({ frames := 0, cells := 0, slots := 0, locals := 0 } : Room) s m #[(.ref a1), (.ref a2)] below meth c s₁ [] 0 0 := Stand.of_body Bd
  have e0 : s₁.heap = h0 := by rw [← hh, Bd.state]; rfl
  have N0 := Fr.nil n0
  have pre0 : ∀ t, Steps p.tables e below (s₁.setTop (mkF m 0 #[.val (.ref a1), .val (.ref a2)] [])) t → Steps p.tables e below (s₁.setTop (entryFrame m #[(.ref a1), (.ref a2)] 2)) t := fun t k => castTop (ef_rm1 m a1 a2) k
  obtain ⟨T1, X1, e1, st1⟩ := getS2 X0 hx hZ hown (host := "") (Or.inl (hw _ (List.mem_of_getElem? (i := 13) rfl))) Via.refl e0 S3 (g := (mkF m 1 #[.val (.ref a1), .val (.ref a2)] [(.ref a1)])) rfl (hb hby own_d_prog_7_4_1)
  have pre2 : ∀ t, Steps p.tables e below (T1.setTop (mkF m 4 #[.val (.ref a1), .val (.ref a2)] [(.ref w3), (.ref a1)])) t → Steps p.tables e below (s₁.setTop (entryFrame m #[(.ref a1), (.ref a2)] 2)) t := fun t kt => by
    refine pre0 _ ?_
    show Steps p.tables e below (s₁.setTop (mkF m 0 #[.val (.ref a1), .val (.ref a2)] [])) _
    refine XS.aloadN X0.here hx rfl (hb hby own_d_prog_7_4_0) rfl rfl ?_
    show Steps p.tables e below (s₁.setTop (mkF m 1 #[.val (.ref a1), .val (.ref a2)] [(.ref a1)])) _
    refine st1 _ ?_
    show Steps p.tables e below (T1.setTop (mkF m 4 #[.val (.ref a1), .val (.ref a2)] [(.ref w3), (.ref a1)])) _
    exact kt
  rcases Decidable.em (a1 = w3) with ha4_3 | ha4_3
  ·
    obtain ⟨fs, hr, hrun, hended, hW, hsame⟩ := X1.leave (v := some (.int (1 : Int32))) (fun h => by rw [Bd.returns] at h; cases h)
    refine ⟨_, _, pre2 _ ?_, hrun, hended, _, _, rfl, ?_, ⟨_, rfl⟩, hW, hsame.mono (by decide) (by decide)⟩
    ·
      show Steps p.tables e below (T1.setTop (mkF m 4 #[.val (.ref a1), .val (.ref a2)] [(.ref w3), (.ref a1)])) _
      refine Jvm.RoadKit.acmp (g := (mkF m 4 #[.val (.ref a1), .val (.ref a2)] [(.ref w3), (.ref a1)])) X1 hx rfl rfl rfl (pc0 := 4) (pc' := 14) (same := true) rfl (hb hby own_d_prog_7_4_4) rfl (decide_eq_true (congrArg Value.ref ha4_3)) (by decide) (by decide) ?_
      show Steps p.tables e below (T1.setTop (mkF m 14 #[.val (.ref a1), .val (.ref a2)] [])) _
      refine XS.iconst X1.here hx rfl (hb hby own_d_prog_7_4_14) ?_
      show Steps p.tables e below (T1.setTop (mkF m 15 #[.val (.ref a1), .val (.ref a2)] [(.int (1 : Int32))])) _
      refine XS.goto X1.here hx rfl (pc0 := 15) (pc' := 19) rfl (hb hby own_d_prog_7_4_15) (by decide) (by decide) ?_
      show Steps p.tables e below (T1.setTop (mkF m 19 #[.val (.ref a1), .val (.ref a2)] [(.int (1 : Int32))])) _
      exact retN X1 hx (t := .boolean) Bd.returns (by simp) (hb hby own_d_prog_7_4_19) hr
    ·
      show Q_rm1 Z a1 a2 w3 w7 r h0 n0 (_) T1.heap (_)
      rw [e1]
      exact ⟨by rw [hr1]; simp [ha4_3], N0, rfl⟩
  ·
    obtain ⟨T4, X4, e4, st4⟩ := getS2 X1 hx hZ hown (host := "") (Or.inl (hw _ (List.mem_of_getElem? (i := 16) rfl))) Via.refl e1 S7 (g := (mkF m 8 #[.val (.ref a1), .val (.ref a2)] [(.ref a2)])) rfl (hb hby own_d_prog_7_4_8)
    have pre5 : ∀ t, Steps p.tables e below (T4.setTop (mkF m 11 #[.val (.ref a1), .val (.ref a2)] [(.ref w7), (.ref a2)])) t → Steps p.tables e below (s₁.setTop (entryFrame m #[(.ref a1), (.ref a2)] 2)) t := fun t kt => by
      refine pre2 _ ?_
      show Steps p.tables e below (T1.setTop (mkF m 4 #[.val (.ref a1), .val (.ref a2)] [(.ref w3), (.ref a1)])) _
      refine Jvm.RoadKit.acmp (g := (mkF m 4 #[.val (.ref a1), .val (.ref a2)] [(.ref w3), (.ref a1)])) X1 hx rfl rfl rfl (pc0 := 4) (pc' := 7) (same := false) rfl (hb hby own_d_prog_7_4_4) rfl (decide_eq_false fun q => ha4_3 (Value.ref.inj q)) (by decide) (by decide) ?_
      show Steps p.tables e below (T1.setTop (mkF m 7 #[.val (.ref a1), .val (.ref a2)] [])) _
      refine XS.aloadN X1.here hx rfl (hb hby own_d_prog_7_4_7) rfl rfl ?_
      show Steps p.tables e below (T1.setTop (mkF m 8 #[.val (.ref a1), .val (.ref a2)] [(.ref a2)])) _
      refine st4 _ ?_
      show Steps p.tables e below (T4.setTop (mkF m 11 #[.val (.ref a1), .val (.ref a2)] [(.ref w7), (.ref a2)])) _
      exact kt
    rcases Decidable.em (a2 = w7) with ha11_6 | ha11_6
    ·
      obtain ⟨fs, hr, hrun, hended, hW, hsame⟩ := X4.leave (v := some (.int (1 : Int32))) (fun h => by rw [Bd.returns] at h; cases h)
      refine ⟨_, _, pre5 _ ?_, hrun, hended, _, _, rfl, ?_, ⟨_, rfl⟩, hW, hsame.mono (by decide) (by decide)⟩
      ·
        show Steps p.tables e below (T4.setTop (mkF m 11 #[.val (.ref a1), .val (.ref a2)] [(.ref w7), (.ref a2)])) _
        refine Jvm.RoadKit.acmp (g := (mkF m 11 #[.val (.ref a1), .val (.ref a2)] [(.ref w7), (.ref a2)])) X4 hx rfl rfl rfl (pc0 := 11) (pc' := 14) (same := true) rfl (hb hby own_d_prog_7_4_11) rfl (decide_eq_true (congrArg Value.ref ha11_6)) (by decide) (by decide) ?_
        show Steps p.tables e below (T4.setTop (mkF m 14 #[.val (.ref a1), .val (.ref a2)] [])) _
        refine XS.iconst X4.here hx rfl (hb hby own_d_prog_7_4_14) ?_
        show Steps p.tables e below (T4.setTop (mkF m 15 #[.val (.ref a1), .val (.ref a2)] [(.int (1 : Int32))])) _
        refine XS.goto X4.here hx rfl (pc0 := 15) (pc' := 19) rfl (hb hby own_d_prog_7_4_15) (by decide) (by decide) ?_
        show Steps p.tables e below (T4.setTop (mkF m 19 #[.val (.ref a1), .val (.ref a2)] [(.int (1 : Int32))])) _
        exact retN X4 hx (t := .boolean) Bd.returns (by simp) (hb hby own_d_prog_7_4_19) hr
      ·
        show Q_rm1 Z a1 a2 w3 w7 r h0 n0 (_) T4.heap (_)
        rw [e4]
        exact ⟨by rw [hr1]; simp [ha4_3, ha11_6], N0, rfl⟩
    ·
      obtain ⟨fs, hr, hrun, hended, hW, hsame⟩ := X4.leave (v := some (.int (0 : Int32))) (fun h => by rw [Bd.returns] at h; cases h)
      refine ⟨_, _, pre5 _ ?_, hrun, hended, _, _, rfl, ?_, ⟨_, rfl⟩, hW, hsame.mono (by decide) (by decide)⟩
      ·
        show Steps p.tables e below (T4.setTop (mkF m 11 #[.val (.ref a1), .val (.ref a2)] [(.ref w7), (.ref a2)])) _
        refine Jvm.RoadKit.acmp (g := (mkF m 11 #[.val (.ref a1), .val (.ref a2)] [(.ref w7), (.ref a2)])) X4 hx rfl rfl rfl (pc0 := 11) (pc' := 18) (same := false) rfl (hb hby own_d_prog_7_4_11) rfl (decide_eq_false fun q => ha11_6 (Value.ref.inj q)) (by decide) (by decide) ?_
        show Steps p.tables e below (T4.setTop (mkF m 18 #[.val (.ref a1), .val (.ref a2)] [])) _
        refine XS.iconst X4.here hx rfl (hb hby own_d_prog_7_4_18) ?_
        show Steps p.tables e below (T4.setTop (mkF m 19 #[.val (.ref a1), .val (.ref a2)] [(.int (0 : Int32))])) _
        exact retN X4 hx (t := .boolean) Bd.returns (by simp) (hb hby own_d_prog_7_4_19) hr
      ·
        show Q_rm1 Z a1 a2 w3 w7 r h0 n0 (_) T4.heap (_)
        rw [e4]
        exact ⟨by rw [hr1]; simp [ha4_3, ha11_6], N0, rfl⟩
theorem own_pd0 : parseMethodDescriptor "(Lcom/example/amortis/amortis/Method;)Z" = some ⟨[(.object "com/example/amortis/amortis/Method")], some .boolean⟩ := by decide +kernel
theorem own_pn1 : plainName "com/example/amortis/amortis/BalanceConventionAppliesToPinLaw" = true := by first | (simp [plainName, overriddenIn]; done) | decide +kernel
theorem ef_rm0 (m : MethodId) (p1 : Int32) (p2 : Int32) : entryFrame m #[(.int p1), (.int p2)] maxLocals = mkF m 0 #[.val (.int p1), .val (.int p2), .unset, .unset, .unset, .unset, .unset] [] := by first | (simp [entryFrame, mkF, argsToLocals, Value.category, maxLocals]; done) | rfl
def Q_rm0 (Z : State) (p1 : Int32) (p2 : Int32) (w3 : Addr) (w5 : Addr) (w7 : Addr) (w9 : Addr) (h0 : Heap) (n0 : Nat) (v : Option Value) (h : Heap) (L : List Loc) : Prop := v = some (.int 1) ∧ Fr n0 L
set_option maxRecDepth 65536 in
set_option maxHeartbeats 40000000 in
theorem rm0 (l : Launch) (Z : State) (a0 : Array Value) (hw : ∀ d ∈ tables_1, d.before a0 Z = true) (ws : List Jvm.Cond) (p1 : Int32) (p2 : Int32) (w3 : Addr) (w5 : Addr) (w7 : Addr) (w9 : Addr) (h0 : Heap) (n0 : Nat) (Z0 : n0 ≤ h0.size) (S3 : Sta Z h0 "com/example/amortis/amortis/BalanceConvention" "SCHEDULE" "Lcom/example/amortis/amortis/BalanceConvention;" (.ref w3)) (S5 : Sta Z h0 "com/example/amortis/amortis/BalanceConvention" "PRESENT_VALUE" "Lcom/example/amortis/amortis/BalanceConvention;" (.ref w5)) (S7 : Sta Z h0 "com/example/amortis/amortis/Method" "EQUAL_INSTALLMENT" "Lcom/example/amortis/amortis/Method;" (.ref w7)) (S9 : Sta Z h0 "com/example/amortis/amortis/Method" "EQUAL_PRINCIPAL" "Lcom/example/amortis/amortis/Method;" (.ref w9)) (E3 : Exa Z h0 w3 "com/example/amortis/amortis/BalanceConvention") (E5 : Exa Z h0 w5 "com/example/amortis/amortis/BalanceConvention") (hne1 : ¬ w5 = w3) (hne2 : ¬ w9 = w7) :
    MetFree l x (head1 (Jvm.Cond.code x code maxLocals ret :: ws) room_1) (fun a U => a = #[(.int p1), (.int p2)] ∧ Z.Warmed39 U.vm ∧ U.heap = h0) (fun _ _ _ _ _ => True) (fun _ U o U' => ∃ v L, o = .returned v ∧ Q_rm0 Z p1 p2 w3 w5 w7 w9 h0 n0 (v) U'.heap (L) ∧ FrameEnd U o U' L 0 0) := by
  refine MetFree.of_bodySF (plainFor_of_name own_pn1) hisR ?_
  intro p e s m args below meth c s₁ Bd hml0 hP hK
  obtain ⟨rfl, hZ, hh⟩ := hP
  have hx := Bd.exec
  have hby := Bd.bytes
  have hml : c.maxLocals = 7 := hml0
  have hown : s.vm.findClass "com/example/amortis/amortis/BalanceConventionAppliesToPinLaw" = some m.cls := findClass_of_methodNamed Bd.named
  have hnm := (name_of_methodNamed Bd.named Bd.method).1
  have X0 : Stand p l e room_1 s m #[(.int p1), (.int p2)] below meth c s₁ [] 0 0 := Stand.of_body Bd
  have e0 : s₁.heap = h0 := by rw [← hh, Bd.state]; rfl
  have N0 := Fr.nil n0
  have pre0 : ∀ t, Steps p.tables e below (s₁.setTop (mkF m 0 #[.val (.int p1), .val (.int p2), .unset, .unset, .unset, .unset, .unset] [])) t → Steps p.tables e below (s₁.setTop (entryFrame m #[(.int p1), (.int p2)] maxLocals)) t := fun t k => castTop (ef_rm0 m p1 p2) k
  obtain ⟨T1, X1, e1, st1⟩ := getS2 X0 hx hZ hown (host := "") (Or.inl (hw _ (List.mem_of_getElem? (i := 0) rfl))) Via.refl e0 S3 (g := (mkF m 8 #[.val (.int p1), .val (.int p2), .val (.int (p1 &&& (1 : Int32))), .val (.int (p2 &&& (1 : Int32))), .unset, .unset, .unset] [])) rfl (hb hby at_8)
  have pre2 : ∀ t, Steps p.tables e below (T1.setTop (mkF m 15 #[.val (.int p1), .val (.int p2), .val (.int (p1 &&& (1 : Int32))), .val (.int (p2 &&& (1 : Int32))), .val (.ref w3), .unset, .unset] [(.int (1 : Int32)), (.int (p1 &&& (1 : Int32)))])) t → Steps p.tables e below (s₁.setTop (entryFrame m #[(.int p1), (.int p2)] maxLocals)) t := fun t kt => by
    refine pre0 _ ?_
    show Steps p.tables e below (s₁.setTop (mkF m 0 #[.val (.int p1), .val (.int p2), .unset, .unset, .unset, .unset, .unset] [])) _
    refine XS.iloadN X0.here hx rfl (hb hby at_0) rfl ?_
    show Steps p.tables e below (s₁.setTop (mkF m 1 #[.val (.int p1), .val (.int p2), .unset, .unset, .unset, .unset, .unset] [(.int p1)])) _
    refine XS.iconst X0.here hx rfl (hb hby at_1) ?_
    show Steps p.tables e below (s₁.setTop (mkF m 2 #[.val (.int p1), .val (.int p2), .unset, .unset, .unset, .unset, .unset] [(.int (1 : Int32)), (.int p1)])) _
    refine XS.iand X0.here hx rfl (hb hby at_2) rfl ?_
    show Steps p.tables e below (s₁.setTop (mkF m 3 #[.val (.int p1), .val (.int p2), .unset, .unset, .unset, .unset, .unset] [(.int (p1 &&& (1 : Int32)))])) _
    refine XS.istoreN X0.here hx rfl (hb hby at_3) rfl (l' := #[.val (.int p1), .val (.int p2), .val (.int (p1 &&& (1 : Int32))), .unset, .unset, .unset, .unset]) rfl ?_
    show Steps p.tables e below (s₁.setTop (mkF m 4 #[.val (.int p1), .val (.int p2), .val (.int (p1 &&& (1 : Int32))), .unset, .unset, .unset, .unset] [])) _
    refine XS.iloadN X0.here hx rfl (hb hby at_4) rfl ?_
    show Steps p.tables e below (s₁.setTop (mkF m 5 #[.val (.int p1), .val (.int p2), .val (.int (p1 &&& (1 : Int32))), .unset, .unset, .unset, .unset] [(.int p2)])) _
    refine XS.iconst X0.here hx rfl (hb hby at_5) ?_
    show Steps p.tables e below (s₁.setTop (mkF m 6 #[.val (.int p1), .val (.int p2), .val (.int (p1 &&& (1 : Int32))), .unset, .unset, .unset, .unset] [(.int (1 : Int32)), (.int p2)])) _
    refine XS.iand X0.here hx rfl (hb hby at_6) rfl ?_
    show Steps p.tables e below (s₁.setTop (mkF m 7 #[.val (.int p1), .val (.int p2), .val (.int (p1 &&& (1 : Int32))), .unset, .unset, .unset, .unset] [(.int (p2 &&& (1 : Int32)))])) _
    refine XS.istoreN X0.here hx rfl (hb hby at_7) rfl (l' := #[.val (.int p1), .val (.int p2), .val (.int (p1 &&& (1 : Int32))), .val (.int (p2 &&& (1 : Int32))), .unset, .unset, .unset]) rfl ?_
    show Steps p.tables e below (s₁.setTop (mkF m 8 #[.val (.int p1), .val (.int p2), .val (.int (p1 &&& (1 : Int32))), .val (.int (p2 &&& (1 : Int32))), .unset, .unset, .unset] [])) _
    refine st1 _ ?_
    show Steps p.tables e below (T1.setTop (mkF m 11 #[.val (.int p1), .val (.int p2), .val (.int (p1 &&& (1 : Int32))), .val (.int (p2 &&& (1 : Int32))), .unset, .unset, .unset] [(.ref w3)])) _
    refine XS.astore X1.here hx rfl (hb hby at_11) rfl rfl (l' := #[.val (.int p1), .val (.int p2), .val (.int (p1 &&& (1 : Int32))), .val (.int (p2 &&& (1 : Int32))), .val (.ref w3), .unset, .unset]) rfl ?_
    show Steps p.tables e below (T1.setTop (mkF m 13 #[.val (.int p1), .val (.int p2), .val (.int (p1 &&& (1 : Int32))), .val (.int (p2 &&& (1 : Int32))), .val (.ref w3), .unset, .unset] [])) _
    refine XS.iloadN X1.here hx rfl (hb hby at_13) rfl ?_
    show Steps p.tables e below (T1.setTop (mkF m 14 #[.val (.int p1), .val (.int p2), .val (.int (p1 &&& (1 : Int32))), .val (.int (p2 &&& (1 : Int32))), .val (.ref w3), .unset, .unset] [(.int (p1 &&& (1 : Int32)))])) _
    refine XS.iconst X1.here hx rfl (hb hby at_14) ?_
    show Steps p.tables e below (T1.setTop (mkF m 15 #[.val (.int p1), .val (.int p2), .val (.int (p1 &&& (1 : Int32))), .val (.int (p2 &&& (1 : Int32))), .val (.ref w3), .unset, .unset] [(.int (1 : Int32)), (.int (p1 &&& (1 : Int32)))])) _
    exact kt
  rcases Decidable.em ((p1 &&& (1 : Int32)) = (1 : Int32)) with hc15_3 | hc15_3
  ·
    obtain ⟨T4, X4, e4, st4⟩ := getS2 X1 hx hZ hown (host := "") (Or.inl (hw _ (List.mem_of_getElem? (i := 14) rfl))) Via.refl e1 S5 (g := (mkF m 18 #[.val (.int p1), .val (.int p2), .val (.int (p1 &&& (1 : Int32))), .val (.int (p2 &&& (1 : Int32))), .val (.ref w3), .unset, .unset] [])) rfl (hb hby at_18)
    obtain ⟨T5, X5, e5, st5⟩ := getS2 X4 hx hZ hown (host := "") (Or.inl (hw _ (List.mem_of_getElem? (i := 3) rfl))) Via.refl e4 S7 (g := (mkF m 23 #[.val (.int p1), .val (.int p2), .val (.int (p1 &&& (1 : Int32))), .val (.int (p2 &&& (1 : Int32))), .val (.ref w5), .unset, .unset] [])) rfl (hb hby at_23)
    have pre6 : ∀ t, Steps p.tables e below (T5.setTop (mkF m 30 #[.val (.int p1), .val (.int p2), .val (.int (p1 &&& (1 : Int32))), .val (.int (p2 &&& (1 : Int32))), .val (.ref w5), .val (.ref w7), .unset] [(.int (1 : Int32)), (.int (p2 &&& (1 : Int32)))])) t → Steps p.tables e below (s₁.setTop (entryFrame m #[(.int p1), (.int p2)] maxLocals)) t := fun t kt => by
      refine pre2 _ ?_
      show Steps p.tables e below (T1.setTop (mkF m 15 #[.val (.int p1), .val (.int p2), .val (.int (p1 &&& (1 : Int32))), .val (.int (p2 &&& (1 : Int32))), .val (.ref w3), .unset, .unset] [(.int (1 : Int32)), (.int (p1 &&& (1 : Int32)))])) _
      refine XS.icmpNo X1.here hx rfl (hb hby at_15) rfl (teq hc15_3).2 ?_
      show Steps p.tables e below (T1.setTop (mkF m 18 #[.val (.int p1), .val (.int p2), .val (.int (p1 &&& (1 : Int32))), .val (.int (p2 &&& (1 : Int32))), .val (.ref w3), .unset, .unset] [])) _
      refine st4 _ ?_
      show Steps p.tables e below (T4.setTop (mkF m 21 #[.val (.int p1), .val (.int p2), .val (.int (p1 &&& (1 : Int32))), .val (.int (p2 &&& (1 : Int32))), .val (.ref w3), .unset, .unset] [(.ref w5)])) _
      refine XS.astore X4.here hx rfl (hb hby at_21) rfl rfl (l' := #[.val (.int p1), .val (.int p2), .val (.int (p1 &&& (1 : Int32))), .val (.int (p2 &&& (1 : Int32))), .val (.ref w5), .unset, .unset]) rfl ?_
      show Steps p.tables e below (T4.setTop (mkF m 23 #[.val (.int p1), .val (.int p2), .val (.int (p1 &&& (1 : Int32))), .val (.int (p2 &&& (1 : Int32))), .val (.ref w5), .unset, .unset] [])) _
      refine st5 _ ?_
      show Steps p.tables e below (T5.setTop (mkF m 26 #[.val (.int p1), .val (.int p2), .val (.int (p1 &&& (1 : Int32))), .val (.int (p2 &&& (1 : Int32))), .val (.ref w5), .unset, .unset] [(.ref w7)])) _
      refine XS.astore X5.here hx rfl (hb hby at_26) rfl rfl (l' := #[.val (.int p1), .val (.int p2), .val (.int (p1 &&& (1 : Int32))), .val (.int (p2 &&& (1 : Int32))), .val (.ref w5), .val (.ref w7), .unset]) rfl ?_
      show Steps p.tables e below (T5.setTop (mkF m 28 #[.val (.int p1), .val (.int p2), .val (.int (p1 &&& (1 : Int32))), .val (.int (p2 &&& (1 : Int32))), .val (.ref w5), .val (.ref w7), .unset] [])) _
      refine XS.iloadN X5.here hx rfl (hb hby at_28) rfl ?_
      show Steps p.tables e below (T5.setTop (mkF m 29 #[.val (.int p1), .val (.int p2), .val (.int (p1 &&& (1 : Int32))), .val (.int (p2 &&& (1 : Int32))), .val (.ref w5), .val (.ref w7), .unset] [(.int (p2 &&& (1 : Int32)))])) _
      refine XS.iconst X5.here hx rfl (hb hby at_29) ?_
      show Steps p.tables e below (T5.setTop (mkF m 30 #[.val (.int p1), .val (.int p2), .val (.int (p1 &&& (1 : Int32))), .val (.int (p2 &&& (1 : Int32))), .val (.ref w5), .val (.ref w7), .unset] [(.int (1 : Int32)), (.int (p2 &&& (1 : Int32)))])) _
      exact kt
    rcases Decidable.em ((p2 &&& (1 : Int32)) = (1 : Int32)) with hc30_7 | hc30_7
    ·
      obtain ⟨T8, X8, e8, st8⟩ := getS2 X5 hx hZ hown (host := "") (Or.inl (hw _ (List.mem_of_getElem? (i := 6) rfl))) Via.refl e5 S9 (g := (mkF m 33 #[.val (.int p1), .val (.int p2), .val (.int (p1 &&& (1 : Int32))), .val (.int (p2 &&& (1 : Int32))), .val (.ref w5), .val (.ref w7), .unset] [])) rfl (hb hby at_33)
      obtain ⟨cq9, kq9, q9a, q9b, q9c⟩ := isOf hZ e8 E5
      obtain ⟨_, _, ⟨T9, L9, k9, n9⟩, -, X9, ⟨Lc9, hQ9, l9, y9, z9⟩, st9⟩ := X8.virtualBack hx (y := (⟨"com/example/amortis/amortis/BalanceConvention", "appliesTo", "(Lcom/example/amortis/amortis/Method;)Z"⟩ : MethodName)) (z := (⟨"com/example/amortis/amortis/BalanceConvention", "appliesTo", "(Lcom/example/amortis/amortis/Method;)Z"⟩ : MethodName)) hown (mvT hZ (hw _ (List.mem_of_getElem? (i := 8) rfl))) (mvT hZ (hw _ (List.mem_of_getElem? (i := 9) rfl))) (notFace_of_selects (args := #[]) (mvT hZ (hw _ (List.mem_of_getElem? (i := 11) rfl)))) (mvT hZ (hw _ (List.mem_of_getElem? (i := 11) rfl))) (mvT hZ (hw _ (List.mem_of_getElem? (i := 10) rfl))) (by decide) (backOf (W := 0) (rm1 l Z a0 hw [] w5 w9 w3 w7 (0 : Int32) h0 n0 Z0 S3 S7 (by simp [hne1, hne2])) hZ (hw _ (List.mem_of_getElem? (i := 12) rfl)) (hw _ (List.mem_of_getElem? (i := 1) rfl)) (by decide) (by decide)) q9a q9c (g := (mkF m 59 #[.val (.int p1), .val (.int p2), .val (.int (p1 &&& (1 : Int32))), .val (.int (p2 &&& (1 : Int32))), .val (.ref w5), .val (.ref w9), .val (.int (0 : Int32))] [(.ref w9), (.ref w5)])) rfl (by rw [hml]; rfl) (Steps.refl _) (argsL := [(.ref w9)]) (rest := []) (lenOf own_pd0 rfl) rfl (by show 2 * 0 + _ ≤ _; exact Nat.le_of_eq rfl) (hb hby at_59) (fun _ _ => ⟨rfl, e8, (by decide : 0 + 0 ≤ _), (by decide : 0 + 0 ≤ _)⟩)
      dsimp only [Pt.U, Pt.locs, Pt.cells, Pt.slots] at X9 l9 y9 z9 st9 hQ9
      subst l9 y9 z9
      obtain ⟨rfl, N9q, eq9⟩ := hQ9
      have N9 := Fr.app N0 N9q
      obtain ⟨fs, hr, hrun, hended, hW, hsame⟩ := X9.leave (v := some (.int (1 : Int32))) (fun h => by rw [Bd.returns] at h; cases h)
      refine ⟨_, _, pre6 _ ?_, hrun, hended, _, _, rfl, ?_, ⟨_, rfl⟩, hW, hsame.mono (by decide) (by decide)⟩
      ·
        show Steps p.tables e below (T5.setTop (mkF m 30 #[.val (.int p1), .val (.int p2), .val (.int (p1 &&& (1 : Int32))), .val (.int (p2 &&& (1 : Int32))), .val (.ref w5), .val (.ref w7), .unset] [(.int (1 : Int32)), (.int (p2 &&& (1 : Int32)))])) _
        refine XS.icmpNo X5.here hx rfl (hb hby at_30) rfl (teq hc30_7).2 ?_
        show Steps p.tables e below (T5.setTop (mkF m 33 #[.val (.int p1), .val (.int p2), .val (.int (p1 &&& (1 : Int32))), .val (.int (p2 &&& (1 : Int32))), .val (.ref w5), .val (.ref w7), .unset] [])) _
        refine st8 _ ?_
        show Steps p.tables e below (T8.setTop (mkF m 36 #[.val (.int p1), .val (.int p2), .val (.int (p1 &&& (1 : Int32))), .val (.int (p2 &&& (1 : Int32))), .val (.ref w5), .val (.ref w7), .unset] [(.ref w9)])) _
        refine XS.astore X8.here hx rfl (hb hby at_36) rfl rfl (l' := #[.val (.int p1), .val (.int p2), .val (.int (p1 &&& (1 : Int32))), .val (.int (p2 &&& (1 : Int32))), .val (.ref w5), .val (.ref w9), .unset]) rfl ?_
        show Steps p.tables e below (T8.setTop (mkF m 38 #[.val (.int p1), .val (.int p2), .val (.int (p1 &&& (1 : Int32))), .val (.int (p2 &&& (1 : Int32))), .val (.ref w5), .val (.ref w9), .unset] [])) _
        refine XS.iloadN X8.here hx rfl (hb hby at_38) rfl ?_
        show Steps p.tables e below (T8.setTop (mkF m 39 #[.val (.int p1), .val (.int p2), .val (.int (p1 &&& (1 : Int32))), .val (.int (p2 &&& (1 : Int32))), .val (.ref w5), .val (.ref w9), .unset] [(.int (p1 &&& (1 : Int32)))])) _
        refine XS.iconst X8.here hx rfl (hb hby at_39) ?_
        show Steps p.tables e below (T8.setTop (mkF m 40 #[.val (.int p1), .val (.int p2), .val (.int (p1 &&& (1 : Int32))), .val (.int (p2 &&& (1 : Int32))), .val (.ref w5), .val (.ref w9), .unset] [(.int (1 : Int32)), (.int (p1 &&& (1 : Int32)))])) _
        refine XS.icmpNo X8.here hx rfl (hb hby at_40) rfl (teq hc15_3).2 ?_
        show Steps p.tables e below (T8.setTop (mkF m 43 #[.val (.int p1), .val (.int p2), .val (.int (p1 &&& (1 : Int32))), .val (.int (p2 &&& (1 : Int32))), .val (.ref w5), .val (.ref w9), .unset] [])) _
        refine XS.iloadN X8.here hx rfl (hb hby at_43) rfl ?_
        show Steps p.tables e below (T8.setTop (mkF m 44 #[.val (.int p1), .val (.int p2), .val (.int (p1 &&& (1 : Int32))), .val (.int (p2 &&& (1 : Int32))), .val (.ref w5), .val (.ref w9), .unset] [(.int (p2 &&& (1 : Int32)))])) _
        refine XS.iconst X8.here hx rfl (hb hby at_44) ?_
        show Steps p.tables e below (T8.setTop (mkF m 45 #[.val (.int p1), .val (.int p2), .val (.int (p1 &&& (1 : Int32))), .val (.int (p2 &&& (1 : Int32))), .val (.ref w5), .val (.ref w9), .unset] [(.int (1 : Int32)), (.int (p2 &&& (1 : Int32)))])) _
        refine XS.icmpYes X8.here hx rfl (pc0 := 45) (pc' := 52) rfl (hb hby at_45) rfl (teq hc30_7).1 (by decide) (by decide) ?_
        show Steps p.tables e below (T8.setTop (mkF m 52 #[.val (.int p1), .val (.int p2), .val (.int (p1 &&& (1 : Int32))), .val (.int (p2 &&& (1 : Int32))), .val (.ref w5), .val (.ref w9), .unset] [])) _
        refine XS.iconst X8.here hx rfl (hb hby at_52) ?_
        show Steps p.tables e below (T8.setTop (mkF m 53 #[.val (.int p1), .val (.int p2), .val (.int (p1 &&& (1 : Int32))), .val (.int (p2 &&& (1 : Int32))), .val (.ref w5), .val (.ref w9), .unset] [(.int (0 : Int32))])) _
        refine XS.istore X8.here hx rfl (hb hby at_53) rfl (l' := #[.val (.int p1), .val (.int p2), .val (.int (p1 &&& (1 : Int32))), .val (.int (p2 &&& (1 : Int32))), .val (.ref w5), .val (.ref w9), .val (.int (0 : Int32))]) rfl ?_
        show Steps p.tables e below (T8.setTop (mkF m 55 #[.val (.int p1), .val (.int p2), .val (.int (p1 &&& (1 : Int32))), .val (.int (p2 &&& (1 : Int32))), .val (.ref w5), .val (.ref w9), .val (.int (0 : Int32))] [])) _
        refine XS.aload X8.here hx rfl (hb hby at_55) rfl rfl ?_
        show Steps p.tables e below (T8.setTop (mkF m 57 #[.val (.int p1), .val (.int p2), .val (.int (p1 &&& (1 : Int32))), .val (.int (p2 &&& (1 : Int32))), .val (.ref w5), .val (.ref w9), .val (.int (0 : Int32))] [(.ref w5)])) _
        refine XS.aload X8.here hx rfl (hb hby at_57) rfl rfl ?_
        show Steps p.tables e below (T8.setTop (mkF m 59 #[.val (.int p1), .val (.int p2), .val (.int (p1 &&& (1 : Int32))), .val (.int (p2 &&& (1 : Int32))), .val (.ref w5), .val (.ref w9), .val (.int (0 : Int32))] [(.ref w9), (.ref w5)])) _
        refine st9.trans ?_
        show Steps p.tables e below (T9.setTop (mkF m 62 #[.val (.int p1), .val (.int p2), .val (.int (p1 &&& (1 : Int32))), .val (.int (p2 &&& (1 : Int32))), .val (.ref w5), .val (.ref w9), .val (.int (0 : Int32))] [(.int (0 : Int32))])) _
        refine XS.iload X9.here hx rfl (hb hby at_62) rfl ?_
        show Steps p.tables e below (T9.setTop (mkF m 64 #[.val (.int p1), .val (.int p2), .val (.int (p1 &&& (1 : Int32))), .val (.int (p2 &&& (1 : Int32))), .val (.ref w5), .val (.ref w9), .val (.int (0 : Int32))] [(.int (0 : Int32)), (.int (0 : Int32))])) _
        refine XS.icmpNo X9.here hx rfl (hb hby at_64) rfl (teq (by decide : (0 : Int32) = (0 : Int32))).2 ?_
        show Steps p.tables e below (T9.setTop (mkF m 67 #[.val (.int p1), .val (.int p2), .val (.int (p1 &&& (1 : Int32))), .val (.int (p2 &&& (1 : Int32))), .val (.ref w5), .val (.ref w9), .val (.int (0 : Int32))] [])) _
        refine XS.iconst X9.here hx rfl (hb hby at_67) ?_
        show Steps p.tables e below (T9.setTop (mkF m 68 #[.val (.int p1), .val (.int p2), .val (.int (p1 &&& (1 : Int32))), .val (.int (p2 &&& (1 : Int32))), .val (.ref w5), .val (.ref w9), .val (.int (0 : Int32))] [(.int (1 : Int32))])) _
        refine XS.goto X9.here hx rfl (pc0 := 68) (pc' := 72) rfl (hb hby at_68) (by decide) (by decide) ?_
        show Steps p.tables e below (T9.setTop (mkF m 72 #[.val (.int p1), .val (.int p2), .val (.int (p1 &&& (1 : Int32))), .val (.int (p2 &&& (1 : Int32))), .val (.ref w5), .val (.ref w9), .val (.int (0 : Int32))] [(.int (1 : Int32))])) _
        exact retN X9 hx (t := .boolean) Bd.returns (by simp) (hb hby at_72) hr
      ·
        show Q_rm0 Z p1 p2 w3 w5 w7 w9 h0 n0 (_) T9.heap (_)
        rw [eq9]
        exact ⟨rfl, N9⟩
    ·
      obtain ⟨cq10, kq10, q10a, q10b, q10c⟩ := isOf hZ e5 E5
      obtain ⟨_, _, ⟨T10, L10, k10, n10⟩, -, X10, ⟨Lc10, hQ10, l10, y10, z10⟩, st10⟩ := X5.virtualBack hx (y := (⟨"com/example/amortis/amortis/BalanceConvention", "appliesTo", "(Lcom/example/amortis/amortis/Method;)Z"⟩ : MethodName)) (z := (⟨"com/example/amortis/amortis/BalanceConvention", "appliesTo", "(Lcom/example/amortis/amortis/Method;)Z"⟩ : MethodName)) hown (mvT hZ (hw _ (List.mem_of_getElem? (i := 8) rfl))) (mvT hZ (hw _ (List.mem_of_getElem? (i := 9) rfl))) (notFace_of_selects (args := #[]) (mvT hZ (hw _ (List.mem_of_getElem? (i := 11) rfl)))) (mvT hZ (hw _ (List.mem_of_getElem? (i := 11) rfl))) (mvT hZ (hw _ (List.mem_of_getElem? (i := 10) rfl))) (by decide) (backOf (W := 0) (rm1 l Z a0 hw [] w5 w7 w3 w7 (1 : Int32) h0 n0 Z0 S3 S7 (by simp [hne1, hne2])) hZ (hw _ (List.mem_of_getElem? (i := 12) rfl)) (hw _ (List.mem_of_getElem? (i := 1) rfl)) (by decide) (by decide)) q10a q10c (g := (mkF m 59 #[.val (.int p1), .val (.int p2), .val (.int (p1 &&& (1 : Int32))), .val (.int (p2 &&& (1 : Int32))), .val (.ref w5), .val (.ref w7), .val (.int (1 : Int32))] [(.ref w7), (.ref w5)])) rfl (by rw [hml]; rfl) (Steps.refl _) (argsL := [(.ref w7)]) (rest := []) (lenOf own_pd0 rfl) rfl (by show 2 * 0 + _ ≤ _; exact Nat.le_of_eq rfl) (hb hby at_59) (fun _ _ => ⟨rfl, e5, (by decide : 0 + 0 ≤ _), (by decide : 0 + 0 ≤ _)⟩)
      dsimp only [Pt.U, Pt.locs, Pt.cells, Pt.slots] at X10 l10 y10 z10 st10 hQ10
      subst l10 y10 z10
      obtain ⟨rfl, N10q, eq10⟩ := hQ10
      have N10 := Fr.app N0 N10q
      obtain ⟨fs, hr, hrun, hended, hW, hsame⟩ := X10.leave (v := some (.int (1 : Int32))) (fun h => by rw [Bd.returns] at h; cases h)
      refine ⟨_, _, pre6 _ ?_, hrun, hended, _, _, rfl, ?_, ⟨_, rfl⟩, hW, hsame.mono (by decide) (by decide)⟩
      ·
        show Steps p.tables e below (T5.setTop (mkF m 30 #[.val (.int p1), .val (.int p2), .val (.int (p1 &&& (1 : Int32))), .val (.int (p2 &&& (1 : Int32))), .val (.ref w5), .val (.ref w7), .unset] [(.int (1 : Int32)), (.int (p2 &&& (1 : Int32)))])) _
        refine XS.icmpYes X5.here hx rfl (pc0 := 30) (pc' := 38) rfl (hb hby at_30) rfl (feq hc30_7).2 (by decide) (by decide) ?_
        show Steps p.tables e below (T5.setTop (mkF m 38 #[.val (.int p1), .val (.int p2), .val (.int (p1 &&& (1 : Int32))), .val (.int (p2 &&& (1 : Int32))), .val (.ref w5), .val (.ref w7), .unset] [])) _
        refine XS.iloadN X5.here hx rfl (hb hby at_38) rfl ?_
        show Steps p.tables e below (T5.setTop (mkF m 39 #[.val (.int p1), .val (.int p2), .val (.int (p1 &&& (1 : Int32))), .val (.int (p2 &&& (1 : Int32))), .val (.ref w5), .val (.ref w7), .unset] [(.int (p1 &&& (1 : Int32)))])) _
        refine XS.iconst X5.here hx rfl (hb hby at_39) ?_
        show Steps p.tables e below (T5.setTop (mkF m 40 #[.val (.int p1), .val (.int p2), .val (.int (p1 &&& (1 : Int32))), .val (.int (p2 &&& (1 : Int32))), .val (.ref w5), .val (.ref w7), .unset] [(.int (1 : Int32)), (.int (p1 &&& (1 : Int32)))])) _
        refine XS.icmpNo X5.here hx rfl (hb hby at_40) rfl (teq hc15_3).2 ?_
        show Steps p.tables e below (T5.setTop (mkF m 43 #[.val (.int p1), .val (.int p2), .val (.int (p1 &&& (1 : Int32))), .val (.int (p2 &&& (1 : Int32))), .val (.ref w5), .val (.ref w7), .unset] [])) _
        refine XS.iloadN X5.here hx rfl (hb hby at_43) rfl ?_
        show Steps p.tables e below (T5.setTop (mkF m 44 #[.val (.int p1), .val (.int p2), .val (.int (p1 &&& (1 : Int32))), .val (.int (p2 &&& (1 : Int32))), .val (.ref w5), .val (.ref w7), .unset] [(.int (p2 &&& (1 : Int32)))])) _
        refine XS.iconst X5.here hx rfl (hb hby at_44) ?_
        show Steps p.tables e below (T5.setTop (mkF m 45 #[.val (.int p1), .val (.int p2), .val (.int (p1 &&& (1 : Int32))), .val (.int (p2 &&& (1 : Int32))), .val (.ref w5), .val (.ref w7), .unset] [(.int (1 : Int32)), (.int (p2 &&& (1 : Int32)))])) _
        refine XS.icmpNo X5.here hx rfl (hb hby at_45) rfl (feq hc30_7).1 ?_
        show Steps p.tables e below (T5.setTop (mkF m 48 #[.val (.int p1), .val (.int p2), .val (.int (p1 &&& (1 : Int32))), .val (.int (p2 &&& (1 : Int32))), .val (.ref w5), .val (.ref w7), .unset] [])) _
        refine XS.iconst X5.here hx rfl (hb hby at_48) ?_
        show Steps p.tables e below (T5.setTop (mkF m 49 #[.val (.int p1), .val (.int p2), .val (.int (p1 &&& (1 : Int32))), .val (.int (p2 &&& (1 : Int32))), .val (.ref w5), .val (.ref w7), .unset] [(.int (1 : Int32))])) _
        refine XS.goto X5.here hx rfl (pc0 := 49) (pc' := 53) rfl (hb hby at_49) (by decide) (by decide) ?_
        show Steps p.tables e below (T5.setTop (mkF m 53 #[.val (.int p1), .val (.int p2), .val (.int (p1 &&& (1 : Int32))), .val (.int (p2 &&& (1 : Int32))), .val (.ref w5), .val (.ref w7), .unset] [(.int (1 : Int32))])) _
        refine XS.istore X5.here hx rfl (hb hby at_53) rfl (l' := #[.val (.int p1), .val (.int p2), .val (.int (p1 &&& (1 : Int32))), .val (.int (p2 &&& (1 : Int32))), .val (.ref w5), .val (.ref w7), .val (.int (1 : Int32))]) rfl ?_
        show Steps p.tables e below (T5.setTop (mkF m 55 #[.val (.int p1), .val (.int p2), .val (.int (p1 &&& (1 : Int32))), .val (.int (p2 &&& (1 : Int32))), .val (.ref w5), .val (.ref w7), .val (.int (1 : Int32))] [])) _
        refine XS.aload X5.here hx rfl (hb hby at_55) rfl rfl ?_
        show Steps p.tables e below (T5.setTop (mkF m 57 #[.val (.int p1), .val (.int p2), .val (.int (p1 &&& (1 : Int32))), .val (.int (p2 &&& (1 : Int32))), .val (.ref w5), .val (.ref w7), .val (.int (1 : Int32))] [(.ref w5)])) _
        refine XS.aload X5.here hx rfl (hb hby at_57) rfl rfl ?_
        show Steps p.tables e below (T5.setTop (mkF m 59 #[.val (.int p1), .val (.int p2), .val (.int (p1 &&& (1 : Int32))), .val (.int (p2 &&& (1 : Int32))), .val (.ref w5), .val (.ref w7), .val (.int (1 : Int32))] [(.ref w7), (.ref w5)])) _
        refine st10.trans ?_
        show Steps p.tables e below (T10.setTop (mkF m 62 #[.val (.int p1), .val (.int p2), .val (.int (p1 &&& (1 : Int32))), .val (.int (p2 &&& (1 : Int32))), .val (.ref w5), .val (.ref w7), .val (.int (1 : Int32))] [(.int (1 : Int32))])) _
        refine XS.iload X10.here hx rfl (hb hby at_62) rfl ?_
        show Steps p.tables e below (T10.setTop (mkF m 64 #[.val (.int p1), .val (.int p2), .val (.int (p1 &&& (1 : Int32))), .val (.int (p2 &&& (1 : Int32))), .val (.ref w5), .val (.ref w7), .val (.int (1 : Int32))] [(.int (1 : Int32)), (.int (1 : Int32))])) _
        refine XS.icmpNo X10.here hx rfl (hb hby at_64) rfl (teq (by decide : (1 : Int32) = (1 : Int32))).2 ?_
        show Steps p.tables e below (T10.setTop (mkF m 67 #[.val (.int p1), .val (.int p2), .val (.int (p1 &&& (1 : Int32))), .val (.int (p2 &&& (1 : Int32))), .val (.ref w5), .val (.ref w7), .val (.int (1 : Int32))] [])) _
        refine XS.iconst X10.here hx rfl (hb hby at_67) ?_
        show Steps p.tables e below (T10.setTop (mkF m 68 #[.val (.int p1), .val (.int p2), .val (.int (p1 &&& (1 : Int32))), .val (.int (p2 &&& (1 : Int32))), .val (.ref w5), .val (.ref w7), .val (.int (1 : Int32))] [(.int (1 : Int32))])) _
        refine XS.goto X10.here hx rfl (pc0 := 68) (pc' := 72) rfl (hb hby at_68) (by decide) (by decide) ?_
        show Steps p.tables e below (T10.setTop (mkF m 72 #[.val (.int p1), .val (.int p2), .val (.int (p1 &&& (1 : Int32))), .val (.int (p2 &&& (1 : Int32))), .val (.ref w5), .val (.ref w7), .val (.int (1 : Int32))] [(.int (1 : Int32))])) _
        exact retN X10 hx (t := .boolean) Bd.returns (by simp) (hb hby at_72) hr
      ·
        show Q_rm0 Z p1 p2 w3 w5 w7 w9 h0 n0 (_) T10.heap (_)
        rw [eq10]
        exact ⟨rfl, N10⟩
  ·
    obtain ⟨T11, X11, e11, st11⟩ := getS2 X1 hx hZ hown (host := "") (Or.inl (hw _ (List.mem_of_getElem? (i := 3) rfl))) Via.refl e1 S7 (g := (mkF m 23 #[.val (.int p1), .val (.int p2), .val (.int (p1 &&& (1 : Int32))), .val (.int (p2 &&& (1 : Int32))), .val (.ref w3), .unset, .unset] [])) rfl (hb hby at_23)
    have pre12 : ∀ t, Steps p.tables e below (T11.setTop (mkF m 30 #[.val (.int p1), .val (.int p2), .val (.int (p1 &&& (1 : Int32))), .val (.int (p2 &&& (1 : Int32))), .val (.ref w3), .val (.ref w7), .unset] [(.int (1 : Int32)), (.int (p2 &&& (1 : Int32)))])) t → Steps p.tables e below (s₁.setTop (entryFrame m #[(.int p1), (.int p2)] maxLocals)) t := fun t kt => by
      refine pre2 _ ?_
      show Steps p.tables e below (T1.setTop (mkF m 15 #[.val (.int p1), .val (.int p2), .val (.int (p1 &&& (1 : Int32))), .val (.int (p2 &&& (1 : Int32))), .val (.ref w3), .unset, .unset] [(.int (1 : Int32)), (.int (p1 &&& (1 : Int32)))])) _
      refine XS.icmpYes X1.here hx rfl (pc0 := 15) (pc' := 23) rfl (hb hby at_15) rfl (feq hc15_3).2 (by decide) (by decide) ?_
      show Steps p.tables e below (T1.setTop (mkF m 23 #[.val (.int p1), .val (.int p2), .val (.int (p1 &&& (1 : Int32))), .val (.int (p2 &&& (1 : Int32))), .val (.ref w3), .unset, .unset] [])) _
      refine st11 _ ?_
      show Steps p.tables e below (T11.setTop (mkF m 26 #[.val (.int p1), .val (.int p2), .val (.int (p1 &&& (1 : Int32))), .val (.int (p2 &&& (1 : Int32))), .val (.ref w3), .unset, .unset] [(.ref w7)])) _
      refine XS.astore X11.here hx rfl (hb hby at_26) rfl rfl (l' := #[.val (.int p1), .val (.int p2), .val (.int (p1 &&& (1 : Int32))), .val (.int (p2 &&& (1 : Int32))), .val (.ref w3), .val (.ref w7), .unset]) rfl ?_
      show Steps p.tables e below (T11.setTop (mkF m 28 #[.val (.int p1), .val (.int p2), .val (.int (p1 &&& (1 : Int32))), .val (.int (p2 &&& (1 : Int32))), .val (.ref w3), .val (.ref w7), .unset] [])) _
      refine XS.iloadN X11.here hx rfl (hb hby at_28) rfl ?_
      show Steps p.tables e below (T11.setTop (mkF m 29 #[.val (.int p1), .val (.int p2), .val (.int (p1 &&& (1 : Int32))), .val (.int (p2 &&& (1 : Int32))), .val (.ref w3), .val (.ref w7), .unset] [(.int (p2 &&& (1 : Int32)))])) _
      refine XS.iconst X11.here hx rfl (hb hby at_29) ?_
      show Steps p.tables e below (T11.setTop (mkF m 30 #[.val (.int p1), .val (.int p2), .val (.int (p1 &&& (1 : Int32))), .val (.int (p2 &&& (1 : Int32))), .val (.ref w3), .val (.ref w7), .unset] [(.int (1 : Int32)), (.int (p2 &&& (1 : Int32)))])) _
      exact kt
    rcases Decidable.em ((p2 &&& (1 : Int32)) = (1 : Int32)) with hc30_13 | hc30_13
    ·
      obtain ⟨T14, X14, e14, st14⟩ := getS2 X11 hx hZ hown (host := "") (Or.inl (hw _ (List.mem_of_getElem? (i := 6) rfl))) Via.refl e11 S9 (g := (mkF m 33 #[.val (.int p1), .val (.int p2), .val (.int (p1 &&& (1 : Int32))), .val (.int (p2 &&& (1 : Int32))), .val (.ref w3), .val (.ref w7), .unset] [])) rfl (hb hby at_33)
      obtain ⟨cq15, kq15, q15a, q15b, q15c⟩ := isOf hZ e14 E3
      obtain ⟨_, _, ⟨T15, L15, k15, n15⟩, -, X15, ⟨Lc15, hQ15, l15, y15, z15⟩, st15⟩ := X14.virtualBack hx (y := (⟨"com/example/amortis/amortis/BalanceConvention", "appliesTo", "(Lcom/example/amortis/amortis/Method;)Z"⟩ : MethodName)) (z := (⟨"com/example/amortis/amortis/BalanceConvention", "appliesTo", "(Lcom/example/amortis/amortis/Method;)Z"⟩ : MethodName)) hown (mvT hZ (hw _ (List.mem_of_getElem? (i := 8) rfl))) (mvT hZ (hw _ (List.mem_of_getElem? (i := 9) rfl))) (notFace_of_selects (args := #[]) (mvT hZ (hw _ (List.mem_of_getElem? (i := 11) rfl)))) (mvT hZ (hw _ (List.mem_of_getElem? (i := 11) rfl))) (mvT hZ (hw _ (List.mem_of_getElem? (i := 10) rfl))) (by decide) (backOf (W := 0) (rm1 l Z a0 hw [] w3 w9 w3 w7 (1 : Int32) h0 n0 Z0 S3 S7 (by simp [hne1, hne2])) hZ (hw _ (List.mem_of_getElem? (i := 12) rfl)) (hw _ (List.mem_of_getElem? (i := 1) rfl)) (by decide) (by decide)) q15a q15c (g := (mkF m 59 #[.val (.int p1), .val (.int p2), .val (.int (p1 &&& (1 : Int32))), .val (.int (p2 &&& (1 : Int32))), .val (.ref w3), .val (.ref w9), .val (.int (1 : Int32))] [(.ref w9), (.ref w3)])) rfl (by rw [hml]; rfl) (Steps.refl _) (argsL := [(.ref w9)]) (rest := []) (lenOf own_pd0 rfl) rfl (by show 2 * 0 + _ ≤ _; exact Nat.le_of_eq rfl) (hb hby at_59) (fun _ _ => ⟨rfl, e14, (by decide : 0 + 0 ≤ _), (by decide : 0 + 0 ≤ _)⟩)
      dsimp only [Pt.U, Pt.locs, Pt.cells, Pt.slots] at X15 l15 y15 z15 st15 hQ15
      subst l15 y15 z15
      obtain ⟨rfl, N15q, eq15⟩ := hQ15
      have N15 := Fr.app N0 N15q
      obtain ⟨fs, hr, hrun, hended, hW, hsame⟩ := X15.leave (v := some (.int (1 : Int32))) (fun h => by rw [Bd.returns] at h; cases h)
      refine ⟨_, _, pre12 _ ?_, hrun, hended, _, _, rfl, ?_, ⟨_, rfl⟩, hW, hsame.mono (by decide) (by decide)⟩
      ·
        show Steps p.tables e below (T11.setTop (mkF m 30 #[.val (.int p1), .val (.int p2), .val (.int (p1 &&& (1 : Int32))), .val (.int (p2 &&& (1 : Int32))), .val (.ref w3), .val (.ref w7), .unset] [(.int (1 : Int32)), (.int (p2 &&& (1 : Int32)))])) _
        refine XS.icmpNo X11.here hx rfl (hb hby at_30) rfl (teq hc30_13).2 ?_
        show Steps p.tables e below (T11.setTop (mkF m 33 #[.val (.int p1), .val (.int p2), .val (.int (p1 &&& (1 : Int32))), .val (.int (p2 &&& (1 : Int32))), .val (.ref w3), .val (.ref w7), .unset] [])) _
        refine st14 _ ?_
        show Steps p.tables e below (T14.setTop (mkF m 36 #[.val (.int p1), .val (.int p2), .val (.int (p1 &&& (1 : Int32))), .val (.int (p2 &&& (1 : Int32))), .val (.ref w3), .val (.ref w7), .unset] [(.ref w9)])) _
        refine XS.astore X14.here hx rfl (hb hby at_36) rfl rfl (l' := #[.val (.int p1), .val (.int p2), .val (.int (p1 &&& (1 : Int32))), .val (.int (p2 &&& (1 : Int32))), .val (.ref w3), .val (.ref w9), .unset]) rfl ?_
        show Steps p.tables e below (T14.setTop (mkF m 38 #[.val (.int p1), .val (.int p2), .val (.int (p1 &&& (1 : Int32))), .val (.int (p2 &&& (1 : Int32))), .val (.ref w3), .val (.ref w9), .unset] [])) _
        refine XS.iloadN X14.here hx rfl (hb hby at_38) rfl ?_
        show Steps p.tables e below (T14.setTop (mkF m 39 #[.val (.int p1), .val (.int p2), .val (.int (p1 &&& (1 : Int32))), .val (.int (p2 &&& (1 : Int32))), .val (.ref w3), .val (.ref w9), .unset] [(.int (p1 &&& (1 : Int32)))])) _
        refine XS.iconst X14.here hx rfl (hb hby at_39) ?_
        show Steps p.tables e below (T14.setTop (mkF m 40 #[.val (.int p1), .val (.int p2), .val (.int (p1 &&& (1 : Int32))), .val (.int (p2 &&& (1 : Int32))), .val (.ref w3), .val (.ref w9), .unset] [(.int (1 : Int32)), (.int (p1 &&& (1 : Int32)))])) _
        refine XS.icmpYes X14.here hx rfl (pc0 := 40) (pc' := 48) rfl (hb hby at_40) rfl (feq hc15_3).2 (by decide) (by decide) ?_
        show Steps p.tables e below (T14.setTop (mkF m 48 #[.val (.int p1), .val (.int p2), .val (.int (p1 &&& (1 : Int32))), .val (.int (p2 &&& (1 : Int32))), .val (.ref w3), .val (.ref w9), .unset] [])) _
        refine XS.iconst X14.here hx rfl (hb hby at_48) ?_
        show Steps p.tables e below (T14.setTop (mkF m 49 #[.val (.int p1), .val (.int p2), .val (.int (p1 &&& (1 : Int32))), .val (.int (p2 &&& (1 : Int32))), .val (.ref w3), .val (.ref w9), .unset] [(.int (1 : Int32))])) _
        refine XS.goto X14.here hx rfl (pc0 := 49) (pc' := 53) rfl (hb hby at_49) (by decide) (by decide) ?_
        show Steps p.tables e below (T14.setTop (mkF m 53 #[.val (.int p1), .val (.int p2), .val (.int (p1 &&& (1 : Int32))), .val (.int (p2 &&& (1 : Int32))), .val (.ref w3), .val (.ref w9), .unset] [(.int (1 : Int32))])) _
        refine XS.istore X14.here hx rfl (hb hby at_53) rfl (l' := #[.val (.int p1), .val (.int p2), .val (.int (p1 &&& (1 : Int32))), .val (.int (p2 &&& (1 : Int32))), .val (.ref w3), .val (.ref w9), .val (.int (1 : Int32))]) rfl ?_
        show Steps p.tables e below (T14.setTop (mkF m 55 #[.val (.int p1), .val (.int p2), .val (.int (p1 &&& (1 : Int32))), .val (.int (p2 &&& (1 : Int32))), .val (.ref w3), .val (.ref w9), .val (.int (1 : Int32))] [])) _
        refine XS.aload X14.here hx rfl (hb hby at_55) rfl rfl ?_
        show Steps p.tables e below (T14.setTop (mkF m 57 #[.val (.int p1), .val (.int p2), .val (.int (p1 &&& (1 : Int32))), .val (.int (p2 &&& (1 : Int32))), .val (.ref w3), .val (.ref w9), .val (.int (1 : Int32))] [(.ref w3)])) _
        refine XS.aload X14.here hx rfl (hb hby at_57) rfl rfl ?_
        show Steps p.tables e below (T14.setTop (mkF m 59 #[.val (.int p1), .val (.int p2), .val (.int (p1 &&& (1 : Int32))), .val (.int (p2 &&& (1 : Int32))), .val (.ref w3), .val (.ref w9), .val (.int (1 : Int32))] [(.ref w9), (.ref w3)])) _
        refine st15.trans ?_
        show Steps p.tables e below (T15.setTop (mkF m 62 #[.val (.int p1), .val (.int p2), .val (.int (p1 &&& (1 : Int32))), .val (.int (p2 &&& (1 : Int32))), .val (.ref w3), .val (.ref w9), .val (.int (1 : Int32))] [(.int (1 : Int32))])) _
        refine XS.iload X15.here hx rfl (hb hby at_62) rfl ?_
        show Steps p.tables e below (T15.setTop (mkF m 64 #[.val (.int p1), .val (.int p2), .val (.int (p1 &&& (1 : Int32))), .val (.int (p2 &&& (1 : Int32))), .val (.ref w3), .val (.ref w9), .val (.int (1 : Int32))] [(.int (1 : Int32)), (.int (1 : Int32))])) _
        refine XS.icmpNo X15.here hx rfl (hb hby at_64) rfl (teq (by decide : (1 : Int32) = (1 : Int32))).2 ?_
        show Steps p.tables e below (T15.setTop (mkF m 67 #[.val (.int p1), .val (.int p2), .val (.int (p1 &&& (1 : Int32))), .val (.int (p2 &&& (1 : Int32))), .val (.ref w3), .val (.ref w9), .val (.int (1 : Int32))] [])) _
        refine XS.iconst X15.here hx rfl (hb hby at_67) ?_
        show Steps p.tables e below (T15.setTop (mkF m 68 #[.val (.int p1), .val (.int p2), .val (.int (p1 &&& (1 : Int32))), .val (.int (p2 &&& (1 : Int32))), .val (.ref w3), .val (.ref w9), .val (.int (1 : Int32))] [(.int (1 : Int32))])) _
        refine XS.goto X15.here hx rfl (pc0 := 68) (pc' := 72) rfl (hb hby at_68) (by decide) (by decide) ?_
        show Steps p.tables e below (T15.setTop (mkF m 72 #[.val (.int p1), .val (.int p2), .val (.int (p1 &&& (1 : Int32))), .val (.int (p2 &&& (1 : Int32))), .val (.ref w3), .val (.ref w9), .val (.int (1 : Int32))] [(.int (1 : Int32))])) _
        exact retN X15 hx (t := .boolean) Bd.returns (by simp) (hb hby at_72) hr
      ·
        show Q_rm0 Z p1 p2 w3 w5 w7 w9 h0 n0 (_) T15.heap (_)
        rw [eq15]
        exact ⟨rfl, N15⟩
    ·
      obtain ⟨cq16, kq16, q16a, q16b, q16c⟩ := isOf hZ e11 E3
      obtain ⟨_, _, ⟨T16, L16, k16, n16⟩, -, X16, ⟨Lc16, hQ16, l16, y16, z16⟩, st16⟩ := X11.virtualBack hx (y := (⟨"com/example/amortis/amortis/BalanceConvention", "appliesTo", "(Lcom/example/amortis/amortis/Method;)Z"⟩ : MethodName)) (z := (⟨"com/example/amortis/amortis/BalanceConvention", "appliesTo", "(Lcom/example/amortis/amortis/Method;)Z"⟩ : MethodName)) hown (mvT hZ (hw _ (List.mem_of_getElem? (i := 8) rfl))) (mvT hZ (hw _ (List.mem_of_getElem? (i := 9) rfl))) (notFace_of_selects (args := #[]) (mvT hZ (hw _ (List.mem_of_getElem? (i := 11) rfl)))) (mvT hZ (hw _ (List.mem_of_getElem? (i := 11) rfl))) (mvT hZ (hw _ (List.mem_of_getElem? (i := 10) rfl))) (by decide) (backOf (W := 0) (rm1 l Z a0 hw [] w3 w7 w3 w7 (1 : Int32) h0 n0 Z0 S3 S7 (by simp [hne1, hne2])) hZ (hw _ (List.mem_of_getElem? (i := 12) rfl)) (hw _ (List.mem_of_getElem? (i := 1) rfl)) (by decide) (by decide)) q16a q16c (g := (mkF m 59 #[.val (.int p1), .val (.int p2), .val (.int (p1 &&& (1 : Int32))), .val (.int (p2 &&& (1 : Int32))), .val (.ref w3), .val (.ref w7), .val (.int (1 : Int32))] [(.ref w7), (.ref w3)])) rfl (by rw [hml]; rfl) (Steps.refl _) (argsL := [(.ref w7)]) (rest := []) (lenOf own_pd0 rfl) rfl (by show 2 * 0 + _ ≤ _; exact Nat.le_of_eq rfl) (hb hby at_59) (fun _ _ => ⟨rfl, e11, (by decide : 0 + 0 ≤ _), (by decide : 0 + 0 ≤ _)⟩)
      dsimp only [Pt.U, Pt.locs, Pt.cells, Pt.slots] at X16 l16 y16 z16 st16 hQ16
      subst l16 y16 z16
      obtain ⟨rfl, N16q, eq16⟩ := hQ16
      have N16 := Fr.app N0 N16q
      obtain ⟨fs, hr, hrun, hended, hW, hsame⟩ := X16.leave (v := some (.int (1 : Int32))) (fun h => by rw [Bd.returns] at h; cases h)
      refine ⟨_, _, pre12 _ ?_, hrun, hended, _, _, rfl, ?_, ⟨_, rfl⟩, hW, hsame.mono (by decide) (by decide)⟩
      ·
        show Steps p.tables e below (T11.setTop (mkF m 30 #[.val (.int p1), .val (.int p2), .val (.int (p1 &&& (1 : Int32))), .val (.int (p2 &&& (1 : Int32))), .val (.ref w3), .val (.ref w7), .unset] [(.int (1 : Int32)), (.int (p2 &&& (1 : Int32)))])) _
        refine XS.icmpYes X11.here hx rfl (pc0 := 30) (pc' := 38) rfl (hb hby at_30) rfl (feq hc30_13).2 (by decide) (by decide) ?_
        show Steps p.tables e below (T11.setTop (mkF m 38 #[.val (.int p1), .val (.int p2), .val (.int (p1 &&& (1 : Int32))), .val (.int (p2 &&& (1 : Int32))), .val (.ref w3), .val (.ref w7), .unset] [])) _
        refine XS.iloadN X11.here hx rfl (hb hby at_38) rfl ?_
        show Steps p.tables e below (T11.setTop (mkF m 39 #[.val (.int p1), .val (.int p2), .val (.int (p1 &&& (1 : Int32))), .val (.int (p2 &&& (1 : Int32))), .val (.ref w3), .val (.ref w7), .unset] [(.int (p1 &&& (1 : Int32)))])) _
        refine XS.iconst X11.here hx rfl (hb hby at_39) ?_
        show Steps p.tables e below (T11.setTop (mkF m 40 #[.val (.int p1), .val (.int p2), .val (.int (p1 &&& (1 : Int32))), .val (.int (p2 &&& (1 : Int32))), .val (.ref w3), .val (.ref w7), .unset] [(.int (1 : Int32)), (.int (p1 &&& (1 : Int32)))])) _
        refine XS.icmpYes X11.here hx rfl (pc0 := 40) (pc' := 48) rfl (hb hby at_40) rfl (feq hc15_3).2 (by decide) (by decide) ?_
        show Steps p.tables e below (T11.setTop (mkF m 48 #[.val (.int p1), .val (.int p2), .val (.int (p1 &&& (1 : Int32))), .val (.int (p2 &&& (1 : Int32))), .val (.ref w3), .val (.ref w7), .unset] [])) _
        refine XS.iconst X11.here hx rfl (hb hby at_48) ?_
        show Steps p.tables e below (T11.setTop (mkF m 49 #[.val (.int p1), .val (.int p2), .val (.int (p1 &&& (1 : Int32))), .val (.int (p2 &&& (1 : Int32))), .val (.ref w3), .val (.ref w7), .unset] [(.int (1 : Int32))])) _
        refine XS.goto X11.here hx rfl (pc0 := 49) (pc' := 53) rfl (hb hby at_49) (by decide) (by decide) ?_
        show Steps p.tables e below (T11.setTop (mkF m 53 #[.val (.int p1), .val (.int p2), .val (.int (p1 &&& (1 : Int32))), .val (.int (p2 &&& (1 : Int32))), .val (.ref w3), .val (.ref w7), .unset] [(.int (1 : Int32))])) _
        refine XS.istore X11.here hx rfl (hb hby at_53) rfl (l' := #[.val (.int p1), .val (.int p2), .val (.int (p1 &&& (1 : Int32))), .val (.int (p2 &&& (1 : Int32))), .val (.ref w3), .val (.ref w7), .val (.int (1 : Int32))]) rfl ?_
        show Steps p.tables e below (T11.setTop (mkF m 55 #[.val (.int p1), .val (.int p2), .val (.int (p1 &&& (1 : Int32))), .val (.int (p2 &&& (1 : Int32))), .val (.ref w3), .val (.ref w7), .val (.int (1 : Int32))] [])) _
        refine XS.aload X11.here hx rfl (hb hby at_55) rfl rfl ?_
        show Steps p.tables e below (T11.setTop (mkF m 57 #[.val (.int p1), .val (.int p2), .val (.int (p1 &&& (1 : Int32))), .val (.int (p2 &&& (1 : Int32))), .val (.ref w3), .val (.ref w7), .val (.int (1 : Int32))] [(.ref w3)])) _
        refine XS.aload X11.here hx rfl (hb hby at_57) rfl rfl ?_
        show Steps p.tables e below (T11.setTop (mkF m 59 #[.val (.int p1), .val (.int p2), .val (.int (p1 &&& (1 : Int32))), .val (.int (p2 &&& (1 : Int32))), .val (.ref w3), .val (.ref w7), .val (.int (1 : Int32))] [(.ref w7), (.ref w3)])) _
        refine st16.trans ?_
        show Steps p.tables e below (T16.setTop (mkF m 62 #[.val (.int p1), .val (.int p2), .val (.int (p1 &&& (1 : Int32))), .val (.int (p2 &&& (1 : Int32))), .val (.ref w3), .val (.ref w7), .val (.int (1 : Int32))] [(.int (1 : Int32))])) _
        refine XS.iload X16.here hx rfl (hb hby at_62) rfl ?_
        show Steps p.tables e below (T16.setTop (mkF m 64 #[.val (.int p1), .val (.int p2), .val (.int (p1 &&& (1 : Int32))), .val (.int (p2 &&& (1 : Int32))), .val (.ref w3), .val (.ref w7), .val (.int (1 : Int32))] [(.int (1 : Int32)), (.int (1 : Int32))])) _
        refine XS.icmpNo X16.here hx rfl (hb hby at_64) rfl (teq (by decide : (1 : Int32) = (1 : Int32))).2 ?_
        show Steps p.tables e below (T16.setTop (mkF m 67 #[.val (.int p1), .val (.int p2), .val (.int (p1 &&& (1 : Int32))), .val (.int (p2 &&& (1 : Int32))), .val (.ref w3), .val (.ref w7), .val (.int (1 : Int32))] [])) _
        refine XS.iconst X16.here hx rfl (hb hby at_67) ?_
        show Steps p.tables e below (T16.setTop (mkF m 68 #[.val (.int p1), .val (.int p2), .val (.int (p1 &&& (1 : Int32))), .val (.int (p2 &&& (1 : Int32))), .val (.ref w3), .val (.ref w7), .val (.int (1 : Int32))] [(.int (1 : Int32))])) _
        refine XS.goto X16.here hx rfl (pc0 := 68) (pc' := 72) rfl (hb hby at_68) (by decide) (by decide) ?_
        show Steps p.tables e below (T16.setTop (mkF m 72 #[.val (.int p1), .val (.int p2), .val (.int (p1 &&& (1 : Int32))), .val (.int (p2 &&& (1 : Int32))), .val (.ref w3), .val (.ref w7), .val (.int (1 : Int32))] [(.int (1 : Int32))])) _
        exact retN X16 hx (t := .boolean) Bd.returns (by simp) (hb hby at_72) hr
      ·
        show Q_rm0 Z p1 p2 w3 w5 w7 w9 h0 n0 (_) T16.heap (_)
        rw [eq16]
        exact ⟨rfl, N16⟩
set_option maxRecDepth 65536 in
set_option maxHeartbeats 40000000 in
theorem comes_1 {Post : Tables → Env → Array Value → State → Outcome → State → Prop} (hpost : ∀ tb e args s v u, (limb_1_1.after args s (.returned v) u = true ∧ limb_1_2.after args s (.returned v) u = true ∧ True) → FrameEnd s (.returned v) u (Jvm.fieldLocs frame_1_writes args s ++ Jvm.arrayLocs frame_1_arrays args s ++ Jvm.staticLocs frame_1_statics s) 0 0 → Post tb e args s (.returned v) u) :
    ArmFor flags0 classFile x code maxLocals ret World_1 tables_1 room_1 Calls_1 rest_1 Pre_1 Post := by
  intro l hfl _ _ p e ha hc hk s m args below hf hA hF happ hP
  obtain ⟨hcalls, hrest, hpre⟩ := hP
  obtain ⟨-, -, -, hnamed, -, -, -, hat⟩ := (Spec.applies_iff hf).mp happ
  obtain ⟨hg, hn⟩ := and_e (Cond.before_iff.mp (show (Jvm.Cond.and given_1 narrow_1).before args s = true from hpre))
  obtain ⟨g1, g2⟩ := and_e hg
  obtain ⟨g3, g4⟩ := and_e g2
  obtain ⟨w0, w1, rfl⟩ : ∃ w0 w1 : Value, args = #[w0, w1] := by
    have hs : args.size = 2 := by simpa [Cond.value, given_1] using g1
    obtain ⟨L⟩ := args
    match L, hs with
    | [w0, w1], _ => exact ⟨w0, w1, rfl⟩
  have hw := fun d (hd : d ∈ tables_1) => atoms_spec (ws := Jvm.Cond.code x code maxLocals ret :: tables_1) hat d (List.mem_cons_of_mem _ hd)
  have hfit : Fit s := fun {y c} hc i hi => by
    obtain ⟨ha, rfl⟩ := Array.getElem?_eq_some_iff.mp hc
    have q := List.all_eq_true.mp ((Array.all_eq_true_iff_forall_mem.mp hF) _ (Array.getElem_mem ha)) i (List.mem_range.mpr hi)
    simpa [Array.getElem?_eq_getElem hi] using q
  obtain ⟨i0, ei0⟩ := is_v g3
  obtain rfl : w0 = (.int i0) := Option.some.inj ei0
  obtain ⟨i1, ei1⟩ := is_v g4
  obtain rfl : w1 = (.int i1) := Option.some.inj ei1
  obtain ⟨g5, g6⟩ := and_e hn
  obtain ⟨g7, g8⟩ := and_e g6
  obtain ⟨g9, g10⟩ := and_e g8
  obtain ⟨g11, g12⟩ := and_e g10
  obtain ⟨g13, g14⟩ := and_e g12
  obtain ⟨g15, g16⟩ := and_e g14
  obtain ⟨g17, g18⟩ := and_e g16
  obtain ⟨w_SCHEDULE, ev_SCHEDULE⟩ := exa_v g5
  have S_SCHEDULE := Sta.start ev_SCHEDULE (Or.inr ⟨(hw _ (List.mem_of_getElem? (i := 1) rfl)), (hw _ (List.mem_of_getElem? (i := 2) rfl))⟩)
  have E_SCHEDULE := Exa.start ev_SCHEDULE g5
  obtain ⟨w_EQUAL_INSTALLMENT, ev_EQUAL_INSTALLMENT⟩ := exa_v g7
  have S_EQUAL_INSTALLMENT := Sta.start ev_EQUAL_INSTALLMENT (Or.inr ⟨(hw _ (List.mem_of_getElem? (i := 4) rfl)), (hw _ (List.mem_of_getElem? (i := 5) rfl))⟩)
  have E_EQUAL_INSTALLMENT := Exa.start ev_EQUAL_INSTALLMENT g7
  obtain ⟨w_EQUAL_PRINCIPAL, ev_EQUAL_PRINCIPAL⟩ := exa_v g9
  have S_EQUAL_PRINCIPAL := Sta.start ev_EQUAL_PRINCIPAL (Or.inr ⟨(hw _ (List.mem_of_getElem? (i := 4) rfl)), (hw _ (List.mem_of_getElem? (i := 7) rfl))⟩)
  have E_EQUAL_PRINCIPAL := Exa.start ev_EQUAL_PRINCIPAL g9
  obtain ⟨w_PRESENT_VALUE, ev_PRESENT_VALUE⟩ := exa_v g11
  have S_PRESENT_VALUE := Sta.start ev_PRESENT_VALUE (Or.inr ⟨(hw _ (List.mem_of_getElem? (i := 1) rfl)), (hw _ (List.mem_of_getElem? (i := 15) rfl))⟩)
  have E_PRESENT_VALUE := Exa.start ev_PRESENT_VALUE g11
  have F_PRESENT_VALUE_ordinal := own_fldI ev_PRESENT_VALUE g13
  have F_SCHEDULE_ordinal := own_fldI ev_SCHEDULE g15
  have F_EQUAL_PRINCIPAL_ordinal := own_fldI ev_EQUAL_PRINCIPAL g17
  have F_EQUAL_INSTALLMENT_ordinal := own_fldI ev_EQUAL_INSTALLMENT g18
  have hne1 : ¬ w_PRESENT_VALUE = w_SCHEDULE := F_PRESENT_VALUE_ordinal.ne F_SCHEDULE_ordinal (by decide)
  have hne2 : ¬ w_EQUAL_PRINCIPAL = w_EQUAL_INSTALLMENT := F_EQUAL_PRINCIPAL_ordinal.ne F_EQUAL_INSTALLMENT_ordinal (by decide)
  obtain ⟨n, o, h1, h2, h3, _, L, rfl, ⟨rfl, N⟩, hq⟩ := rm0 l s _ hw tables_1 i0 i1 w_SCHEDULE w_PRESENT_VALUE w_EQUAL_INSTALLMENT w_EQUAL_PRINCIPAL s.heap s.heap.size (Nat.le_refl _) S_SCHEDULE S_PRESENT_VALUE S_EQUAL_INSTALLMENT S_EQUAL_PRINCIPAL E_SCHEDULE E_PRESENT_VALUE hne1 hne2 p e ha hc hk s m _ below hf ((Spec.applies_iff_loose hf).mp happ).1 ⟨rfl, State.Warmed39.refl s, rfl⟩ trivial
  refine ⟨n, _, h1, h2, h3, hpost _ _ _ _ _ _ ⟨Cond.after_iff.mpr rfl, Cond.after_iff.mpr (eq_i res_at (Term.int_eval (1)) rfl), trivial⟩ ⟨hq.1, hq.2.1, (hq.2.2.sift fun y hy => Or.inr (N y hy)).mono (by decide) (by decide)⟩⟩
theorem main_1_1 : Claimed_1_1 := comes_1 fun _ _ _ _ _ _ h hF => ⟨h.1, hF⟩
theorem main_1_2 : Claimed_1_2 := comes_1 fun _ _ _ _ _ _ h hF => ⟨h.2.1, hF⟩
end Jvm.Pilot.@@N@@
namespace Jvm.Pilot.@@N@@
open Jvm Jvm.ClassFile Sem Op Lib Jvm.Free Jvm.Stand Jvm.Pilot.@@N@@.Jvm.D
/-! MADE BY PROGRAM (witnessworld.py) out of the Statement's table words and the real class files: 13 classes; the members and pool entries that the words name. The judged class is class 1, her method 1. -/
namespace start1
open Jvm.ClassFile
def u (s : String) : CpInfo := .utf8 (stringToUtf16 s)
/-- a pool by its gaps: so many unusable entries, then the entry; so many at the end -/
def gap : Nat → List CpInfo → List CpInfo
  | 0, r => r
  | n + 1, r => .unusable :: gap n r
def poolList (es : List (Nat × CpInfo)) (last : Nat) : List CpInfo := es.foldr (fun e r => gap e.1 (e.2 :: r)) (gap last [])
def pool (es : List (Nat × CpInfo)) (last : Nat) : Array CpInfo := ⟨poolList es last⟩
def fileOf (pool : Array CpInfo) (this : Nat) (attrs : Array Attribute := #[]) (ms : Array MethodInfo := #[]) (fl : Nat := 33) (sup : Nat := 0) (ifs : Array Nat := #[]) (fds : Array FieldInfo := #[]) : ClassFile where
  minorVersion := 0
  majorVersion := 65
  constantPool := pool
  accessFlags := fl
  thisClass := this
  superClass := sup
  interfaces := ifs
  fields := fds
  methods := ms
  attributes := attrs
def plain (name : String) (sup : Option ClassId) : Class where
  name := name
  kind := .ordinary
  loader := none
  accessFlags := 33
  super := sup
  interfaces := #[]
  cf := none
  fields := #[]
  methods := #[]
  instanceTypes := #[]
  staticTypes := #[]
  resolved := #[]
  callSites := []
  init := .initialized
  statics := none
  mirror := none

def pool0 : Array CpInfo := pool [(5, u "<init>"), (0, u "()V"), (1, .class_ 10), (1, u "java/lang/Object")] 113

def k0m0 : Method := { name := "<init>", desc := "()V", sig := { parameters := [], returnType := none }, accessFlags := 1, code := none }
/-- java/lang/Object -/
def k0 : Class := { plain "java/lang/Object" none with
  accessFlags := 33
  interfaces := #[]
  cf := some (fileOf pool0 8 #[] #[{ accessFlags := 1, nameIndex := 5, descriptorIndex := 6, attributes := #[] }] 33 0 #[] #[])
  fields := #[]
  methods := #[k0m0]
  instanceTypes := #[]
  staticTypes := #[]
  resolved := Array.replicate 124 none
  statics := none }

def pool1 : Array CpInfo := pool [(2, .class_ 4), (1, u "java/lang/Object"), (0, u "<init>"), (0, u "()V"), (0, .fieldref 8 9), (0, .class_ 10), (0, .nameAndType 11 12), (0, u "com/example/amortis/amortis/BalanceConvention"), (0, u "SCHEDULE"), (0, u "Lcom/example/amortis/amortis/BalanceConvention;"), (0, .fieldref 8 14), (0, .nameAndType 15 12), (0, u "PRESENT_VALUE"), (0, .fieldref 17 18), (0, .class_ 19), (0, .nameAndType 20 21), (0, u "com/example/amortis/amortis/Method"), (0, u "EQUAL_INSTALLMENT"), (0, u "Lcom/example/amortis/amortis/Method;"), (0, .fieldref 17 23), (0, .nameAndType 24 21), (0, u "EQUAL_PRINCIPAL"), (0, .methodref 8 26), (0, .nameAndType 27 28), (0, u "appliesTo"), (0, u "(Lcom/example/amortis/amortis/Method;)Z"), (0, .class_ 30), (0, u "com/example/amortis/amortis/BalanceConventionAppliesToPinLaw"), (2, u "law"), (0, u "(II)Z")] 3

def k1m0 : Method := { name := "<init>", desc := "()V", sig := { parameters := [], returnType := none }, accessFlags := 2, code := none }
def k1c1 : Code := { maxStack := 2, maxLocals := 7, code := code, exceptionTable := #[], attributes := #[] }
def k1m1 : Method := { name := "law", desc := "(II)Z", sig := { parameters := [.int, .int], returnType := some .boolean }, accessFlags := 9, code := some k1c1 }
/-- com/example/amortis/amortis/BalanceConventionAppliesToPinLaw -/
def k1 : Class := { plain "com/example/amortis/amortis/BalanceConventionAppliesToPinLaw" (some 0) with
  accessFlags := 49
  interfaces := #[]
  cf := some (fileOf pool1 29 #[] #[{ accessFlags := 2, nameIndex := 5, descriptorIndex := 6, attributes := #[] }, { accessFlags := 9, nameIndex := 33, descriptorIndex := 34, attributes := #[] }] 49 2 #[] #[])
  fields := #[]
  methods := #[k1m0, k1m1]
  instanceTypes := #[]
  staticTypes := #[]
  resolved := Array.replicate 38 none
  statics := none }

def pool2 : Array CpInfo := pool [(1, .class_ 2), (0, u "java/lang/constant/Constable"), (0, .class_ 4), (0, u "java/lang/Object")] 6

/-- java/lang/constant/Constable -/
def k2 : Class := { plain "java/lang/constant/Constable" (some 0) with
  accessFlags := 1537
  interfaces := #[]
  cf := some (fileOf pool2 1 #[] #[] 1537 3 #[] #[])
  fields := #[]
  methods := #[]
  instanceTypes := #[]
  staticTypes := #[]
  resolved := Array.replicate 11 none
  statics := none }

def pool3 : Array CpInfo := pool [(1, .class_ 2), (0, u "java/lang/Comparable"), (0, .class_ 4), (0, u "java/lang/Object")] 7

/-- java/lang/Comparable -/
def k3 : Class := { plain "java/lang/Comparable" (some 0) with
  accessFlags := 1537
  interfaces := #[]
  cf := some (fileOf pool3 1 #[] #[] 1537 3 #[] #[])
  fields := #[]
  methods := #[]
  instanceTypes := #[]
  staticTypes := #[]
  resolved := Array.replicate 12 none
  statics := none }

def pool4 : Array CpInfo := pool [(1, .class_ 2), (0, u "java/io/Serializable"), (0, .class_ 4), (0, u "java/lang/Object")] 2

/-- java/io/Serializable -/
def k4 : Class := { plain "java/io/Serializable" (some 0) with
  accessFlags := 1537
  interfaces := #[]
  cf := some (fileOf pool4 1 #[] #[] 1537 3 #[] #[])
  fields := #[]
  methods := #[]
  instanceTypes := #[]
  staticTypes := #[]
  resolved := Array.replicate 7 none
  statics := none }

def pool5 : Array CpInfo := pool [(2, .class_ 4), (1, u "java/lang/Enum"), (0, u "name"), (0, u "Ljava/lang/String;"), (2, u "ordinal"), (0, u "I"), (1, .class_ 14), (1, u "java/lang/Object"), (4, u "hash"), (86, .class_ 108), (1, u "java/lang/Enum$EnumDesc"), (2, .class_ 112), (0, u "java/lang/constant/Constable"), (0, .class_ 114), (0, u "java/lang/Comparable"), (0, .class_ 116), (0, u "java/io/Serializable")] 87

/-- java/lang/Enum -/
def k5 : Class := { plain "java/lang/Enum" (some 0) with
  accessFlags := 1057
  interfaces := #[2, 3, 4]
  cf := some (fileOf pool5 2 #[.nestMembers #[106]] #[] 1057 12 #[111, 113, 115] #[{ accessFlags := 18, nameIndex := 5, descriptorIndex := 6, attributes := #[] }, { accessFlags := 18, nameIndex := 9, descriptorIndex := 10, attributes := #[] }, { accessFlags := 2, nameIndex := 19, descriptorIndex := 10, attributes := #[] }])
  fields := #[{ name := "name", type := (.object "java/lang/String"), accessFlags := 18, slot := 0, constantValue := 0 }, { name := "ordinal", type := .int, accessFlags := 18, slot := 1, constantValue := 0 }, { name := "hash", type := .int, accessFlags := 2, slot := 2, constantValue := 0 }]
  methods := #[]
  instanceTypes := #[(.object "java/lang/String"), .int, .int]
  staticTypes := #[]
  resolved := Array.replicate 204 none
  statics := none }

def pool6 : Array CpInfo := pool [(1, .class_ 2), (0, u "com/example/amortis/amortis/BalanceConvention"), (0, .fieldref 1 4), (0, .nameAndType 5 6), (0, u "SCHEDULE"), (0, u "Lcom/example/amortis/amortis/BalanceConvention;"), (2, u "PRESENT_VALUE"), (2, u "$VALUES"), (0, u "[Lcom/example/amortis/amortis/BalanceConvention;"), (6, .class_ 22), (1, u "java/lang/Enum"), (6, .fieldref 30 31), (0, .class_ 32), (0, .nameAndType 33 34), (0, u "com/example/amortis/amortis/Method"), (0, u "EQUAL_INSTALLMENT"), (0, u "Lcom/example/amortis/amortis/Method;"), (15, u "DEFAULT"), (7, u "appliesTo"), (0, u "(Lcom/example/amortis/amortis/Method;)Z")] 10

def k6c0 : Code := { maxStack := 2, maxLocals := 2, code := prog_7_method_4_code, exceptionTable := #[], attributes := #[] }
def k6m0 : Method := { name := "appliesTo", desc := "(Lcom/example/amortis/amortis/Method;)Z", sig := { parameters := [(.object "com/example/amortis/amortis/Method")], returnType := some .boolean }, accessFlags := 1, code := some k6c0 }
/-- com/example/amortis/amortis/BalanceConvention -/
def k6 : Class := { plain "com/example/amortis/amortis/BalanceConvention" (some 5) with
  accessFlags := 16433
  interfaces := #[]
  cf := some (fileOf pool6 1 #[] #[{ accessFlags := 1, nameIndex := 58, descriptorIndex := 59, attributes := #[] }] 16433 20 #[] #[{ accessFlags := 16409, nameIndex := 5, descriptorIndex := 6, attributes := #[] }, { accessFlags := 16409, nameIndex := 9, descriptorIndex := 6, attributes := #[] }, { accessFlags := 25, nameIndex := 50, descriptorIndex := 6, attributes := #[] }, { accessFlags := 4122, nameIndex := 12, descriptorIndex := 13, attributes := #[] }])
  fields := #[{ name := "SCHEDULE", type := (.object "com/example/amortis/amortis/BalanceConvention"), accessFlags := 16409, slot := 0, constantValue := 0 }, { name := "PRESENT_VALUE", type := (.object "com/example/amortis/amortis/BalanceConvention"), accessFlags := 16409, slot := 1, constantValue := 0 }, { name := "DEFAULT", type := (.object "com/example/amortis/amortis/BalanceConvention"), accessFlags := 25, slot := 2, constantValue := 0 }, { name := "$VALUES", type := (.array (.object "com/example/amortis/amortis/BalanceConvention")), accessFlags := 4122, slot := 3, constantValue := 0 }]
  methods := #[k6m0]
  instanceTypes := #[(.object "java/lang/String"), .int, .int]
  staticTypes := #[(.object "com/example/amortis/amortis/BalanceConvention"), (.object "com/example/amortis/amortis/BalanceConvention"), (.object "com/example/amortis/amortis/BalanceConvention"), (.array (.object "com/example/amortis/amortis/BalanceConvention"))]
  resolved := Array.replicate 70 none
  statics := some 0 }

def pool7 : Array CpInfo := pool [(1, .class_ 2), (0, u "com/example/amortis/amortis/Method"), (2, u "EQUAL_INSTALLMENT"), (0, u "Lcom/example/amortis/amortis/Method;"), (2, u "EQUAL_PRINCIPAL"), (2, u "$VALUES"), (0, u "[Lcom/example/amortis/amortis/Method;"), (6, .class_ 22), (1, u "java/lang/Enum"), (15, u "DEFAULT")] 11

/-- com/example/amortis/amortis/Method -/
def k7 : Class := { plain "com/example/amortis/amortis/Method" (some 5) with
  accessFlags := 16433
  interfaces := #[]
  cf := some (fileOf pool7 1 #[] #[] 16433 20 #[] #[{ accessFlags := 16409, nameIndex := 5, descriptorIndex := 6, attributes := #[] }, { accessFlags := 16409, nameIndex := 9, descriptorIndex := 6, attributes := #[] }, { accessFlags := 25, nameIndex := 38, descriptorIndex := 6, attributes := #[] }, { accessFlags := 4122, nameIndex := 12, descriptorIndex := 13, attributes := #[] }])
  fields := #[{ name := "EQUAL_INSTALLMENT", type := (.object "com/example/amortis/amortis/Method"), accessFlags := 16409, slot := 0, constantValue := 0 }, { name := "EQUAL_PRINCIPAL", type := (.object "com/example/amortis/amortis/Method"), accessFlags := 16409, slot := 1, constantValue := 0 }, { name := "DEFAULT", type := (.object "com/example/amortis/amortis/Method"), accessFlags := 25, slot := 2, constantValue := 0 }, { name := "$VALUES", type := (.array (.object "com/example/amortis/amortis/Method")), accessFlags := 4122, slot := 3, constantValue := 0 }]
  methods := #[]
  instanceTypes := #[(.object "java/lang/String"), .int, .int]
  staticTypes := #[(.object "com/example/amortis/amortis/Method"), (.object "com/example/amortis/amortis/Method"), (.object "com/example/amortis/amortis/Method"), (.array (.object "com/example/amortis/amortis/Method"))]
  resolved := Array.replicate 50 none
  statics := some 1 }

def pool8 : Array CpInfo := pool [(1, u "java/lang/Cloneable"), (0, .class_ 1), (0, u "java/lang/Object"), (0, .class_ 3)] 3

/-- java/lang/Cloneable -/
def k8 : Class := { plain "java/lang/Cloneable" (some 0) with
  accessFlags := 1537
  interfaces := #[]
  cf := some (fileOf pool8 2 #[] #[] 1537 4 #[] #[])
  fields := #[]
  methods := #[]
  instanceTypes := #[]
  staticTypes := #[]
  resolved := Array.replicate 8 none
  statics := none }

/-- the primitive byte -/
def k9 : Class := { plain "byte" none with kind := .primitive 'B', accessFlags := 0x411 }
/-- [B -/
def k10 : Class := { plain "[B" (some 0) with kind := .array 9 .byte, interfaces := #[8, 4], accessFlags := 1041 }

/-- the primitive int -/
def k11 : Class := { plain "int" none with kind := .primitive 'I', accessFlags := 0x411 }
/-- [I -/
def k12 : Class := { plain "[I" (some 0) with kind := .array 11 .int, interfaces := #[8, 4], accessFlags := 1041 }

def heap : Heap := #[{ cls := 6, slots := #[.ref 2, .ref 3, .null, .null], vm := .statics 6 },
  { cls := 7, slots := #[.ref 4, .ref 5, .null, .null], vm := .statics 7 },
  { cls := 6, slots := #[.null, .int 0, .int 0], vm := .none },
  { cls := 6, slots := #[.null, .int 1, .int 0], vm := .none },
  { cls := 7, slots := #[.null, .int 0, .int 0], vm := .none },
  { cls := 7, slots := #[.null, .int 1, .int 0], vm := .none }]
def classes : Array Class := #[k0, k1, k2, k3, k4, k5, k6, k7, k8, k9, k10, k11, k12]
def interned : List (Array UInt16 × Addr) := []
def slotsUsed : Nat := 20
def theMethod : MethodId := ⟨1, 1⟩
def args0 : Array Value := #[.int 3, .int 5]
def aboutOver (below : List Frame) : State where
  vm := { classes := classes, interned := interned.toArray }
  heap := heap
  slotsUsed := slotsUsed
  threads := #[{ frames := .invoking theMethod args0 :: below }]
def below0 : List Frame := [.native { method := ⟨0, 0⟩, args := #[] }]
def about1 : State := aboutOver below0
def p0 : Program := .bare "" "" ""
def e0 : Env := launch0.env 0 0 0
theorem w_frames : about1.frames = Frame.invoking theMethod args0 :: below0 := rfl
set_option maxRecDepth 65536 in
theorem w_args : argsFit about1.vm theMethod args0 = true := by decide +kernel
set_option maxRecDepth 65536 in
theorem w_heap : heapFits about1 = true := by decide +kernel
set_option maxRecDepth 65536 in
theorem w_runnable : about1.curStatus? = some .runnable := by decide +kernel
set_option maxRecDepth 65536 in
theorem w_alone : about1.alone = true := by decide +kernel
set_option maxRecDepth 65536 in
theorem w_named : about1.methodNamed? x = some theMethod := by decide +kernel
set_option maxRecDepth 65536 in
theorem w_hears : about1.hears theMethod below0 = true := by decide +kernel
set_option maxRecDepth 65536 in
theorem w_ripe : about1.ripe theMethod args0 below0 = true := by decide +kernel
theorem w_running : about1.status = .running := rfl
set_option maxRecDepth 65536 in
theorem w_room : about1.hasRoom e0.platform room_1 = true :=
  launch0.hasRoom_least _ room_1 (by decide +kernel) (by decide +kernel) (by decide +kernel) (by decide +kernel) (by decide +kernel) (by decide +kernel)
theorem allAtoms_all (ts : List Jvm.Cond) (a : Array Jvm.Value) (st : Jvm.State) : (allAtoms ts).before a st = ts.all (fun c => c.before a st) := by
  induction ts with
  | nil => rfl
  | cons c t ih =>
    show (Jvm.Cond.and c (allAtoms t)).before a st = _
    rw [Jvm.Cond.before_and, ih, List.all_cons]
def words1 : List Jvm.Cond := Jvm.Cond.code x code maxLocals ret :: tables_1
/-- a 'code' word, met by the world's own term for the bytes: nothing is compared byte by byte -/
theorem code_word {y : MethodName} {bytes : ByteArray} {mx : Nat} {rt : Option FieldType} {a : Array Value} {s : State} {m : MethodId} {meth : Method} {c : Code} (h1 : s.methodNamed? y = some m) (h2 : s.vm.method? m = some meth) (h3 : meth.code = some c) (h4 : c.code = bytes)
    (h5 : (c.maxLocals == mx && c.exceptionTable.isEmpty && decide (c.maxStack ≤ mostOperands) && decide (meth.sig.returnType = rt) && !meth.locks && decide (parseMethodDescriptor y.desc = some meth.sig)) = true) : (Jvm.Cond.code y bytes mx rt).before a s = true := by
  simp only [Bool.and_eq_true, beq_iff_eq, Bool.not_eq_true', decide_eq_true_eq] at h5
  obtain ⟨⟨⟨⟨⟨g1, g2⟩, g3⟩, g4⟩, g5⟩, g6⟩ := h5
  simp [Cond.before, Cond.holds, Cond.value, h1, h2, h3, h4, g1, g2, g3, g4, g5, g6]
def isCode : Jvm.Cond → Bool
  | .code _ _ _ _ => true
  | _ => false
theorem all_split {L : List Jvm.Cond} {P : Jvm.Cond → Bool} (h1 : L.all (fun c => isCode c || P c) = true) (h2 : ∀ c ∈ L.filter isCode, P c = true) : L.all P = true := by
  refine List.all_eq_true.mpr fun c hc => ?_
  have h := List.all_eq_true.mp h1 c hc
  rcases Bool.eq_false_or_eq_true (isCode c) with hi | hi
  · exact h2 c (List.mem_filter.mpr ⟨hc, hi⟩)
  · simpa [hi] using h
set_option maxRecDepth 65536 in
theorem w_c0 : (Jvm.Cond.code x code maxLocals ret).before args0 about1 = true := code_word (m := ⟨1, 1⟩) (meth := k1m1) (c := k1c1) (by decide +kernel) rfl rfl rfl (by decide +kernel)
set_option maxRecDepth 65536 in
theorem w_c1 : (Jvm.Cond.code ({ cls := "com/example/amortis/amortis/BalanceConvention", name := "appliesTo", desc := "(Lcom/example/amortis/amortis/Method;)Z" } : Jvm.MethodName) prog_7_method_4_code (2 : Nat) (Option.some Jvm.ClassFile.FieldType.boolean)).before args0 about1 = true := code_word (m := ⟨6, 0⟩) (meth := k6m0) (c := k6c0) (by decide +kernel) rfl rfl rfl (by decide +kernel)
def codes1 : List Jvm.Cond := [Jvm.Cond.code x code maxLocals ret, Jvm.Cond.code ({ cls := "com/example/amortis/amortis/BalanceConvention", name := "appliesTo", desc := "(Lcom/example/amortis/amortis/Method;)Z" } : Jvm.MethodName) prog_7_method_4_code (2 : Nat) (Option.some Jvm.ClassFile.FieldType.boolean)]
set_option maxRecDepth 65536 in
theorem codes_eq : words1.filter isCode = codes1 := rfl
theorem w_codes : ∀ c ∈ words1.filter isCode, c.before args0 about1 = true := by
  rw [codes_eq]
  intro c hc
  simp only [codes1, List.mem_cons, List.not_mem_nil, or_false] at hc
  rcases hc with rfl | rfl
  · exact w_c0
  · exact w_c1
set_option maxRecDepth 65536 in
theorem w_t1 : words1.all (fun c => isCode c || c.before args0 about1) = true := by decide +kernel
theorem w_tables : (allAtoms (Jvm.Cond.code x code maxLocals ret :: tables_1)).before args0 about1 = true := by
  rw [allAtoms_all]
  show words1.all (fun c => c.before args0 about1) = true
  refine all_split ?_ w_codes
  rw [w_t1]
set_option maxRecDepth 65536 in
theorem w_case : (Jvm.Cond.and given_1 narrow_1).before args0 about1 = true := by decide +kernel
theorem w_applies : (headSpec (Jvm.Cond.code x code maxLocals ret :: tables_1) room_1).applies x e0.platform about1 = true :=
  (Spec.applies_iff w_frames).mpr ⟨w_running, w_runnable, w_alone, w_named, w_hears, w_ripe, w_room, w_tables⟩
theorem atStart : AtStart classFile x code maxLocals ret World_1 tables_1 room_1 Calls_1 rest_1 Pre_1 launch0 p0 e0 about1 theMethod args0 below0 :=
  ⟨lists_1, trivial, launch0.admits_env _ _ _, launch0.least_env, fairChoices_fair.cas, fairChoices_fair.clock, w_frames, w_args, w_heap, w_applies, trivial, trivial, w_case⟩
end start1
theorem witness_1 : WitnessClaimed_1 := ⟨start1.p0, start1.e0, start1.about1, start1.theMethod, start1.args0, start1.below0, start1.atStart⟩
end Jvm.Pilot.@@N@@
