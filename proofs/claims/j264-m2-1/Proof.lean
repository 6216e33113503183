import JvmDerived
import JvmDerived.Pilot.@@N@@Statement
import JvmDerived.Pilot.@@N@@Code
set_option linter.unusedVariables false
set_option linter.unusedSimpArgs false
namespace Jvm.Pilot.@@N@@
open Jvm Jvm.ClassFile Sem Op Lib Jvm.Free Jvm.Stand Jvm.LawKit Jvm.RoadKit Bundle Jvm.Pilot.@@N@@.Jvm.D
theorem own_eqI {args : Array Value} {s : State} {t : Jvm.Term} {k : Int32} (h : (Jvm.Cond.eq t (.int k)).value args s none s [] = some true) : t.eval args s none [] s = some (.int k) := by
  cases ht : t.eval args s none [] s with
  | none => simp [Jvm.Cond.value, ht] at h
  | some x => cases x <;> simp [Jvm.Cond.value, ht, Jvm.Term.eval] at h ⊢; exact h
theorem own_eqR {args : Array Value} {s : State} {t u : Jvm.Term} {w : Addr} (hu : u.eval args s none [] s = some (.ref w)) (h : (Jvm.Cond.eq t u).value args s none s [] = some true) : t.eval args s none [] s = some (.ref w) := by
  cases ht : t.eval args s none [] s with
  | none => simp [Jvm.Cond.value, ht] at h
  | some x => cases x <;> simp [Jvm.Cond.value, ht, hu] at h ⊢; exact h
theorem own_fldI {args : Array Value} {s : State} {t : Jvm.Term} {w : Addr} {C n d : String} {k : Int32} (ht : t.eval args s none [] s = some (.ref w)) (h : (Jvm.Cond.eq (Jvm.Term.field t C n d) (.int k)).value args s none s [] = some true) : Fld s s.heap w C n d (.int k) := Fld.start ((fld_at ht).symm.trans (own_eqI h))
theorem own_fldN {args : Array Value} {s : State} {t : Jvm.Term} {w : Addr} {C n d : String} (ht : t.eval args s none [] s = some (.ref w)) (h : (Jvm.Cond.eq (Jvm.Term.field t C n d) .null).value args s none s [] = some true) : Fld s s.heap w C n d .null := Fld.start ((fld_at ht).symm.trans (null_v h))
theorem own_fldR {args : Array Value} {s : State} {t : Jvm.Term} {w y : Addr} {C n d : String} (ht : t.eval args s none [] s = some (.ref w)) (h : (Jvm.Term.field t C n d).eval args s none [] s = some (.ref y)) : Fld s s.heap w C n d (.ref y) := Fld.start ((fld_at ht).symm.trans h)
theorem own_len {args : Array Value} {s : State} {t : Jvm.Term} {y : Addr} {cl : Cell} {ty : FieldType} {z : Int32} (ht : t.eval args s none [] s = some (.ref y)) (A : Arr s s.heap y cl ty) (h : (Jvm.Cond.eq (Jvm.Term.length t) (.int z)).value args s none s [] = some true) : cl.slots.size.toInt32 = z := by
  obtain ⟨b, cell, q⟩ := Jvm.Lib.length_spec (own_eqI h)
  have hb : y = b := Value.ref.inj (Option.some.inj (ht.symm.trans q.1))
  have hc : cell = cl := Option.some.inj (q.2.1.symm.trans (by rw [← hb]; exact IntBox.arrayAt_of A.1 A.2.1 A.2.2))
  rw [← hc]
  exact (Value.int.inj q.2.2.2).symm
theorem own_len31 {args : Array Value} {s : State} {t : Jvm.Term} {y : Addr} {cl : Cell} {ty : FieldType} {z : Int32} (ht : t.eval args s none [] s = some (.ref y)) (A : Arr s s.heap y cl ty) (h : (Jvm.Cond.eq (Jvm.Term.length t) (.int z)).value args s none s [] = some true) : cl.slots.size < 2 ^ 31 := by
  obtain ⟨b, cell, q⟩ := Jvm.Lib.length_spec (own_eqI h)
  have hb : y = b := Value.ref.inj (Option.some.inj (ht.symm.trans q.1))
  have hc : cell = cl := Option.some.inj (q.2.1.symm.trans (by rw [← hb]; exact IntBox.arrayAt_of A.1 A.2.1 A.2.2))
  rw [← hc]
  exact q.2.2.1
theorem own_c5 {y : Int32} (h0 : 0 ≤ y.toInt) (h1 : y.toInt < 5) : y = 0 ∨ y = 1 ∨ y = 2 ∨ y = 3 ∨ y = 4 := by
  have h : y.toInt = 0 ∨ y.toInt = 1 ∨ y.toInt = 2 ∨ y.toInt = 3 ∨ y.toInt = 4 := by omega
  rcases h with h | h | h | h | h <;> simp [← Int32.toInt_inj, h]
theorem own_m5 (x : Int32) : (x &&& (2147483647 : Int32)) % (5 : Int32) = (0 : Int32) ∨ (x &&& (2147483647 : Int32)) % (5 : Int32) = (1 : Int32) ∨ (x &&& (2147483647 : Int32)) % (5 : Int32) = (2 : Int32) ∨ (x &&& (2147483647 : Int32)) % (5 : Int32) = (3 : Int32) ∨ (x &&& (2147483647 : Int32)) % (5 : Int32) = (4 : Int32) := by
  have h := c_mask x 2147483647 31 (by decide) (by decide)
  have h2 := (c_irem (x &&& 2147483647) 5 5 (by decide)).1 (by omega)
  exact own_c5 (by omega) (by omega)
theorem own_d_prog_26_4_0 : decode prog_26_method_4_code 0 = .ok (.aload_n 0, 1) := by decide +kernel
theorem own_d_prog_26_4_1 : decode prog_26_method_4_code 1 = .ok (.getfield 38, 3) := by decide +kernel
theorem own_d_prog_26_4_4 : decode prog_26_method_4_code 4 = .ok (.ifnull 7, 3) := by decide +kernel
theorem own_d_prog_26_4_11 : decode prog_26_method_4_code 11 = .ok (.iconst 0, 1) := by decide +kernel
theorem own_d_prog_26_4_12 : decode prog_26_method_4_code 12 = .ok (.ireturn, 1) := by decide +kernel
theorem own_pn0 : plainName "com/example/amortis/amortis/Rounding" = true := by first | (simp [plainName, overriddenIn]; done) | decide +kernel
theorem ef_rmN (m : MethodId) (a1 : Addr) : entryFrame m #[(.ref a1)] 1 = mkF m 0 #[.val (.ref a1)] [] := by first | (simp [entryFrame, mkF, argsToLocals, Value.category]; done) | rfl
def Q_rmN (Z : State) (a1 : Addr) (h0 : Heap) (n0 : Nat) (v : Option Value) (h : Heap) (L : List Loc) : Prop := v = some (.int 0) ∧ Fr n0 L ∧ h = h0
set_option maxRecDepth 65536 in
set_option maxHeartbeats 40000000 in
theorem rmN (l : Launch) (Z : State) (a0 : Array Value) (hw : ∀ d ∈ tables_1, d.before a0 Z = true) (ws : List Jvm.Cond) (a1 : Addr) (h0 : Heap) (n0 : Nat) (Z0 : n0 ≤ h0.size) (F1 : Fld Z h0 a1 "com/example/amortis/amortis/Rounding" "fixedMode" "Ljava/math/RoundingMode;" .null) :
    MetFree l (⟨"com/example/amortis/amortis/Rounding", "roundsToTheCent", "()Z"⟩ : MethodName) (head1 (Jvm.Cond.code (⟨"com/example/amortis/amortis/Rounding", "roundsToTheCent", "()Z"⟩ : MethodName) prog_26_method_4_code 1 (some .boolean) :: ws) ({ frames := 0, cells := 0, slots := 0, locals := 0 } : Room)) (fun a U => a = #[(.ref a1)] ∧ Z.Warmed39 U.vm ∧ U.heap = h0) (fun _ _ _ _ _ => True) (fun _ U o U' => ∃ v L, o = .returned v ∧ Q_rmN Z a1 h0 n0 (v) U'.heap (L) ∧ FrameEnd U o U' L 0 0) := by
  refine MetFree.of_bodySF (plainFor_of_name own_pn0) hisR ?_
  intro p e s m args below meth c s₁ Bd hml0 hP hK
  obtain ⟨rfl, hZ, hh⟩ := hP
  have hx := Bd.exec
  have hby := Bd.bytes
  have hml : c.maxLocals = 1 := hml0
  have hown : s.vm.findClass "com/example/amortis/amortis/Rounding" = some m.cls := findClass_of_methodNamed Bd.named
  have hnm := (name_of_methodNamed Bd.named Bd.method).1
  have X0 : Stand p l e ({ frames := 0, cells := 0, slots := 0, locals := 0 } : Room) s m #[(.ref a1)] below meth c s₁ [] 0 0 := Stand.of_body Bd
  have e0 : s₁.heap = h0 := by rw [← hh, Bd.state]; rfl
  have N0 := Fr.nil n0
  have pre0 : ∀ tgt, Steps p.tables e below (s₁.setTop (mkF m 0 #[.val (.ref a1)] [])) tgt → Steps p.tables e below (s₁.setTop (entryFrame m #[(.ref a1)] 1)) tgt := fun tgt k => castTop (ef_rmN m a1) k
  obtain ⟨T1, X1, eh1, st1⟩ := getF X0 hx hZ hown (host := "") (Or.inl (hw _ (List.mem_of_getElem? (i := 9) rfl))) Via.refl e0 F1 (g := (mkF m 1 #[.val (.ref a1)] [(.ref a1)])) rfl rfl (hb hby own_d_prog_26_4_1)
  obtain ⟨fs, hr, hrun, hended, hW, hsame⟩ := X1.leave (v := some (.int (0 : Int32))) (fun h => by rw [Bd.returns] at h; cases h)
  refine ⟨_, _, pre0 _ ?_, hrun, hended, _, _, rfl, ?_, ⟨_, rfl⟩, hW, hsame.mono (by decide) (by decide)⟩
  ·
    show Steps p.tables e below (s₁.setTop (mkF m 0 #[.val (.ref a1)] [])) _
    refine XS.aloadN X0.here hx rfl (hb hby own_d_prog_26_4_0) rfl rfl ?_
    show Steps p.tables e below (s₁.setTop (mkF m 1 #[.val (.ref a1)] [(.ref a1)])) _
    refine st1 _ ?_
    show Steps p.tables e below (T1.setTop (mkF m 4 #[.val (.ref a1)] [.null])) _
    refine XS.ifnullYes X1.here hx rfl (pc0 := 4) (pc' := 11) rfl (hb hby own_d_prog_26_4_4) rfl (by decide) (by decide) ?_
    show Steps p.tables e below (T1.setTop (mkF m 11 #[.val (.ref a1)] [])) _
    refine XS.iconst X1.here hx rfl (hb hby own_d_prog_26_4_11) ?_
    show Steps p.tables e below (T1.setTop (mkF m 12 #[.val (.ref a1)] [(.int (0 : Int32))])) _
    exact retN X1 hx (t := .boolean) Bd.returns (by simp) (hb hby own_d_prog_26_4_12) hr
  ·
    show Q_rmN Z a1 h0 n0 (_) T1.heap (_)
    rw [eh1]
    exact ⟨rfl, N0, rfl⟩
theorem own_d_prog_26_4_7 : decode prog_26_method_4_code 7 = .ok (.iconst 1, 1) := by decide +kernel
theorem own_d_prog_26_4_8 : decode prog_26_method_4_code 8 = .ok (.goto 4, 3) := by decide +kernel
theorem ef_rmR (m : MethodId) (a1 : Addr) : entryFrame m #[(.ref a1)] 1 = mkF m 0 #[.val (.ref a1)] [] := by first | (simp [entryFrame, mkF, argsToLocals, Value.category]; done) | rfl
def Q_rmR (Z : State) (a1 : Addr) (y1 : Addr) (h0 : Heap) (n0 : Nat) (v : Option Value) (h : Heap) (L : List Loc) : Prop := v = some (.int 1) ∧ Fr n0 L ∧ h = h0
set_option maxRecDepth 65536 in
set_option maxHeartbeats 40000000 in
theorem rmR (l : Launch) (Z : State) (a0 : Array Value) (hw : ∀ d ∈ tables_1, d.before a0 Z = true) (ws : List Jvm.Cond) (a1 : Addr) (y1 : Addr) (h0 : Heap) (n0 : Nat) (Z0 : n0 ≤ h0.size) (F1 : Fld Z h0 a1 "com/example/amortis/amortis/Rounding" "fixedMode" "Ljava/math/RoundingMode;" (.ref y1)) :
    MetFree l (⟨"com/example/amortis/amortis/Rounding", "roundsToTheCent", "()Z"⟩ : MethodName) (head1 (Jvm.Cond.code (⟨"com/example/amortis/amortis/Rounding", "roundsToTheCent", "()Z"⟩ : MethodName) prog_26_method_4_code 1 (some .boolean) :: ws) ({ frames := 0, cells := 0, slots := 0, locals := 0 } : Room)) (fun a U => a = #[(.ref a1)] ∧ Z.Warmed39 U.vm ∧ U.heap = h0) (fun _ _ _ _ _ => True) (fun _ U o U' => ∃ v L, o = .returned v ∧ Q_rmR Z a1 y1 h0 n0 (v) U'.heap (L) ∧ FrameEnd U o U' L 0 0) := by
  refine MetFree.of_bodySF (plainFor_of_name own_pn0) hisR ?_
  intro p e s m args below meth c s₁ Bd hml0 hP hK
  obtain ⟨rfl, hZ, hh⟩ := hP
  have hx := Bd.exec
  have hby := Bd.bytes
  have hml : c.maxLocals = 1 := hml0
  have hown : s.vm.findClass "com/example/amortis/amortis/Rounding" = some m.cls := findClass_of_methodNamed Bd.named
  have hnm := (name_of_methodNamed Bd.named Bd.method).1
  have X0 : Stand p l e ({ frames := 0, cells := 0, slots := 0, locals := 0 } : Room) s m #[(.ref a1)] below meth c s₁ [] 0 0 := Stand.of_body Bd
  have e0 : s₁.heap = h0 := by rw [← hh, Bd.state]; rfl
  have N0 := Fr.nil n0
  have pre0 : ∀ tgt, Steps p.tables e below (s₁.setTop (mkF m 0 #[.val (.ref a1)] [])) tgt → Steps p.tables e below (s₁.setTop (entryFrame m #[(.ref a1)] 1)) tgt := fun tgt k => castTop (ef_rmR m a1) k
  obtain ⟨T1, X1, eh1, st1⟩ := getF X0 hx hZ hown (host := "") (Or.inl (hw _ (List.mem_of_getElem? (i := 9) rfl))) Via.refl e0 F1 (g := (mkF m 1 #[.val (.ref a1)] [(.ref a1)])) rfl rfl (hb hby own_d_prog_26_4_1)
  obtain ⟨fs, hr, hrun, hended, hW, hsame⟩ := X1.leave (v := some (.int (1 : Int32))) (fun h => by rw [Bd.returns] at h; cases h)
  refine ⟨_, _, pre0 _ ?_, hrun, hended, _, _, rfl, ?_, ⟨_, rfl⟩, hW, hsame.mono (by decide) (by decide)⟩
  ·
    show Steps p.tables e below (s₁.setTop (mkF m 0 #[.val (.ref a1)] [])) _
    refine XS.aloadN X0.here hx rfl (hb hby own_d_prog_26_4_0) rfl rfl ?_
    show Steps p.tables e below (s₁.setTop (mkF m 1 #[.val (.ref a1)] [(.ref a1)])) _
    refine st1 _ ?_
    show Steps p.tables e below (T1.setTop (mkF m 4 #[.val (.ref a1)] [(.ref y1)])) _
    refine XS.ifnullNo X1.here hx rfl (hb hby own_d_prog_26_4_4) rfl ?_
    show Steps p.tables e below (T1.setTop (mkF m 7 #[.val (.ref a1)] [])) _
    refine XS.iconst X1.here hx rfl (hb hby own_d_prog_26_4_7) ?_
    show Steps p.tables e below (T1.setTop (mkF m 8 #[.val (.ref a1)] [(.int (1 : Int32))])) _
    refine XS.goto X1.here hx rfl (pc0 := 8) (pc' := 12) rfl (hb hby own_d_prog_26_4_8) (by decide) (by decide) ?_
    show Steps p.tables e below (T1.setTop (mkF m 12 #[.val (.ref a1)] [(.int (1 : Int32))])) _
    exact retN X1 hx (t := .boolean) Bd.returns (by simp) (hb hby own_d_prog_26_4_12) hr
  ·
    show Q_rmR Z a1 y1 h0 n0 (_) T1.heap (_)
    rw [eh1]
    exact ⟨rfl, N0, rfl⟩
theorem own_pd0 : parseMethodDescriptor "()Z" = some ⟨[], some .boolean⟩ := by decide +kernel
theorem own_pn1 : plainName "com/example/amortis/amortis/RoundingRoundsToTheCentPinLaw" = true := by first | (simp [plainName, overriddenIn]; done) | decide +kernel
theorem ef_rm0 (m : MethodId) (p1 : Int32) : entryFrame m #[(.int p1)] maxLocals = mkF m 0 #[.val (.int p1), .unset, .unset, .unset] [] := by first | (simp [entryFrame, mkF, argsToLocals, Value.category, maxLocals]; done) | rfl
def Q_rm0 (Z : State) (p1 : Int32) (w0 : Addr) (w1 : Addr) (w2 : Addr) (w3 : Addr) (w4 : Addr) (y0 : Addr) (y1 : Addr) (y2 : Addr) (y3 : Addr) (h0 : Heap) (n0 : Nat) (v : Option Value) (h : Heap) (L : List Loc) : Prop := v = some (.int 1) ∧ Fr n0 L
set_option maxRecDepth 65536 in
set_option maxHeartbeats 40000000 in
theorem rm0 (l : Launch) (Z : State) (a0 : Array Value) (hw : ∀ d ∈ tables_1, d.before a0 Z = true) (ws : List Jvm.Cond) (p1 : Int32) (w0 : Addr) (w1 : Addr) (w2 : Addr) (w3 : Addr) (w4 : Addr) (y0 : Addr) (y1 : Addr) (y2 : Addr) (y3 : Addr) (h0 : Heap) (n0 : Nat) (Z0 : n0 ≤ h0.size) (SHALF_UP : Sta Z h0 "com/example/amortis/amortis/Rounding" "HALF_UP" "Lcom/example/amortis/amortis/Rounding;" (.ref w0)) (SHALF_EVEN : Sta Z h0 "com/example/amortis/amortis/Rounding" "HALF_EVEN" "Lcom/example/amortis/amortis/Rounding;" (.ref w1)) (SUP : Sta Z h0 "com/example/amortis/amortis/Rounding" "UP" "Lcom/example/amortis/amortis/Rounding;" (.ref w2)) (SDOWN : Sta Z h0 "com/example/amortis/amortis/Rounding" "DOWN" "Lcom/example/amortis/amortis/Rounding;" (.ref w3)) (SNONE : Sta Z h0 "com/example/amortis/amortis/Rounding" "NONE" "Lcom/example/amortis/amortis/Rounding;" (.ref w4)) (SDEFAULT : Sta Z h0 "com/example/amortis/amortis/Rounding" "DEFAULT" "Lcom/example/amortis/amortis/Rounding;" (.ref w0)) (E0 : Exa Z h0 w0 "com/example/amortis/amortis/Rounding") (F0 : Fld Z h0 w0 "com/example/amortis/amortis/Rounding" "fixedMode" "Ljava/math/RoundingMode;" (.ref y0)) (E1 : Exa Z h0 w1 "com/example/amortis/amortis/Rounding") (F1 : Fld Z h0 w1 "com/example/amortis/amortis/Rounding" "fixedMode" "Ljava/math/RoundingMode;" (.ref y1)) (E2 : Exa Z h0 w2 "com/example/amortis/amortis/Rounding") (F2 : Fld Z h0 w2 "com/example/amortis/amortis/Rounding" "fixedMode" "Ljava/math/RoundingMode;" (.ref y2)) (E3 : Exa Z h0 w3 "com/example/amortis/amortis/Rounding") (F3 : Fld Z h0 w3 "com/example/amortis/amortis/Rounding" "fixedMode" "Ljava/math/RoundingMode;" (.ref y3)) (E4 : Exa Z h0 w4 "com/example/amortis/amortis/Rounding") (F4 : Fld Z h0 w4 "com/example/amortis/amortis/Rounding" "fixedMode" "Ljava/math/RoundingMode;" .null) :
    MetFree l x (head1 (Jvm.Cond.code x code maxLocals ret :: ws) room_1) (fun a U => a = #[(.int p1)] ∧ Z.Warmed39 U.vm ∧ U.heap = h0) (fun _ _ _ _ _ => True) (fun _ U o U' => ∃ v L, o = .returned v ∧ Q_rm0 Z p1 w0 w1 w2 w3 w4 y0 y1 y2 y3 h0 n0 (v) U'.heap (L) ∧ FrameEnd U o U' L 0 0) := by
  refine MetFree.of_bodySF (plainFor_of_name own_pn1) hisR ?_
  intro p e s m args below meth c s₁ Bd hml0 hP hK
  obtain ⟨rfl, hZ, hh⟩ := hP
  have hx := Bd.exec
  have hby := Bd.bytes
  have hml : c.maxLocals = 4 := hml0
  have hown : s.vm.findClass "com/example/amortis/amortis/RoundingRoundsToTheCentPinLaw" = some m.cls := findClass_of_methodNamed Bd.named
  have hnm := (name_of_methodNamed Bd.named Bd.method).1
  have X0 : Stand p l e room_1 s m #[(.int p1)] below meth c s₁ [] 0 0 := Stand.of_body Bd
  have e0 : s₁.heap = h0 := by rw [← hh, Bd.state]; rfl
  have N0 := Fr.nil n0
  have pre0 : ∀ tgt, Steps p.tables e below (s₁.setTop (mkF m 0 #[.val (.int p1), .unset, .unset, .unset] [])) tgt → Steps p.tables e below (s₁.setTop (entryFrame m #[(.int p1)] maxLocals)) tgt := fun tgt k => castTop (ef_rm0 m p1) k
  have pre1 : ∀ tgt, Steps p.tables e below (s₁.setTop (mkF m 7 #[.val (.int p1), .val (.int ((p1 &&& (2147483647 : Int32)) % (5 : Int32))), .unset, .unset] [])) tgt → Steps p.tables e below (s₁.setTop (entryFrame m #[(.int p1)] maxLocals)) tgt := fun tgt kt_ => by
    refine pre0 _ ?_
    show Steps p.tables e below (s₁.setTop (mkF m 0 #[.val (.int p1), .unset, .unset, .unset] [])) _
    refine XS.iloadN X0.here hx rfl (hb hby at_0) rfl ?_
    show Steps p.tables e below (s₁.setTop (mkF m 1 #[.val (.int p1), .unset, .unset, .unset] [(.int p1)])) _
    refine X0.ldcInt hx hown (mvT hZ (hw _ (List.mem_of_getElem? (i := 0) rfl))) (g := (mkF m 1 #[.val (.int p1), .unset, .unset, .unset] [(.int p1)])) rfl (hb hby at_1) _ ?_
    show Steps p.tables e below (s₁.setTop (mkF m 3 #[.val (.int p1), .unset, .unset, .unset] [(.int (2147483647 : Int32)), (.int p1)])) _
    refine XS.iand X0.here hx rfl (hb hby at_3) rfl ?_
    show Steps p.tables e below (s₁.setTop (mkF m 4 #[.val (.int p1), .unset, .unset, .unset] [(.int (p1 &&& (2147483647 : Int32)))])) _
    refine XS.iconst X0.here hx rfl (hb hby at_4) ?_
    show Steps p.tables e below (s₁.setTop (mkF m 5 #[.val (.int p1), .unset, .unset, .unset] [(.int (5 : Int32)), (.int (p1 &&& (2147483647 : Int32)))])) _
    refine iremM (g := (mkF m 5 #[.val (.int p1), .unset, .unset, .unset] [(.int (5 : Int32)), (.int (p1 &&& (2147483647 : Int32)))])) X0 hx rfl (hb hby at_5) rfl (by decide) ?_
    show Steps p.tables e below (s₁.setTop (mkF m 6 #[.val (.int p1), .unset, .unset, .unset] [(.int ((p1 &&& (2147483647 : Int32)) % (5 : Int32)))])) _
    refine XS.istoreN X0.here hx rfl (hb hby at_6) rfl (l' := #[.val (.int p1), .val (.int ((p1 &&& (2147483647 : Int32)) % (5 : Int32))), .unset, .unset]) rfl ?_
    show Steps p.tables e below (s₁.setTop (mkF m 7 #[.val (.int p1), .val (.int ((p1 &&& (2147483647 : Int32)) % (5 : Int32))), .unset, .unset] [])) _
    exact kt_
  rcases own_m5 p1 with hi0 | hi1 | hi2 | hi3 | hi4
  ·
    rw [hi0] at pre1
    obtain ⟨T2, X2, eh2, st2⟩ := getS2 X0 hx hZ hown (host := "") (Or.inl (hw _ (List.mem_of_getElem? (i := 1) rfl))) Via.refl e0 SHALF_UP (g := (mkF m 11 #[.val (.int p1), .val (.int (0 : Int32)), .unset, .unset] [])) rfl (hb hby at_11)
    obtain ⟨cq3, kq3, q3a, q3b, q3c⟩ := isOf hZ eh2 E0
    obtain ⟨_, _, ⟨T3, L3, k3, n3⟩, -, X3, ⟨Lc3, hQ3, l3, y3, z3⟩, st3⟩ := X2.virtualBack hx (y := (⟨"com/example/amortis/amortis/Rounding", "roundsToTheCent", "()Z"⟩ : MethodName)) (z := (⟨"com/example/amortis/amortis/Rounding", "roundsToTheCent", "()Z"⟩ : MethodName)) hown (mvT hZ (hw _ (List.mem_of_getElem? (i := 4) rfl))) (mvT hZ (hw _ (List.mem_of_getElem? (i := 5) rfl))) (notFace_of_selects (args := #[]) (mvT hZ (hw _ (List.mem_of_getElem? (i := 7) rfl)))) (mvT hZ (hw _ (List.mem_of_getElem? (i := 7) rfl))) (mvT hZ (hw _ (List.mem_of_getElem? (i := 6) rfl))) (by decide) (backOf (W := 0) (rmR l Z a0 hw [] w0 y0 h0 n0 Z0 F0) hZ (hw _ (List.mem_of_getElem? (i := 8) rfl)) (hw _ (List.mem_of_getElem? (i := 2) rfl)) (by decide) (by decide)) q3a q3c (g := (mkF m 69 #[.val (.int p1), .val (.int (0 : Int32)), .val (.ref w0), .val (.int (1 : Int32))] [(.ref w0)])) rfl (by rw [hml]; rfl) (Steps.refl _) (argsL := []) (rest := []) (lenOf own_pd0 rfl) rfl (by show 2 * 0 + _ ≤ _; exact Nat.le_of_eq rfl) (hb hby at_69) (fun _ _ => ⟨rfl, eh2, (by decide : 0 + 0 ≤ _), (by decide : 0 + 0 ≤ _)⟩)
    dsimp only [Pt.U, Pt.locs, Pt.cells, Pt.slots] at X3 l3 y3 z3 st3 hQ3
    subst l3 y3 z3
    obtain ⟨rfl, N3q, eq3⟩ := hQ3
    have N3 := Fr.app N0 N3q
    obtain ⟨T4, X4, eh4, st4⟩ := getS2 X3 hx hZ hown (host := "") (Or.inl (hw _ (List.mem_of_getElem? (i := 11) rfl))) Via.refl eq3 SDEFAULT (g := (mkF m 76 #[.val (.int p1), .val (.int (0 : Int32)), .val (.ref w0), .val (.int (1 : Int32))] [])) rfl (hb hby at_76)
    obtain ⟨cq5, kq5, q5a, q5b, q5c⟩ := isOf hZ eh4 E0
    obtain ⟨_, _, ⟨T5, L5, k5, n5⟩, -, X5, ⟨Lc5, hQ5, l5, y5, z5⟩, st5⟩ := X4.virtualBack hx (y := (⟨"com/example/amortis/amortis/Rounding", "roundsToTheCent", "()Z"⟩ : MethodName)) (z := (⟨"com/example/amortis/amortis/Rounding", "roundsToTheCent", "()Z"⟩ : MethodName)) hown (mvT hZ (hw _ (List.mem_of_getElem? (i := 4) rfl))) (mvT hZ (hw _ (List.mem_of_getElem? (i := 5) rfl))) (notFace_of_selects (args := #[]) (mvT hZ (hw _ (List.mem_of_getElem? (i := 7) rfl)))) (mvT hZ (hw _ (List.mem_of_getElem? (i := 7) rfl))) (mvT hZ (hw _ (List.mem_of_getElem? (i := 6) rfl))) (by decide) (backOf (W := 0) (rmR l Z a0 hw [] w0 y0 h0 n0 Z0 F0) hZ (hw _ (List.mem_of_getElem? (i := 8) rfl)) (hw _ (List.mem_of_getElem? (i := 2) rfl)) (by decide) (by decide)) q5a q5c (g := (mkF m 79 #[.val (.int p1), .val (.int (0 : Int32)), .val (.ref w0), .val (.int (1 : Int32))] [(.ref w0)])) rfl (by rw [hml]; rfl) (Steps.refl _) (argsL := []) (rest := []) (lenOf own_pd0 rfl) rfl (by show 2 * 0 + _ ≤ _; exact Nat.le_of_eq rfl) (hb hby at_79) (fun _ _ => ⟨rfl, eh4, (by decide : 0 + 0 ≤ _), (by decide : 0 + 0 ≤ _)⟩)
    dsimp only [Pt.U, Pt.locs, Pt.cells, Pt.slots] at X5 l5 y5 z5 st5 hQ5
    subst l5 y5 z5
    obtain ⟨rfl, N5q, eq5⟩ := hQ5
    have N5 := Fr.app N3 N5q
    obtain ⟨fs, hr, hrun, hended, hW, hsame⟩ := X5.leave (v := some (.int (1 : Int32))) (fun h => by rw [Bd.returns] at h; cases h)
    refine ⟨_, _, pre1 _ ?_, hrun, hended, _, _, rfl, ?_, ⟨_, rfl⟩, hW, hsame.mono (by decide) (by decide)⟩
    ·
      show Steps p.tables e below (s₁.setTop (mkF m 7 #[.val (.int p1), .val (.int (0 : Int32)), .unset, .unset] [])) _
      refine XS.iloadN X0.here hx rfl (hb hby at_7) rfl ?_
      show Steps p.tables e below (s₁.setTop (mkF m 8 #[.val (.int p1), .val (.int (0 : Int32)), .unset, .unset] [(.int (0 : Int32))])) _
      refine XS.ifNo X0.here hx rfl (hb hby at_8) rfl ((if0 _ _).trans (teq (by decide : (0 : Int32) = (0 : Int32))).2) ?_
      show Steps p.tables e below (s₁.setTop (mkF m 11 #[.val (.int p1), .val (.int (0 : Int32)), .unset, .unset] [])) _
      refine st2 _ ?_
      show Steps p.tables e below (T2.setTop (mkF m 14 #[.val (.int p1), .val (.int (0 : Int32)), .unset, .unset] [(.ref w0)])) _
      refine XS.astoreN X2.here hx rfl (hb hby at_14) rfl rfl (l' := #[.val (.int p1), .val (.int (0 : Int32)), .val (.ref w0), .unset]) rfl ?_
      show Steps p.tables e below (T2.setTop (mkF m 15 #[.val (.int p1), .val (.int (0 : Int32)), .val (.ref w0), .unset] [])) _
      refine XS.iconst X2.here hx rfl (hb hby at_15) ?_
      show Steps p.tables e below (T2.setTop (mkF m 16 #[.val (.int p1), .val (.int (0 : Int32)), .val (.ref w0), .unset] [(.int (1 : Int32))])) _
      refine XS.istoreN X2.here hx rfl (hb hby at_16) rfl (l' := #[.val (.int p1), .val (.int (0 : Int32)), .val (.ref w0), .val (.int (1 : Int32))]) rfl ?_
      show Steps p.tables e below (T2.setTop (mkF m 17 #[.val (.int p1), .val (.int (0 : Int32)), .val (.ref w0), .val (.int (1 : Int32))] [])) _
      refine XS.goto X2.here hx rfl (pc0 := 17) (pc' := 68) rfl (hb hby at_17) (by decide) (by decide) ?_
      show Steps p.tables e below (T2.setTop (mkF m 68 #[.val (.int p1), .val (.int (0 : Int32)), .val (.ref w0), .val (.int (1 : Int32))] [])) _
      refine XS.aloadN X2.here hx rfl (hb hby at_68) rfl rfl ?_
      show Steps p.tables e below (T2.setTop (mkF m 69 #[.val (.int p1), .val (.int (0 : Int32)), .val (.ref w0), .val (.int (1 : Int32))] [(.ref w0)])) _
      refine st3.trans ?_
      show Steps p.tables e below (T3.setTop (mkF m 72 #[.val (.int p1), .val (.int (0 : Int32)), .val (.ref w0), .val (.int (1 : Int32))] [(.int (1 : Int32))])) _
      refine XS.iloadN X3.here hx rfl (hb hby at_72) rfl ?_
      show Steps p.tables e below (T3.setTop (mkF m 73 #[.val (.int p1), .val (.int (0 : Int32)), .val (.ref w0), .val (.int (1 : Int32))] [(.int (1 : Int32)), (.int (1 : Int32))])) _
      refine XS.icmpNo X3.here hx rfl (hb hby at_73) rfl (teq (by decide : (1 : Int32) = (1 : Int32))).2 ?_
      show Steps p.tables e below (T3.setTop (mkF m 76 #[.val (.int p1), .val (.int (0 : Int32)), .val (.ref w0), .val (.int (1 : Int32))] [])) _
      refine st4 _ ?_
      show Steps p.tables e below (T4.setTop (mkF m 79 #[.val (.int p1), .val (.int (0 : Int32)), .val (.ref w0), .val (.int (1 : Int32))] [(.ref w0)])) _
      refine st5.trans ?_
      show Steps p.tables e below (T5.setTop (mkF m 82 #[.val (.int p1), .val (.int (0 : Int32)), .val (.ref w0), .val (.int (1 : Int32))] [(.int (1 : Int32))])) _
      refine XS.ifNo X5.here hx rfl (hb hby at_82) rfl ((if0 _ _).trans (feq (by decide : ¬ ((1 : Int32) = (0 : Int32)))).1) ?_
      show Steps p.tables e below (T5.setTop (mkF m 85 #[.val (.int p1), .val (.int (0 : Int32)), .val (.ref w0), .val (.int (1 : Int32))] [])) _
      refine XS.iconst X5.here hx rfl (hb hby at_85) ?_
      show Steps p.tables e below (T5.setTop (mkF m 86 #[.val (.int p1), .val (.int (0 : Int32)), .val (.ref w0), .val (.int (1 : Int32))] [(.int (1 : Int32))])) _
      refine XS.goto X5.here hx rfl (pc0 := 86) (pc' := 90) rfl (hb hby at_86) (by decide) (by decide) ?_
      show Steps p.tables e below (T5.setTop (mkF m 90 #[.val (.int p1), .val (.int (0 : Int32)), .val (.ref w0), .val (.int (1 : Int32))] [(.int (1 : Int32))])) _
      exact retN X5 hx (t := .boolean) Bd.returns (by simp) (hb hby at_90) hr
    ·
      show Q_rm0 Z p1 w0 w1 w2 w3 w4 y0 y1 y2 y3 h0 n0 (_) T5.heap (_)
      rw [eq5]
      exact ⟨rfl, N5⟩
  ·
    rw [hi1] at pre1
    obtain ⟨T6, X6, eh6, st6⟩ := getS2 X0 hx hZ hown (host := "") (Or.inl (hw _ (List.mem_of_getElem? (i := 15) rfl))) Via.refl e0 SHALF_EVEN (g := (mkF m 25 #[.val (.int p1), .val (.int (1 : Int32)), .unset, .unset] [])) rfl (hb hby at_25)
    obtain ⟨cq7, kq7, q7a, q7b, q7c⟩ := isOf hZ eh6 E1
    obtain ⟨_, _, ⟨T7, L7, k7, n7⟩, -, X7, ⟨Lc7, hQ7, l7, y7, z7⟩, st7⟩ := X6.virtualBack hx (y := (⟨"com/example/amortis/amortis/Rounding", "roundsToTheCent", "()Z"⟩ : MethodName)) (z := (⟨"com/example/amortis/amortis/Rounding", "roundsToTheCent", "()Z"⟩ : MethodName)) hown (mvT hZ (hw _ (List.mem_of_getElem? (i := 4) rfl))) (mvT hZ (hw _ (List.mem_of_getElem? (i := 5) rfl))) (notFace_of_selects (args := #[]) (mvT hZ (hw _ (List.mem_of_getElem? (i := 7) rfl)))) (mvT hZ (hw _ (List.mem_of_getElem? (i := 7) rfl))) (mvT hZ (hw _ (List.mem_of_getElem? (i := 6) rfl))) (by decide) (backOf (W := 0) (rmR l Z a0 hw [] w1 y1 h0 n0 Z0 F1) hZ (hw _ (List.mem_of_getElem? (i := 8) rfl)) (hw _ (List.mem_of_getElem? (i := 2) rfl)) (by decide) (by decide)) q7a q7c (g := (mkF m 69 #[.val (.int p1), .val (.int (1 : Int32)), .val (.ref w1), .val (.int (1 : Int32))] [(.ref w1)])) rfl (by rw [hml]; rfl) (Steps.refl _) (argsL := []) (rest := []) (lenOf own_pd0 rfl) rfl (by show 2 * 0 + _ ≤ _; exact Nat.le_of_eq rfl) (hb hby at_69) (fun _ _ => ⟨rfl, eh6, (by decide : 0 + 0 ≤ _), (by decide : 0 + 0 ≤ _)⟩)
    dsimp only [Pt.U, Pt.locs, Pt.cells, Pt.slots] at X7 l7 y7 z7 st7 hQ7
    subst l7 y7 z7
    obtain ⟨rfl, N7q, eq7⟩ := hQ7
    have N7 := Fr.app N0 N7q
    obtain ⟨T8, X8, eh8, st8⟩ := getS2 X7 hx hZ hown (host := "") (Or.inl (hw _ (List.mem_of_getElem? (i := 11) rfl))) Via.refl eq7 SDEFAULT (g := (mkF m 76 #[.val (.int p1), .val (.int (1 : Int32)), .val (.ref w1), .val (.int (1 : Int32))] [])) rfl (hb hby at_76)
    obtain ⟨cq9, kq9, q9a, q9b, q9c⟩ := isOf hZ eh8 E0
    obtain ⟨_, _, ⟨T9, L9, k9, n9⟩, -, X9, ⟨Lc9, hQ9, l9, y9, z9⟩, st9⟩ := X8.virtualBack hx (y := (⟨"com/example/amortis/amortis/Rounding", "roundsToTheCent", "()Z"⟩ : MethodName)) (z := (⟨"com/example/amortis/amortis/Rounding", "roundsToTheCent", "()Z"⟩ : MethodName)) hown (mvT hZ (hw _ (List.mem_of_getElem? (i := 4) rfl))) (mvT hZ (hw _ (List.mem_of_getElem? (i := 5) rfl))) (notFace_of_selects (args := #[]) (mvT hZ (hw _ (List.mem_of_getElem? (i := 7) rfl)))) (mvT hZ (hw _ (List.mem_of_getElem? (i := 7) rfl))) (mvT hZ (hw _ (List.mem_of_getElem? (i := 6) rfl))) (by decide) (backOf (W := 0) (rmR l Z a0 hw [] w0 y0 h0 n0 Z0 F0) hZ (hw _ (List.mem_of_getElem? (i := 8) rfl)) (hw _ (List.mem_of_getElem? (i := 2) rfl)) (by decide) (by decide)) q9a q9c (g := (mkF m 79 #[.val (.int p1), .val (.int (1 : Int32)), .val (.ref w1), .val (.int (1 : Int32))] [(.ref w0)])) rfl (by rw [hml]; rfl) (Steps.refl _) (argsL := []) (rest := []) (lenOf own_pd0 rfl) rfl (by show 2 * 0 + _ ≤ _; exact Nat.le_of_eq rfl) (hb hby at_79) (fun _ _ => ⟨rfl, eh8, (by decide : 0 + 0 ≤ _), (by decide : 0 + 0 ≤ _)⟩)
    dsimp only [Pt.U, Pt.locs, Pt.cells, Pt.slots] at X9 l9 y9 z9 st9 hQ9
    subst l9 y9 z9
    obtain ⟨rfl, N9q, eq9⟩ := hQ9
    have N9 := Fr.app N7 N9q
    obtain ⟨fs, hr, hrun, hended, hW, hsame⟩ := X9.leave (v := some (.int (1 : Int32))) (fun h => by rw [Bd.returns] at h; cases h)
    refine ⟨_, _, pre1 _ ?_, hrun, hended, _, _, rfl, ?_, ⟨_, rfl⟩, hW, hsame.mono (by decide) (by decide)⟩
    ·
      show Steps p.tables e below (s₁.setTop (mkF m 7 #[.val (.int p1), .val (.int (1 : Int32)), .unset, .unset] [])) _
      refine XS.iloadN X0.here hx rfl (hb hby at_7) rfl ?_
      show Steps p.tables e below (s₁.setTop (mkF m 8 #[.val (.int p1), .val (.int (1 : Int32)), .unset, .unset] [(.int (1 : Int32))])) _
      refine XS.ifYes X0.here hx rfl (pc0 := 8) (pc' := 20) rfl (hb hby at_8) rfl ((if0 _ _).trans (feq (by decide : ¬ ((1 : Int32) = (0 : Int32)))).2) (by decide) (by decide) ?_
      show Steps p.tables e below (s₁.setTop (mkF m 20 #[.val (.int p1), .val (.int (1 : Int32)), .unset, .unset] [])) _
      refine XS.iloadN X0.here hx rfl (hb hby at_20) rfl ?_
      show Steps p.tables e below (s₁.setTop (mkF m 21 #[.val (.int p1), .val (.int (1 : Int32)), .unset, .unset] [(.int (1 : Int32))])) _
      refine XS.iconst X0.here hx rfl (hb hby at_21) ?_
      show Steps p.tables e below (s₁.setTop (mkF m 22 #[.val (.int p1), .val (.int (1 : Int32)), .unset, .unset] [(.int (1 : Int32)), (.int (1 : Int32))])) _
      refine XS.icmpNo X0.here hx rfl (hb hby at_22) rfl (teq (by decide : (1 : Int32) = (1 : Int32))).2 ?_
      show Steps p.tables e below (s₁.setTop (mkF m 25 #[.val (.int p1), .val (.int (1 : Int32)), .unset, .unset] [])) _
      refine st6 _ ?_
      show Steps p.tables e below (T6.setTop (mkF m 28 #[.val (.int p1), .val (.int (1 : Int32)), .unset, .unset] [(.ref w1)])) _
      refine XS.astoreN X6.here hx rfl (hb hby at_28) rfl rfl (l' := #[.val (.int p1), .val (.int (1 : Int32)), .val (.ref w1), .unset]) rfl ?_
      show Steps p.tables e below (T6.setTop (mkF m 29 #[.val (.int p1), .val (.int (1 : Int32)), .val (.ref w1), .unset] [])) _
      refine XS.iconst X6.here hx rfl (hb hby at_29) ?_
      show Steps p.tables e below (T6.setTop (mkF m 30 #[.val (.int p1), .val (.int (1 : Int32)), .val (.ref w1), .unset] [(.int (1 : Int32))])) _
      refine XS.istoreN X6.here hx rfl (hb hby at_30) rfl (l' := #[.val (.int p1), .val (.int (1 : Int32)), .val (.ref w1), .val (.int (1 : Int32))]) rfl ?_
      show Steps p.tables e below (T6.setTop (mkF m 31 #[.val (.int p1), .val (.int (1 : Int32)), .val (.ref w1), .val (.int (1 : Int32))] [])) _
      refine XS.goto X6.here hx rfl (pc0 := 31) (pc' := 68) rfl (hb hby at_31) (by decide) (by decide) ?_
      show Steps p.tables e below (T6.setTop (mkF m 68 #[.val (.int p1), .val (.int (1 : Int32)), .val (.ref w1), .val (.int (1 : Int32))] [])) _
      refine XS.aloadN X6.here hx rfl (hb hby at_68) rfl rfl ?_
      show Steps p.tables e below (T6.setTop (mkF m 69 #[.val (.int p1), .val (.int (1 : Int32)), .val (.ref w1), .val (.int (1 : Int32))] [(.ref w1)])) _
      refine st7.trans ?_
      show Steps p.tables e below (T7.setTop (mkF m 72 #[.val (.int p1), .val (.int (1 : Int32)), .val (.ref w1), .val (.int (1 : Int32))] [(.int (1 : Int32))])) _
      refine XS.iloadN X7.here hx rfl (hb hby at_72) rfl ?_
      show Steps p.tables e below (T7.setTop (mkF m 73 #[.val (.int p1), .val (.int (1 : Int32)), .val (.ref w1), .val (.int (1 : Int32))] [(.int (1 : Int32)), (.int (1 : Int32))])) _
      refine XS.icmpNo X7.here hx rfl (hb hby at_73) rfl (teq (by decide : (1 : Int32) = (1 : Int32))).2 ?_
      show Steps p.tables e below (T7.setTop (mkF m 76 #[.val (.int p1), .val (.int (1 : Int32)), .val (.ref w1), .val (.int (1 : Int32))] [])) _
      refine st8 _ ?_
      show Steps p.tables e below (T8.setTop (mkF m 79 #[.val (.int p1), .val (.int (1 : Int32)), .val (.ref w1), .val (.int (1 : Int32))] [(.ref w0)])) _
      refine st9.trans ?_
      show Steps p.tables e below (T9.setTop (mkF m 82 #[.val (.int p1), .val (.int (1 : Int32)), .val (.ref w1), .val (.int (1 : Int32))] [(.int (1 : Int32))])) _
      refine XS.ifNo X9.here hx rfl (hb hby at_82) rfl ((if0 _ _).trans (feq (by decide : ¬ ((1 : Int32) = (0 : Int32)))).1) ?_
      show Steps p.tables e below (T9.setTop (mkF m 85 #[.val (.int p1), .val (.int (1 : Int32)), .val (.ref w1), .val (.int (1 : Int32))] [])) _
      refine XS.iconst X9.here hx rfl (hb hby at_85) ?_
      show Steps p.tables e below (T9.setTop (mkF m 86 #[.val (.int p1), .val (.int (1 : Int32)), .val (.ref w1), .val (.int (1 : Int32))] [(.int (1 : Int32))])) _
      refine XS.goto X9.here hx rfl (pc0 := 86) (pc' := 90) rfl (hb hby at_86) (by decide) (by decide) ?_
      show Steps p.tables e below (T9.setTop (mkF m 90 #[.val (.int p1), .val (.int (1 : Int32)), .val (.ref w1), .val (.int (1 : Int32))] [(.int (1 : Int32))])) _
      exact retN X9 hx (t := .boolean) Bd.returns (by simp) (hb hby at_90) hr
    ·
      show Q_rm0 Z p1 w0 w1 w2 w3 w4 y0 y1 y2 y3 h0 n0 (_) T9.heap (_)
      rw [eq9]
      exact ⟨rfl, N9⟩
  ·
    rw [hi2] at pre1
    obtain ⟨T10, X10, eh10, st10⟩ := getS2 X0 hx hZ hown (host := "") (Or.inl (hw _ (List.mem_of_getElem? (i := 19) rfl))) Via.refl e0 SUP (g := (mkF m 39 #[.val (.int p1), .val (.int (2 : Int32)), .unset, .unset] [])) rfl (hb hby at_39)
    obtain ⟨cq11, kq11, q11a, q11b, q11c⟩ := isOf hZ eh10 E2
    obtain ⟨_, _, ⟨T11, L11, k11, n11⟩, -, X11, ⟨Lc11, hQ11, l11, y11, z11⟩, st11⟩ := X10.virtualBack hx (y := (⟨"com/example/amortis/amortis/Rounding", "roundsToTheCent", "()Z"⟩ : MethodName)) (z := (⟨"com/example/amortis/amortis/Rounding", "roundsToTheCent", "()Z"⟩ : MethodName)) hown (mvT hZ (hw _ (List.mem_of_getElem? (i := 4) rfl))) (mvT hZ (hw _ (List.mem_of_getElem? (i := 5) rfl))) (notFace_of_selects (args := #[]) (mvT hZ (hw _ (List.mem_of_getElem? (i := 7) rfl)))) (mvT hZ (hw _ (List.mem_of_getElem? (i := 7) rfl))) (mvT hZ (hw _ (List.mem_of_getElem? (i := 6) rfl))) (by decide) (backOf (W := 0) (rmR l Z a0 hw [] w2 y2 h0 n0 Z0 F2) hZ (hw _ (List.mem_of_getElem? (i := 8) rfl)) (hw _ (List.mem_of_getElem? (i := 2) rfl)) (by decide) (by decide)) q11a q11c (g := (mkF m 69 #[.val (.int p1), .val (.int (2 : Int32)), .val (.ref w2), .val (.int (1 : Int32))] [(.ref w2)])) rfl (by rw [hml]; rfl) (Steps.refl _) (argsL := []) (rest := []) (lenOf own_pd0 rfl) rfl (by show 2 * 0 + _ ≤ _; exact Nat.le_of_eq rfl) (hb hby at_69) (fun _ _ => ⟨rfl, eh10, (by decide : 0 + 0 ≤ _), (by decide : 0 + 0 ≤ _)⟩)
    dsimp only [Pt.U, Pt.locs, Pt.cells, Pt.slots] at X11 l11 y11 z11 st11 hQ11
    subst l11 y11 z11
    obtain ⟨rfl, N11q, eq11⟩ := hQ11
    have N11 := Fr.app N0 N11q
    obtain ⟨T12, X12, eh12, st12⟩ := getS2 X11 hx hZ hown (host := "") (Or.inl (hw _ (List.mem_of_getElem? (i := 11) rfl))) Via.refl eq11 SDEFAULT (g := (mkF m 76 #[.val (.int p1), .val (.int (2 : Int32)), .val (.ref w2), .val (.int (1 : Int32))] [])) rfl (hb hby at_76)
    obtain ⟨cq13, kq13, q13a, q13b, q13c⟩ := isOf hZ eh12 E0
    obtain ⟨_, _, ⟨T13, L13, k13, n13⟩, -, X13, ⟨Lc13, hQ13, l13, y13, z13⟩, st13⟩ := X12.virtualBack hx (y := (⟨"com/example/amortis/amortis/Rounding", "roundsToTheCent", "()Z"⟩ : MethodName)) (z := (⟨"com/example/amortis/amortis/Rounding", "roundsToTheCent", "()Z"⟩ : MethodName)) hown (mvT hZ (hw _ (List.mem_of_getElem? (i := 4) rfl))) (mvT hZ (hw _ (List.mem_of_getElem? (i := 5) rfl))) (notFace_of_selects (args := #[]) (mvT hZ (hw _ (List.mem_of_getElem? (i := 7) rfl)))) (mvT hZ (hw _ (List.mem_of_getElem? (i := 7) rfl))) (mvT hZ (hw _ (List.mem_of_getElem? (i := 6) rfl))) (by decide) (backOf (W := 0) (rmR l Z a0 hw [] w0 y0 h0 n0 Z0 F0) hZ (hw _ (List.mem_of_getElem? (i := 8) rfl)) (hw _ (List.mem_of_getElem? (i := 2) rfl)) (by decide) (by decide)) q13a q13c (g := (mkF m 79 #[.val (.int p1), .val (.int (2 : Int32)), .val (.ref w2), .val (.int (1 : Int32))] [(.ref w0)])) rfl (by rw [hml]; rfl) (Steps.refl _) (argsL := []) (rest := []) (lenOf own_pd0 rfl) rfl (by show 2 * 0 + _ ≤ _; exact Nat.le_of_eq rfl) (hb hby at_79) (fun _ _ => ⟨rfl, eh12, (by decide : 0 + 0 ≤ _), (by decide : 0 + 0 ≤ _)⟩)
    dsimp only [Pt.U, Pt.locs, Pt.cells, Pt.slots] at X13 l13 y13 z13 st13 hQ13
    subst l13 y13 z13
    obtain ⟨rfl, N13q, eq13⟩ := hQ13
    have N13 := Fr.app N11 N13q
    obtain ⟨fs, hr, hrun, hended, hW, hsame⟩ := X13.leave (v := some (.int (1 : Int32))) (fun h => by rw [Bd.returns] at h; cases h)
    refine ⟨_, _, pre1 _ ?_, hrun, hended, _, _, rfl, ?_, ⟨_, rfl⟩, hW, hsame.mono (by decide) (by decide)⟩
    ·
      show Steps p.tables e below (s₁.setTop (mkF m 7 #[.val (.int p1), .val (.int (2 : Int32)), .unset, .unset] [])) _
      refine XS.iloadN X0.here hx rfl (hb hby at_7) rfl ?_
      show Steps p.tables e below (s₁.setTop (mkF m 8 #[.val (.int p1), .val (.int (2 : Int32)), .unset, .unset] [(.int (2 : Int32))])) _
      refine XS.ifYes X0.here hx rfl (pc0 := 8) (pc' := 20) rfl (hb hby at_8) rfl ((if0 _ _).trans (feq (by decide : ¬ ((2 : Int32) = (0 : Int32)))).2) (by decide) (by decide) ?_
      show Steps p.tables e below (s₁.setTop (mkF m 20 #[.val (.int p1), .val (.int (2 : Int32)), .unset, .unset] [])) _
      refine XS.iloadN X0.here hx rfl (hb hby at_20) rfl ?_
      show Steps p.tables e below (s₁.setTop (mkF m 21 #[.val (.int p1), .val (.int (2 : Int32)), .unset, .unset] [(.int (2 : Int32))])) _
      refine XS.iconst X0.here hx rfl (hb hby at_21) ?_
      show Steps p.tables e below (s₁.setTop (mkF m 22 #[.val (.int p1), .val (.int (2 : Int32)), .unset, .unset] [(.int (1 : Int32)), (.int (2 : Int32))])) _
      refine XS.icmpYes X0.here hx rfl (pc0 := 22) (pc' := 34) rfl (hb hby at_22) rfl (feq (by decide : ¬ ((2 : Int32) = (1 : Int32)))).2 (by decide) (by decide) ?_
      show Steps p.tables e below (s₁.setTop (mkF m 34 #[.val (.int p1), .val (.int (2 : Int32)), .unset, .unset] [])) _
      refine XS.iloadN X0.here hx rfl (hb hby at_34) rfl ?_
      show Steps p.tables e below (s₁.setTop (mkF m 35 #[.val (.int p1), .val (.int (2 : Int32)), .unset, .unset] [(.int (2 : Int32))])) _
      refine XS.iconst X0.here hx rfl (hb hby at_35) ?_
      show Steps p.tables e below (s₁.setTop (mkF m 36 #[.val (.int p1), .val (.int (2 : Int32)), .unset, .unset] [(.int (2 : Int32)), (.int (2 : Int32))])) _
      refine XS.icmpNo X0.here hx rfl (hb hby at_36) rfl (teq (by decide : (2 : Int32) = (2 : Int32))).2 ?_
      show Steps p.tables e below (s₁.setTop (mkF m 39 #[.val (.int p1), .val (.int (2 : Int32)), .unset, .unset] [])) _
      refine st10 _ ?_
      show Steps p.tables e below (T10.setTop (mkF m 42 #[.val (.int p1), .val (.int (2 : Int32)), .unset, .unset] [(.ref w2)])) _
      refine XS.astoreN X10.here hx rfl (hb hby at_42) rfl rfl (l' := #[.val (.int p1), .val (.int (2 : Int32)), .val (.ref w2), .unset]) rfl ?_
      show Steps p.tables e below (T10.setTop (mkF m 43 #[.val (.int p1), .val (.int (2 : Int32)), .val (.ref w2), .unset] [])) _
      refine XS.iconst X10.here hx rfl (hb hby at_43) ?_
      show Steps p.tables e below (T10.setTop (mkF m 44 #[.val (.int p1), .val (.int (2 : Int32)), .val (.ref w2), .unset] [(.int (1 : Int32))])) _
      refine XS.istoreN X10.here hx rfl (hb hby at_44) rfl (l' := #[.val (.int p1), .val (.int (2 : Int32)), .val (.ref w2), .val (.int (1 : Int32))]) rfl ?_
      show Steps p.tables e below (T10.setTop (mkF m 45 #[.val (.int p1), .val (.int (2 : Int32)), .val (.ref w2), .val (.int (1 : Int32))] [])) _
      refine XS.goto X10.here hx rfl (pc0 := 45) (pc' := 68) rfl (hb hby at_45) (by decide) (by decide) ?_
      show Steps p.tables e below (T10.setTop (mkF m 68 #[.val (.int p1), .val (.int (2 : Int32)), .val (.ref w2), .val (.int (1 : Int32))] [])) _
      refine XS.aloadN X10.here hx rfl (hb hby at_68) rfl rfl ?_
      show Steps p.tables e below (T10.setTop (mkF m 69 #[.val (.int p1), .val (.int (2 : Int32)), .val (.ref w2), .val (.int (1 : Int32))] [(.ref w2)])) _
      refine st11.trans ?_
      show Steps p.tables e below (T11.setTop (mkF m 72 #[.val (.int p1), .val (.int (2 : Int32)), .val (.ref w2), .val (.int (1 : Int32))] [(.int (1 : Int32))])) _
      refine XS.iloadN X11.here hx rfl (hb hby at_72) rfl ?_
      show Steps p.tables e below (T11.setTop (mkF m 73 #[.val (.int p1), .val (.int (2 : Int32)), .val (.ref w2), .val (.int (1 : Int32))] [(.int (1 : Int32)), (.int (1 : Int32))])) _
      refine XS.icmpNo X11.here hx rfl (hb hby at_73) rfl (teq (by decide : (1 : Int32) = (1 : Int32))).2 ?_
      show Steps p.tables e below (T11.setTop (mkF m 76 #[.val (.int p1), .val (.int (2 : Int32)), .val (.ref w2), .val (.int (1 : Int32))] [])) _
      refine st12 _ ?_
      show Steps p.tables e below (T12.setTop (mkF m 79 #[.val (.int p1), .val (.int (2 : Int32)), .val (.ref w2), .val (.int (1 : Int32))] [(.ref w0)])) _
      refine st13.trans ?_
      show Steps p.tables e below (T13.setTop (mkF m 82 #[.val (.int p1), .val (.int (2 : Int32)), .val (.ref w2), .val (.int (1 : Int32))] [(.int (1 : Int32))])) _
      refine XS.ifNo X13.here hx rfl (hb hby at_82) rfl ((if0 _ _).trans (feq (by decide : ¬ ((1 : Int32) = (0 : Int32)))).1) ?_
      show Steps p.tables e below (T13.setTop (mkF m 85 #[.val (.int p1), .val (.int (2 : Int32)), .val (.ref w2), .val (.int (1 : Int32))] [])) _
      refine XS.iconst X13.here hx rfl (hb hby at_85) ?_
      show Steps p.tables e below (T13.setTop (mkF m 86 #[.val (.int p1), .val (.int (2 : Int32)), .val (.ref w2), .val (.int (1 : Int32))] [(.int (1 : Int32))])) _
      refine XS.goto X13.here hx rfl (pc0 := 86) (pc' := 90) rfl (hb hby at_86) (by decide) (by decide) ?_
      show Steps p.tables e below (T13.setTop (mkF m 90 #[.val (.int p1), .val (.int (2 : Int32)), .val (.ref w2), .val (.int (1 : Int32))] [(.int (1 : Int32))])) _
      exact retN X13 hx (t := .boolean) Bd.returns (by simp) (hb hby at_90) hr
    ·
      show Q_rm0 Z p1 w0 w1 w2 w3 w4 y0 y1 y2 y3 h0 n0 (_) T13.heap (_)
      rw [eq13]
      exact ⟨rfl, N13⟩
  ·
    rw [hi3] at pre1
    obtain ⟨T14, X14, eh14, st14⟩ := getS2 X0 hx hZ hown (host := "") (Or.inl (hw _ (List.mem_of_getElem? (i := 13) rfl))) Via.refl e0 SDOWN (g := (mkF m 53 #[.val (.int p1), .val (.int (3 : Int32)), .unset, .unset] [])) rfl (hb hby at_53)
    obtain ⟨cq15, kq15, q15a, q15b, q15c⟩ := isOf hZ eh14 E3
    obtain ⟨_, _, ⟨T15, L15, k15, n15⟩, -, X15, ⟨Lc15, hQ15, l15, y15, z15⟩, st15⟩ := X14.virtualBack hx (y := (⟨"com/example/amortis/amortis/Rounding", "roundsToTheCent", "()Z"⟩ : MethodName)) (z := (⟨"com/example/amortis/amortis/Rounding", "roundsToTheCent", "()Z"⟩ : MethodName)) hown (mvT hZ (hw _ (List.mem_of_getElem? (i := 4) rfl))) (mvT hZ (hw _ (List.mem_of_getElem? (i := 5) rfl))) (notFace_of_selects (args := #[]) (mvT hZ (hw _ (List.mem_of_getElem? (i := 7) rfl)))) (mvT hZ (hw _ (List.mem_of_getElem? (i := 7) rfl))) (mvT hZ (hw _ (List.mem_of_getElem? (i := 6) rfl))) (by decide) (backOf (W := 0) (rmR l Z a0 hw [] w3 y3 h0 n0 Z0 F3) hZ (hw _ (List.mem_of_getElem? (i := 8) rfl)) (hw _ (List.mem_of_getElem? (i := 2) rfl)) (by decide) (by decide)) q15a q15c (g := (mkF m 69 #[.val (.int p1), .val (.int (3 : Int32)), .val (.ref w3), .val (.int (1 : Int32))] [(.ref w3)])) rfl (by rw [hml]; rfl) (Steps.refl _) (argsL := []) (rest := []) (lenOf own_pd0 rfl) rfl (by show 2 * 0 + _ ≤ _; exact Nat.le_of_eq rfl) (hb hby at_69) (fun _ _ => ⟨rfl, eh14, (by decide : 0 + 0 ≤ _), (by decide : 0 + 0 ≤ _)⟩)
    dsimp only [Pt.U, Pt.locs, Pt.cells, Pt.slots] at X15 l15 y15 z15 st15 hQ15
    subst l15 y15 z15
    obtain ⟨rfl, N15q, eq15⟩ := hQ15
    have N15 := Fr.app N0 N15q
    obtain ⟨T16, X16, eh16, st16⟩ := getS2 X15 hx hZ hown (host := "") (Or.inl (hw _ (List.mem_of_getElem? (i := 11) rfl))) Via.refl eq15 SDEFAULT (g := (mkF m 76 #[.val (.int p1), .val (.int (3 : Int32)), .val (.ref w3), .val (.int (1 : Int32))] [])) rfl (hb hby at_76)
    obtain ⟨cq17, kq17, q17a, q17b, q17c⟩ := isOf hZ eh16 E0
    obtain ⟨_, _, ⟨T17, L17, k17, n17⟩, -, X17, ⟨Lc17, hQ17, l17, y17, z17⟩, st17⟩ := X16.virtualBack hx (y := (⟨"com/example/amortis/amortis/Rounding", "roundsToTheCent", "()Z"⟩ : MethodName)) (z := (⟨"com/example/amortis/amortis/Rounding", "roundsToTheCent", "()Z"⟩ : MethodName)) hown (mvT hZ (hw _ (List.mem_of_getElem? (i := 4) rfl))) (mvT hZ (hw _ (List.mem_of_getElem? (i := 5) rfl))) (notFace_of_selects (args := #[]) (mvT hZ (hw _ (List.mem_of_getElem? (i := 7) rfl)))) (mvT hZ (hw _ (List.mem_of_getElem? (i := 7) rfl))) (mvT hZ (hw _ (List.mem_of_getElem? (i := 6) rfl))) (by decide) (backOf (W := 0) (rmR l Z a0 hw [] w0 y0 h0 n0 Z0 F0) hZ (hw _ (List.mem_of_getElem? (i := 8) rfl)) (hw _ (List.mem_of_getElem? (i := 2) rfl)) (by decide) (by decide)) q17a q17c (g := (mkF m 79 #[.val (.int p1), .val (.int (3 : Int32)), .val (.ref w3), .val (.int (1 : Int32))] [(.ref w0)])) rfl (by rw [hml]; rfl) (Steps.refl _) (argsL := []) (rest := []) (lenOf own_pd0 rfl) rfl (by show 2 * 0 + _ ≤ _; exact Nat.le_of_eq rfl) (hb hby at_79) (fun _ _ => ⟨rfl, eh16, (by decide : 0 + 0 ≤ _), (by decide : 0 + 0 ≤ _)⟩)
    dsimp only [Pt.U, Pt.locs, Pt.cells, Pt.slots] at X17 l17 y17 z17 st17 hQ17
    subst l17 y17 z17
    obtain ⟨rfl, N17q, eq17⟩ := hQ17
    have N17 := Fr.app N15 N17q
    obtain ⟨fs, hr, hrun, hended, hW, hsame⟩ := X17.leave (v := some (.int (1 : Int32))) (fun h => by rw [Bd.returns] at h; cases h)
    refine ⟨_, _, pre1 _ ?_, hrun, hended, _, _, rfl, ?_, ⟨_, rfl⟩, hW, hsame.mono (by decide) (by decide)⟩
    ·
      show Steps p.tables e below (s₁.setTop (mkF m 7 #[.val (.int p1), .val (.int (3 : Int32)), .unset, .unset] [])) _
      refine XS.iloadN X0.here hx rfl (hb hby at_7) rfl ?_
      show Steps p.tables e below (s₁.setTop (mkF m 8 #[.val (.int p1), .val (.int (3 : Int32)), .unset, .unset] [(.int (3 : Int32))])) _
      refine XS.ifYes X0.here hx rfl (pc0 := 8) (pc' := 20) rfl (hb hby at_8) rfl ((if0 _ _).trans (feq (by decide : ¬ ((3 : Int32) = (0 : Int32)))).2) (by decide) (by decide) ?_
      show Steps p.tables e below (s₁.setTop (mkF m 20 #[.val (.int p1), .val (.int (3 : Int32)), .unset, .unset] [])) _
      refine XS.iloadN X0.here hx rfl (hb hby at_20) rfl ?_
      show Steps p.tables e below (s₁.setTop (mkF m 21 #[.val (.int p1), .val (.int (3 : Int32)), .unset, .unset] [(.int (3 : Int32))])) _
      refine XS.iconst X0.here hx rfl (hb hby at_21) ?_
      show Steps p.tables e below (s₁.setTop (mkF m 22 #[.val (.int p1), .val (.int (3 : Int32)), .unset, .unset] [(.int (1 : Int32)), (.int (3 : Int32))])) _
      refine XS.icmpYes X0.here hx rfl (pc0 := 22) (pc' := 34) rfl (hb hby at_22) rfl (feq (by decide : ¬ ((3 : Int32) = (1 : Int32)))).2 (by decide) (by decide) ?_
      show Steps p.tables e below (s₁.setTop (mkF m 34 #[.val (.int p1), .val (.int (3 : Int32)), .unset, .unset] [])) _
      refine XS.iloadN X0.here hx rfl (hb hby at_34) rfl ?_
      show Steps p.tables e below (s₁.setTop (mkF m 35 #[.val (.int p1), .val (.int (3 : Int32)), .unset, .unset] [(.int (3 : Int32))])) _
      refine XS.iconst X0.here hx rfl (hb hby at_35) ?_
      show Steps p.tables e below (s₁.setTop (mkF m 36 #[.val (.int p1), .val (.int (3 : Int32)), .unset, .unset] [(.int (2 : Int32)), (.int (3 : Int32))])) _
      refine XS.icmpYes X0.here hx rfl (pc0 := 36) (pc' := 48) rfl (hb hby at_36) rfl (feq (by decide : ¬ ((3 : Int32) = (2 : Int32)))).2 (by decide) (by decide) ?_
      show Steps p.tables e below (s₁.setTop (mkF m 48 #[.val (.int p1), .val (.int (3 : Int32)), .unset, .unset] [])) _
      refine XS.iloadN X0.here hx rfl (hb hby at_48) rfl ?_
      show Steps p.tables e below (s₁.setTop (mkF m 49 #[.val (.int p1), .val (.int (3 : Int32)), .unset, .unset] [(.int (3 : Int32))])) _
      refine XS.iconst X0.here hx rfl (hb hby at_49) ?_
      show Steps p.tables e below (s₁.setTop (mkF m 50 #[.val (.int p1), .val (.int (3 : Int32)), .unset, .unset] [(.int (3 : Int32)), (.int (3 : Int32))])) _
      refine XS.icmpNo X0.here hx rfl (hb hby at_50) rfl (teq (by decide : (3 : Int32) = (3 : Int32))).2 ?_
      show Steps p.tables e below (s₁.setTop (mkF m 53 #[.val (.int p1), .val (.int (3 : Int32)), .unset, .unset] [])) _
      refine st14 _ ?_
      show Steps p.tables e below (T14.setTop (mkF m 56 #[.val (.int p1), .val (.int (3 : Int32)), .unset, .unset] [(.ref w3)])) _
      refine XS.astoreN X14.here hx rfl (hb hby at_56) rfl rfl (l' := #[.val (.int p1), .val (.int (3 : Int32)), .val (.ref w3), .unset]) rfl ?_
      show Steps p.tables e below (T14.setTop (mkF m 57 #[.val (.int p1), .val (.int (3 : Int32)), .val (.ref w3), .unset] [])) _
      refine XS.iconst X14.here hx rfl (hb hby at_57) ?_
      show Steps p.tables e below (T14.setTop (mkF m 58 #[.val (.int p1), .val (.int (3 : Int32)), .val (.ref w3), .unset] [(.int (1 : Int32))])) _
      refine XS.istoreN X14.here hx rfl (hb hby at_58) rfl (l' := #[.val (.int p1), .val (.int (3 : Int32)), .val (.ref w3), .val (.int (1 : Int32))]) rfl ?_
      show Steps p.tables e below (T14.setTop (mkF m 59 #[.val (.int p1), .val (.int (3 : Int32)), .val (.ref w3), .val (.int (1 : Int32))] [])) _
      refine XS.goto X14.here hx rfl (pc0 := 59) (pc' := 68) rfl (hb hby at_59) (by decide) (by decide) ?_
      show Steps p.tables e below (T14.setTop (mkF m 68 #[.val (.int p1), .val (.int (3 : Int32)), .val (.ref w3), .val (.int (1 : Int32))] [])) _
      refine XS.aloadN X14.here hx rfl (hb hby at_68) rfl rfl ?_
      show Steps p.tables e below (T14.setTop (mkF m 69 #[.val (.int p1), .val (.int (3 : Int32)), .val (.ref w3), .val (.int (1 : Int32))] [(.ref w3)])) _
      refine st15.trans ?_
      show Steps p.tables e below (T15.setTop (mkF m 72 #[.val (.int p1), .val (.int (3 : Int32)), .val (.ref w3), .val (.int (1 : Int32))] [(.int (1 : Int32))])) _
      refine XS.iloadN X15.here hx rfl (hb hby at_72) rfl ?_
      show Steps p.tables e below (T15.setTop (mkF m 73 #[.val (.int p1), .val (.int (3 : Int32)), .val (.ref w3), .val (.int (1 : Int32))] [(.int (1 : Int32)), (.int (1 : Int32))])) _
      refine XS.icmpNo X15.here hx rfl (hb hby at_73) rfl (teq (by decide : (1 : Int32) = (1 : Int32))).2 ?_
      show Steps p.tables e below (T15.setTop (mkF m 76 #[.val (.int p1), .val (.int (3 : Int32)), .val (.ref w3), .val (.int (1 : Int32))] [])) _
      refine st16 _ ?_
      show Steps p.tables e below (T16.setTop (mkF m 79 #[.val (.int p1), .val (.int (3 : Int32)), .val (.ref w3), .val (.int (1 : Int32))] [(.ref w0)])) _
      refine st17.trans ?_
      show Steps p.tables e below (T17.setTop (mkF m 82 #[.val (.int p1), .val (.int (3 : Int32)), .val (.ref w3), .val (.int (1 : Int32))] [(.int (1 : Int32))])) _
      refine XS.ifNo X17.here hx rfl (hb hby at_82) rfl ((if0 _ _).trans (feq (by decide : ¬ ((1 : Int32) = (0 : Int32)))).1) ?_
      show Steps p.tables e below (T17.setTop (mkF m 85 #[.val (.int p1), .val (.int (3 : Int32)), .val (.ref w3), .val (.int (1 : Int32))] [])) _
      refine XS.iconst X17.here hx rfl (hb hby at_85) ?_
      show Steps p.tables e below (T17.setTop (mkF m 86 #[.val (.int p1), .val (.int (3 : Int32)), .val (.ref w3), .val (.int (1 : Int32))] [(.int (1 : Int32))])) _
      refine XS.goto X17.here hx rfl (pc0 := 86) (pc' := 90) rfl (hb hby at_86) (by decide) (by decide) ?_
      show Steps p.tables e below (T17.setTop (mkF m 90 #[.val (.int p1), .val (.int (3 : Int32)), .val (.ref w3), .val (.int (1 : Int32))] [(.int (1 : Int32))])) _
      exact retN X17 hx (t := .boolean) Bd.returns (by simp) (hb hby at_90) hr
    ·
      show Q_rm0 Z p1 w0 w1 w2 w3 w4 y0 y1 y2 y3 h0 n0 (_) T17.heap (_)
      rw [eq17]
      exact ⟨rfl, N17⟩
  ·
    rw [hi4] at pre1
    obtain ⟨T18, X18, eh18, st18⟩ := getS2 X0 hx hZ hown (host := "") (Or.inl (hw _ (List.mem_of_getElem? (i := 17) rfl))) Via.refl e0 SNONE (g := (mkF m 62 #[.val (.int p1), .val (.int (4 : Int32)), .unset, .unset] [])) rfl (hb hby at_62)
    obtain ⟨cq19, kq19, q19a, q19b, q19c⟩ := isOf hZ eh18 E4
    obtain ⟨_, _, ⟨T19, L19, k19, n19⟩, -, X19, ⟨Lc19, hQ19, l19, y19, z19⟩, st19⟩ := X18.virtualBack hx (y := (⟨"com/example/amortis/amortis/Rounding", "roundsToTheCent", "()Z"⟩ : MethodName)) (z := (⟨"com/example/amortis/amortis/Rounding", "roundsToTheCent", "()Z"⟩ : MethodName)) hown (mvT hZ (hw _ (List.mem_of_getElem? (i := 4) rfl))) (mvT hZ (hw _ (List.mem_of_getElem? (i := 5) rfl))) (notFace_of_selects (args := #[]) (mvT hZ (hw _ (List.mem_of_getElem? (i := 7) rfl)))) (mvT hZ (hw _ (List.mem_of_getElem? (i := 7) rfl))) (mvT hZ (hw _ (List.mem_of_getElem? (i := 6) rfl))) (by decide) (backOf (W := 0) (rmN l Z a0 hw [] w4 h0 n0 Z0 F4) hZ (hw _ (List.mem_of_getElem? (i := 8) rfl)) (hw _ (List.mem_of_getElem? (i := 2) rfl)) (by decide) (by decide)) q19a q19c (g := (mkF m 69 #[.val (.int p1), .val (.int (4 : Int32)), .val (.ref w4), .val (.int (0 : Int32))] [(.ref w4)])) rfl (by rw [hml]; rfl) (Steps.refl _) (argsL := []) (rest := []) (lenOf own_pd0 rfl) rfl (by show 2 * 0 + _ ≤ _; exact Nat.le_of_eq rfl) (hb hby at_69) (fun _ _ => ⟨rfl, eh18, (by decide : 0 + 0 ≤ _), (by decide : 0 + 0 ≤ _)⟩)
    dsimp only [Pt.U, Pt.locs, Pt.cells, Pt.slots] at X19 l19 y19 z19 st19 hQ19
    subst l19 y19 z19
    obtain ⟨rfl, N19q, eq19⟩ := hQ19
    have N19 := Fr.app N0 N19q
    obtain ⟨T20, X20, eh20, st20⟩ := getS2 X19 hx hZ hown (host := "") (Or.inl (hw _ (List.mem_of_getElem? (i := 11) rfl))) Via.refl eq19 SDEFAULT (g := (mkF m 76 #[.val (.int p1), .val (.int (4 : Int32)), .val (.ref w4), .val (.int (0 : Int32))] [])) rfl (hb hby at_76)
    obtain ⟨cq21, kq21, q21a, q21b, q21c⟩ := isOf hZ eh20 E0
    obtain ⟨_, _, ⟨T21, L21, k21, n21⟩, -, X21, ⟨Lc21, hQ21, l21, y21, z21⟩, st21⟩ := X20.virtualBack hx (y := (⟨"com/example/amortis/amortis/Rounding", "roundsToTheCent", "()Z"⟩ : MethodName)) (z := (⟨"com/example/amortis/amortis/Rounding", "roundsToTheCent", "()Z"⟩ : MethodName)) hown (mvT hZ (hw _ (List.mem_of_getElem? (i := 4) rfl))) (mvT hZ (hw _ (List.mem_of_getElem? (i := 5) rfl))) (notFace_of_selects (args := #[]) (mvT hZ (hw _ (List.mem_of_getElem? (i := 7) rfl)))) (mvT hZ (hw _ (List.mem_of_getElem? (i := 7) rfl))) (mvT hZ (hw _ (List.mem_of_getElem? (i := 6) rfl))) (by decide) (backOf (W := 0) (rmR l Z a0 hw [] w0 y0 h0 n0 Z0 F0) hZ (hw _ (List.mem_of_getElem? (i := 8) rfl)) (hw _ (List.mem_of_getElem? (i := 2) rfl)) (by decide) (by decide)) q21a q21c (g := (mkF m 79 #[.val (.int p1), .val (.int (4 : Int32)), .val (.ref w4), .val (.int (0 : Int32))] [(.ref w0)])) rfl (by rw [hml]; rfl) (Steps.refl _) (argsL := []) (rest := []) (lenOf own_pd0 rfl) rfl (by show 2 * 0 + _ ≤ _; exact Nat.le_of_eq rfl) (hb hby at_79) (fun _ _ => ⟨rfl, eh20, (by decide : 0 + 0 ≤ _), (by decide : 0 + 0 ≤ _)⟩)
    dsimp only [Pt.U, Pt.locs, Pt.cells, Pt.slots] at X21 l21 y21 z21 st21 hQ21
    subst l21 y21 z21
    obtain ⟨rfl, N21q, eq21⟩ := hQ21
    have N21 := Fr.app N19 N21q
    obtain ⟨fs, hr, hrun, hended, hW, hsame⟩ := X21.leave (v := some (.int (1 : Int32))) (fun h => by rw [Bd.returns] at h; cases h)
    refine ⟨_, _, pre1 _ ?_, hrun, hended, _, _, rfl, ?_, ⟨_, rfl⟩, hW, hsame.mono (by decide) (by decide)⟩
    ·
      show Steps p.tables e below (s₁.setTop (mkF m 7 #[.val (.int p1), .val (.int (4 : Int32)), .unset, .unset] [])) _
      refine XS.iloadN X0.here hx rfl (hb hby at_7) rfl ?_
      show Steps p.tables e below (s₁.setTop (mkF m 8 #[.val (.int p1), .val (.int (4 : Int32)), .unset, .unset] [(.int (4 : Int32))])) _
      refine XS.ifYes X0.here hx rfl (pc0 := 8) (pc' := 20) rfl (hb hby at_8) rfl ((if0 _ _).trans (feq (by decide : ¬ ((4 : Int32) = (0 : Int32)))).2) (by decide) (by decide) ?_
      show Steps p.tables e below (s₁.setTop (mkF m 20 #[.val (.int p1), .val (.int (4 : Int32)), .unset, .unset] [])) _
      refine XS.iloadN X0.here hx rfl (hb hby at_20) rfl ?_
      show Steps p.tables e below (s₁.setTop (mkF m 21 #[.val (.int p1), .val (.int (4 : Int32)), .unset, .unset] [(.int (4 : Int32))])) _
      refine XS.iconst X0.here hx rfl (hb hby at_21) ?_
      show Steps p.tables e below (s₁.setTop (mkF m 22 #[.val (.int p1), .val (.int (4 : Int32)), .unset, .unset] [(.int (1 : Int32)), (.int (4 : Int32))])) _
      refine XS.icmpYes X0.here hx rfl (pc0 := 22) (pc' := 34) rfl (hb hby at_22) rfl (feq (by decide : ¬ ((4 : Int32) = (1 : Int32)))).2 (by decide) (by decide) ?_
      show Steps p.tables e below (s₁.setTop (mkF m 34 #[.val (.int p1), .val (.int (4 : Int32)), .unset, .unset] [])) _
      refine XS.iloadN X0.here hx rfl (hb hby at_34) rfl ?_
      show Steps p.tables e below (s₁.setTop (mkF m 35 #[.val (.int p1), .val (.int (4 : Int32)), .unset, .unset] [(.int (4 : Int32))])) _
      refine XS.iconst X0.here hx rfl (hb hby at_35) ?_
      show Steps p.tables e below (s₁.setTop (mkF m 36 #[.val (.int p1), .val (.int (4 : Int32)), .unset, .unset] [(.int (2 : Int32)), (.int (4 : Int32))])) _
      refine XS.icmpYes X0.here hx rfl (pc0 := 36) (pc' := 48) rfl (hb hby at_36) rfl (feq (by decide : ¬ ((4 : Int32) = (2 : Int32)))).2 (by decide) (by decide) ?_
      show Steps p.tables e below (s₁.setTop (mkF m 48 #[.val (.int p1), .val (.int (4 : Int32)), .unset, .unset] [])) _
      refine XS.iloadN X0.here hx rfl (hb hby at_48) rfl ?_
      show Steps p.tables e below (s₁.setTop (mkF m 49 #[.val (.int p1), .val (.int (4 : Int32)), .unset, .unset] [(.int (4 : Int32))])) _
      refine XS.iconst X0.here hx rfl (hb hby at_49) ?_
      show Steps p.tables e below (s₁.setTop (mkF m 50 #[.val (.int p1), .val (.int (4 : Int32)), .unset, .unset] [(.int (3 : Int32)), (.int (4 : Int32))])) _
      refine XS.icmpYes X0.here hx rfl (pc0 := 50) (pc' := 62) rfl (hb hby at_50) rfl (feq (by decide : ¬ ((4 : Int32) = (3 : Int32)))).2 (by decide) (by decide) ?_
      show Steps p.tables e below (s₁.setTop (mkF m 62 #[.val (.int p1), .val (.int (4 : Int32)), .unset, .unset] [])) _
      refine st18 _ ?_
      show Steps p.tables e below (T18.setTop (mkF m 65 #[.val (.int p1), .val (.int (4 : Int32)), .unset, .unset] [(.ref w4)])) _
      refine XS.astoreN X18.here hx rfl (hb hby at_65) rfl rfl (l' := #[.val (.int p1), .val (.int (4 : Int32)), .val (.ref w4), .unset]) rfl ?_
      show Steps p.tables e below (T18.setTop (mkF m 66 #[.val (.int p1), .val (.int (4 : Int32)), .val (.ref w4), .unset] [])) _
      refine XS.iconst X18.here hx rfl (hb hby at_66) ?_
      show Steps p.tables e below (T18.setTop (mkF m 67 #[.val (.int p1), .val (.int (4 : Int32)), .val (.ref w4), .unset] [(.int (0 : Int32))])) _
      refine XS.istoreN X18.here hx rfl (hb hby at_67) rfl (l' := #[.val (.int p1), .val (.int (4 : Int32)), .val (.ref w4), .val (.int (0 : Int32))]) rfl ?_
      show Steps p.tables e below (T18.setTop (mkF m 68 #[.val (.int p1), .val (.int (4 : Int32)), .val (.ref w4), .val (.int (0 : Int32))] [])) _
      refine XS.aloadN X18.here hx rfl (hb hby at_68) rfl rfl ?_
      show Steps p.tables e below (T18.setTop (mkF m 69 #[.val (.int p1), .val (.int (4 : Int32)), .val (.ref w4), .val (.int (0 : Int32))] [(.ref w4)])) _
      refine st19.trans ?_
      show Steps p.tables e below (T19.setTop (mkF m 72 #[.val (.int p1), .val (.int (4 : Int32)), .val (.ref w4), .val (.int (0 : Int32))] [(.int (0 : Int32))])) _
      refine XS.iloadN X19.here hx rfl (hb hby at_72) rfl ?_
      show Steps p.tables e below (T19.setTop (mkF m 73 #[.val (.int p1), .val (.int (4 : Int32)), .val (.ref w4), .val (.int (0 : Int32))] [(.int (0 : Int32)), (.int (0 : Int32))])) _
      refine XS.icmpNo X19.here hx rfl (hb hby at_73) rfl (teq (by decide : (0 : Int32) = (0 : Int32))).2 ?_
      show Steps p.tables e below (T19.setTop (mkF m 76 #[.val (.int p1), .val (.int (4 : Int32)), .val (.ref w4), .val (.int (0 : Int32))] [])) _
      refine st20 _ ?_
      show Steps p.tables e below (T20.setTop (mkF m 79 #[.val (.int p1), .val (.int (4 : Int32)), .val (.ref w4), .val (.int (0 : Int32))] [(.ref w0)])) _
      refine st21.trans ?_
      show Steps p.tables e below (T21.setTop (mkF m 82 #[.val (.int p1), .val (.int (4 : Int32)), .val (.ref w4), .val (.int (0 : Int32))] [(.int (1 : Int32))])) _
      refine XS.ifNo X21.here hx rfl (hb hby at_82) rfl ((if0 _ _).trans (feq (by decide : ¬ ((1 : Int32) = (0 : Int32)))).1) ?_
      show Steps p.tables e below (T21.setTop (mkF m 85 #[.val (.int p1), .val (.int (4 : Int32)), .val (.ref w4), .val (.int (0 : Int32))] [])) _
      refine XS.iconst X21.here hx rfl (hb hby at_85) ?_
      show Steps p.tables e below (T21.setTop (mkF m 86 #[.val (.int p1), .val (.int (4 : Int32)), .val (.ref w4), .val (.int (0 : Int32))] [(.int (1 : Int32))])) _
      refine XS.goto X21.here hx rfl (pc0 := 86) (pc' := 90) rfl (hb hby at_86) (by decide) (by decide) ?_
      show Steps p.tables e below (T21.setTop (mkF m 90 #[.val (.int p1), .val (.int (4 : Int32)), .val (.ref w4), .val (.int (0 : Int32))] [(.int (1 : Int32))])) _
      exact retN X21 hx (t := .boolean) Bd.returns (by simp) (hb hby at_90) hr
    ·
      show Q_rm0 Z p1 w0 w1 w2 w3 w4 y0 y1 y2 y3 h0 n0 (_) T21.heap (_)
      rw [eq21]
      exact ⟨rfl, N21⟩
set_option maxRecDepth 65536 in
set_option maxHeartbeats 40000000 in
theorem comes_1 {Post : Tables → Env → Array Value → State → Outcome → State → Prop} (hpost : ∀ tb e args s v u, (limb_1_1.after args s (.returned v) u = true ∧ limb_1_2.after args s (.returned v) u = true ∧ True) → FrameEnd s (.returned v) u (Jvm.fieldLocs frame_1_writes args s ++ Jvm.arrayLocs frame_1_arrays args s ++ Jvm.staticLocs frame_1_statics s) 0 0 → Post tb e args s (.returned v) u) :
    ArmFor flags0 classFile x code maxLocals ret World_1 tables_1 room_1 Calls_1 rest_1 Pre_1 Post := by
  intro l hfl _ _ p e ha hc hk s m args below hf hA hF happ hP
  obtain ⟨hcalls, hrest, hpre⟩ := hP
  obtain ⟨-, -, -, hnamed, -, -, -, hat⟩ := (Spec.applies_iff hf).mp happ
  obtain ⟨hg, hn⟩ := and_e (Cond.before_iff.mp (show (Jvm.Cond.and given_1 narrow_1).before args s = true from hpre))
  obtain ⟨g1, g2⟩ := and_e hg
  obtain ⟨w0, rfl⟩ : ∃ w0 : Value, args = #[w0] := by
    have hs : args.size = 1 := by simpa [Cond.value, given_1] using g1
    obtain ⟨L⟩ := args
    match L, hs with
    | [w0], _ => exact ⟨w0, rfl⟩
  have hw := fun d (hd : d ∈ tables_1) => atoms_spec (ws := Jvm.Cond.code x code maxLocals ret :: tables_1) hat d (List.mem_cons_of_mem _ hd)
  have hfit : Fit s := fun {y c} hc i hi => by
    obtain ⟨ha, rfl⟩ := Array.getElem?_eq_some_iff.mp hc
    have q := List.all_eq_true.mp ((Array.all_eq_true_iff_forall_mem.mp hF) _ (Array.getElem_mem ha)) i (List.mem_range.mpr hi)
    simpa [Array.getElem?_eq_getElem hi] using q
  obtain ⟨i0, ei0⟩ := is_v g2
  obtain rfl : w0 = (.int i0) := Option.some.inj ei0
  obtain ⟨g3, g4⟩ := and_e hn
  obtain ⟨g5, g6⟩ := and_e g4
  obtain ⟨g7, g8⟩ := and_e g6
  obtain ⟨g9, g10⟩ := and_e g8
  obtain ⟨g11, g12⟩ := and_e g10
  obtain ⟨g13, g14⟩ := and_e g12
  obtain ⟨g15, g16⟩ := and_e g14
  obtain ⟨g17, g18⟩ := and_e g16
  obtain ⟨g19, g20⟩ := and_e g18
  obtain ⟨g21, g22⟩ := and_e g20
  obtain ⟨w_HALF_UP, ev_HALF_UP⟩ := exa_v g3
  have S_HALF_UP := Sta.start ev_HALF_UP (Or.inr ⟨(hw _ (List.mem_of_getElem? (i := 2) rfl)), (hw _ (List.mem_of_getElem? (i := 3) rfl))⟩)
  have E_HALF_UP := Exa.start ev_HALF_UP g3
  obtain ⟨y_HALF_UP_fixedMode, ey_HALF_UP_fixedMode⟩ := exa_v g5
  have F_HALF_UP_fixedMode := own_fldR ev_HALF_UP ey_HALF_UP_fixedMode
  have ev_DEFAULT := own_eqR ev_HALF_UP g7
  have S_DEFAULT := Sta.start ev_DEFAULT (Or.inr ⟨(hw _ (List.mem_of_getElem? (i := 2) rfl)), (hw _ (List.mem_of_getElem? (i := 12) rfl))⟩)
  obtain ⟨w_DOWN, ev_DOWN⟩ := exa_v g9
  have S_DOWN := Sta.start ev_DOWN (Or.inr ⟨(hw _ (List.mem_of_getElem? (i := 2) rfl)), (hw _ (List.mem_of_getElem? (i := 14) rfl))⟩)
  have E_DOWN := Exa.start ev_DOWN g9
  obtain ⟨y_DOWN_fixedMode, ey_DOWN_fixedMode⟩ := exa_v g11
  have F_DOWN_fixedMode := own_fldR ev_DOWN ey_DOWN_fixedMode
  obtain ⟨w_HALF_EVEN, ev_HALF_EVEN⟩ := exa_v g13
  have S_HALF_EVEN := Sta.start ev_HALF_EVEN (Or.inr ⟨(hw _ (List.mem_of_getElem? (i := 2) rfl)), (hw _ (List.mem_of_getElem? (i := 16) rfl))⟩)
  have E_HALF_EVEN := Exa.start ev_HALF_EVEN g13
  obtain ⟨y_HALF_EVEN_fixedMode, ey_HALF_EVEN_fixedMode⟩ := exa_v g15
  have F_HALF_EVEN_fixedMode := own_fldR ev_HALF_EVEN ey_HALF_EVEN_fixedMode
  obtain ⟨w_NONE, ev_NONE⟩ := exa_v g17
  have S_NONE := Sta.start ev_NONE (Or.inr ⟨(hw _ (List.mem_of_getElem? (i := 2) rfl)), (hw _ (List.mem_of_getElem? (i := 18) rfl))⟩)
  have E_NONE := Exa.start ev_NONE g17
  have F_NONE_fixedMode := own_fldN ev_NONE g19
  obtain ⟨w_UP, ev_UP⟩ := exa_v g21
  have S_UP := Sta.start ev_UP (Or.inr ⟨(hw _ (List.mem_of_getElem? (i := 2) rfl)), (hw _ (List.mem_of_getElem? (i := 20) rfl))⟩)
  have E_UP := Exa.start ev_UP g21
  obtain ⟨y_UP_fixedMode, ey_UP_fixedMode⟩ := exa_v g22
  have F_UP_fixedMode := own_fldR ev_UP ey_UP_fixedMode
  obtain ⟨n, o, h1, h2, h3, _, L, rfl, ⟨rfl, N⟩, hq⟩ := rm0 l s _ hw tables_1 i0 w_HALF_UP w_HALF_EVEN w_UP w_DOWN w_NONE y_HALF_UP_fixedMode y_HALF_EVEN_fixedMode y_UP_fixedMode y_DOWN_fixedMode s.heap s.heap.size (Nat.le_refl _) S_HALF_UP S_HALF_EVEN S_UP S_DOWN S_NONE S_DEFAULT E_HALF_UP F_HALF_UP_fixedMode E_HALF_EVEN F_HALF_EVEN_fixedMode E_UP F_UP_fixedMode E_DOWN F_DOWN_fixedMode E_NONE F_NONE_fixedMode p e ha hc hk s m _ below hf ((Spec.applies_iff_loose hf).mp happ).1 ⟨rfl, State.Warmed39.refl s, rfl⟩ trivial
  refine ⟨n, _, h1, h2, h3, hpost _ _ _ _ _ _ ⟨Cond.after_iff.mpr rfl, Cond.after_iff.mpr (eq_i res_at (Term.int_eval (1)) rfl), trivial⟩ ⟨hq.1, hq.2.1, (hq.2.2.sift fun y hy => Or.inr (N y hy)).mono (by decide) (by decide)⟩⟩
theorem main_1_1 : Claimed_1_1 := comes_1 fun _ _ _ _ _ _ h hF => ⟨h.1, hF⟩
theorem main_1_2 : Claimed_1_2 := comes_1 fun _ _ _ _ _ _ h hF => ⟨h.2.1, hF⟩
end Jvm.Pilot.@@N@@
namespace Jvm.Pilot.@@N@@
open Jvm Jvm.ClassFile Sem Op Lib Jvm.Free Jvm.Stand Jvm.Pilot.@@N@@.Jvm.D
/-! MADE BY PROGRAM (witnessworld.py) out of the Statement's table words and the real class files: 13 classes; the members and pool entries that the words name. The judged class is class 1, her method 1. -/
namespace start1
open Jvm.ClassFile
def u (s : String) : CpInfo := .utf8 (stringToUtf16 s)
/-- a pool by its gaps: so many unusable entries, then the entry; so many at the end -/
def gap : Nat → List CpInfo → List CpInfo
  | 0, r => r
  | n + 1, r => .unusable :: gap n r
def poolList (es : List (Nat × CpInfo)) (last : Nat) : List CpInfo := es.foldr (fun e r => gap e.1 (e.2 :: r)) (gap last [])
def pool (es : List (Nat × CpInfo)) (last : Nat) : Array CpInfo := ⟨poolList es last⟩
def fileOf (pool : Array CpInfo) (this : Nat) (attrs : Array Attribute := #[]) (ms : Array MethodInfo := #[]) (fl : Nat := 33) (sup : Nat := 0) (ifs : Array Nat := #[]) (fds : Array FieldInfo := #[]) : ClassFile where
  minorVersion := 0
  majorVersion := 65
  constantPool := pool
  accessFlags := fl
  thisClass := this
  superClass := sup
  interfaces := ifs
  fields := fds
  methods := ms
  attributes := attrs
def plain (name : String) (sup : Option ClassId) : Class where
  name := name
  kind := .ordinary
  loader := none
  accessFlags := 33
  super := sup
  interfaces := #[]
  cf := none
  fields := #[]
  methods := #[]
  instanceTypes := #[]
  staticTypes := #[]
  resolved := #[]
  callSites := []
  init := .initialized
  statics := none
  mirror := none

def pool0 : Array CpInfo := pool [(5, u "<init>"), (0, u "()V"), (1, .class_ 10), (1, u "java/lang/Object")] 113

def k0m0 : Method := { name := "<init>", desc := "()V", sig := { parameters := [], returnType := none }, accessFlags := 1, code := none }
/-- java/lang/Object -/
def k0 : Class := { plain "java/lang/Object" none with
  accessFlags := 33
  interfaces := #[]
  cf := some (fileOf pool0 8 #[] #[{ accessFlags := 1, nameIndex := 5, descriptorIndex := 6, attributes := #[] }] 33 0 #[] #[])
  fields := #[]
  methods := #[k0m0]
  instanceTypes := #[]
  staticTypes := #[]
  resolved := Array.replicate 124 none
  statics := none }

def pool1 : Array CpInfo := pool [(2, .class_ 4), (1, u "java/lang/Object"), (0, u "<init>"), (0, u "()V"), (0, .integer 2147483647), (0, .fieldref 9 10), (0, .class_ 11), (0, .nameAndType 12 13), (0, u "com/example/amortis/amortis/Rounding"), (0, u "HALF_UP"), (0, u "Lcom/example/amortis/amortis/Rounding;"), (0, .fieldref 9 15), (0, .nameAndType 16 13), (0, u "HALF_EVEN"), (0, .fieldref 9 18), (0, .nameAndType 19 13), (0, u "UP"), (0, .fieldref 9 21), (0, .nameAndType 22 13), (0, u "DOWN"), (0, .fieldref 9 24), (0, .nameAndType 25 13), (0, u "NONE"), (0, .methodref 9 27), (0, .nameAndType 28 29), (0, u "roundsToTheCent"), (0, u "()Z"), (0, .fieldref 9 31), (0, .nameAndType 32 13), (0, u "DEFAULT"), (0, .class_ 34), (0, u "com/example/amortis/amortis/RoundingRoundsToTheCentPinLaw"), (2, u "law"), (0, u "(I)Z")] 3

def k1m0 : Method := { name := "<init>", desc := "()V", sig := { parameters := [], returnType := none }, accessFlags := 1, code := none }
def k1c1 : Code := { maxStack := 2, maxLocals := 4, code := code, exceptionTable := #[], attributes := #[] }
def k1m1 : Method := { name := "law", desc := "(I)Z", sig := { parameters := [.int], returnType := some .boolean }, accessFlags := 9, code := some k1c1 }
/-- com/example/amortis/amortis/RoundingRoundsToTheCentPinLaw -/
def k1 : Class := { plain "com/example/amortis/amortis/RoundingRoundsToTheCentPinLaw" (some 0) with
  accessFlags := 49
  interfaces := #[]
  cf := some (fileOf pool1 33 #[] #[{ accessFlags := 1, nameIndex := 5, descriptorIndex := 6, attributes := #[] }, { accessFlags := 9, nameIndex := 37, descriptorIndex := 38, attributes := #[] }] 49 2 #[] #[])
  fields := #[]
  methods := #[k1m0, k1m1]
  instanceTypes := #[]
  staticTypes := #[]
  resolved := Array.replicate 42 none
  statics := none }

def pool2 : Array CpInfo := pool [(1, .class_ 2), (0, u "java/lang/constant/Constable"), (0, .class_ 4), (0, u "java/lang/Object")] 6

/-- java/lang/constant/Constable -/
def k2 : Class := { plain "java/lang/constant/Constable" (some 0) with
  accessFlags := 1537
  interfaces := #[]
  cf := some (fileOf pool2 1 #[] #[] 1537 3 #[] #[])
  fields := #[]
  methods := #[]
  instanceTypes := #[]
  staticTypes := #[]
  resolved := Array.replicate 11 none
  statics := none }

def pool3 : Array CpInfo := pool [(1, .class_ 2), (0, u "java/lang/Comparable"), (0, .class_ 4), (0, u "java/lang/Object")] 7

/-- java/lang/Comparable -/
def k3 : Class := { plain "java/lang/Comparable" (some 0) with
  accessFlags := 1537
  interfaces := #[]
  cf := some (fileOf pool3 1 #[] #[] 1537 3 #[] #[])
  fields := #[]
  methods := #[]
  instanceTypes := #[]
  staticTypes := #[]
  resolved := Array.replicate 12 none
  statics := none }

def pool4 : Array CpInfo := pool [(1, .class_ 2), (0, u "java/io/Serializable"), (0, .class_ 4), (0, u "java/lang/Object")] 2

/-- java/io/Serializable -/
def k4 : Class := { plain "java/io/Serializable" (some 0) with
  accessFlags := 1537
  interfaces := #[]
  cf := some (fileOf pool4 1 #[] #[] 1537 3 #[] #[])
  fields := #[]
  methods := #[]
  instanceTypes := #[]
  staticTypes := #[]
  resolved := Array.replicate 7 none
  statics := none }

def pool5 : Array CpInfo := pool [(2, .class_ 4), (1, u "java/lang/Enum"), (0, u "name"), (0, u "Ljava/lang/String;"), (2, u "ordinal"), (0, u "I"), (1, .class_ 14), (1, u "java/lang/Object"), (4, u "hash"), (86, .class_ 108), (1, u "java/lang/Enum$EnumDesc"), (2, .class_ 112), (0, u "java/lang/constant/Constable"), (0, .class_ 114), (0, u "java/lang/Comparable"), (0, .class_ 116), (0, u "java/io/Serializable")] 87

/-- java/lang/Enum -/
def k5 : Class := { plain "java/lang/Enum" (some 0) with
  accessFlags := 1057
  interfaces := #[2, 3, 4]
  cf := some (fileOf pool5 2 #[.nestMembers #[106]] #[] 1057 12 #[111, 113, 115] #[{ accessFlags := 18, nameIndex := 5, descriptorIndex := 6, attributes := #[] }, { accessFlags := 18, nameIndex := 9, descriptorIndex := 10, attributes := #[] }, { accessFlags := 2, nameIndex := 19, descriptorIndex := 10, attributes := #[] }])
  fields := #[{ name := "name", type := (.object "java/lang/String"), accessFlags := 18, slot := 0, constantValue := 0 }, { name := "ordinal", type := .int, accessFlags := 18, slot := 1, constantValue := 0 }, { name := "hash", type := .int, accessFlags := 2, slot := 2, constantValue := 0 }]
  methods := #[]
  instanceTypes := #[(.object "java/lang/String"), .int, .int]
  staticTypes := #[]
  resolved := Array.replicate 204 none
  statics := none }

def pool6 : Array CpInfo := pool [(1, .class_ 2), (0, u "com/example/amortis/amortis/Rounding"), (2, u "HALF_UP"), (0, u "Lcom/example/amortis/amortis/Rounding;"), (2, u "HALF_EVEN"), (2, u "UP"), (2, u "DOWN"), (2, u "NONE"), (2, u "$VALUES"), (0, u "[Lcom/example/amortis/amortis/Rounding;"), (6, .class_ 31), (1, u "java/lang/Enum"), (6, .fieldref 1 39), (0, .nameAndType 40 41), (0, u "fixedMode"), (0, u "Ljava/math/RoundingMode;"), (49, u "DEFAULT"), (7, u "roundsToTheCent"), (0, u "()Z")] 9

def k6c0 : Code := { maxStack := 1, maxLocals := 1, code := prog_26_method_4_code, exceptionTable := #[], attributes := #[] }
def k6m0 : Method := { name := "roundsToTheCent", desc := "()Z", sig := { parameters := [], returnType := some .boolean }, accessFlags := 0, code := some k6c0 }
/-- com/example/amortis/amortis/Rounding -/
def k6 : Class := { plain "com/example/amortis/amortis/Rounding" (some 5) with
  accessFlags := 16433
  interfaces := #[]
  cf := some (fileOf pool6 1 #[] #[{ accessFlags := 0, nameIndex := 99, descriptorIndex := 100, attributes := #[] }] 16433 29 #[] #[{ accessFlags := 16409, nameIndex := 5, descriptorIndex := 6, attributes := #[] }, { accessFlags := 16409, nameIndex := 9, descriptorIndex := 6, attributes := #[] }, { accessFlags := 16409, nameIndex := 12, descriptorIndex := 6, attributes := #[] }, { accessFlags := 16409, nameIndex := 15, descriptorIndex := 6, attributes := #[] }, { accessFlags := 16409, nameIndex := 18, descriptorIndex := 6, attributes := #[] }, { accessFlags := 25, nameIndex := 91, descriptorIndex := 6, attributes := #[] }, { accessFlags := 18, nameIndex := 40, descriptorIndex := 41, attributes := #[] }, { accessFlags := 4122, nameIndex := 21, descriptorIndex := 22, attributes := #[] }])
  fields := #[{ name := "HALF_UP", type := (.object "com/example/amortis/amortis/Rounding"), accessFlags := 16409, slot := 0, constantValue := 0 }, { name := "HALF_EVEN", type := (.object "com/example/amortis/amortis/Rounding"), accessFlags := 16409, slot := 1, constantValue := 0 }, { name := "UP", type := (.object "com/example/amortis/amortis/Rounding"), accessFlags := 16409, slot := 2, constantValue := 0 }, { name := "DOWN", type := (.object "com/example/amortis/amortis/Rounding"), accessFlags := 16409, slot := 3, constantValue := 0 }, { name := "NONE", type := (.object "com/example/amortis/amortis/Rounding"), accessFlags := 16409, slot := 4, constantValue := 0 }, { name := "DEFAULT", type := (.object "com/example/amortis/amortis/Rounding"), accessFlags := 25, slot := 5, constantValue := 0 }, { name := "fixedMode", type := (.object "java/math/RoundingMode"), accessFlags := 18, slot := 3, constantValue := 0 }, { name := "$VALUES", type := (.array (.object "com/example/amortis/amortis/Rounding")), accessFlags := 4122, slot := 6, constantValue := 0 }]
  methods := #[k6m0]
  instanceTypes := #[(.object "java/lang/String"), .int, .int, (.object "java/math/RoundingMode")]
  staticTypes := #[(.object "com/example/amortis/amortis/Rounding"), (.object "com/example/amortis/amortis/Rounding"), (.object "com/example/amortis/amortis/Rounding"), (.object "com/example/amortis/amortis/Rounding"), (.object "com/example/amortis/amortis/Rounding"), (.object "com/example/amortis/amortis/Rounding"), (.array (.object "com/example/amortis/amortis/Rounding"))]
  resolved := Array.replicate 110 none
  statics := some 0 }

def pool7 : Array CpInfo := pool [(1, .class_ 2), (0, u "java/math/RoundingMode"), (2, u "UP"), (0, u "Ljava/math/RoundingMode;"), (2, u "DOWN"), (2, u "CEILING"), (2, u "FLOOR"), (2, u "HALF_UP"), (2, u "HALF_DOWN"), (2, u "HALF_EVEN"), (2, u "UNNECESSARY"), (2, u "$VALUES"), (0, u "[Ljava/math/RoundingMode;"), (6, .class_ 40), (1, u "java/lang/Enum"), (8, u "oldMode"), (0, u "I")] 43

/-- java/math/RoundingMode -/
def k7 : Class := { plain "java/math/RoundingMode" (some 5) with
  accessFlags := 16433
  interfaces := #[]
  cf := some (fileOf pool7 1 #[] #[] 16433 38 #[] #[{ accessFlags := 16409, nameIndex := 5, descriptorIndex := 6, attributes := #[] }, { accessFlags := 16409, nameIndex := 9, descriptorIndex := 6, attributes := #[] }, { accessFlags := 16409, nameIndex := 12, descriptorIndex := 6, attributes := #[] }, { accessFlags := 16409, nameIndex := 15, descriptorIndex := 6, attributes := #[] }, { accessFlags := 16409, nameIndex := 18, descriptorIndex := 6, attributes := #[] }, { accessFlags := 16409, nameIndex := 21, descriptorIndex := 6, attributes := #[] }, { accessFlags := 16409, nameIndex := 24, descriptorIndex := 6, attributes := #[] }, { accessFlags := 16409, nameIndex := 27, descriptorIndex := 6, attributes := #[] }, { accessFlags := 16, nameIndex := 49, descriptorIndex := 50, attributes := #[] }, { accessFlags := 4122, nameIndex := 30, descriptorIndex := 31, attributes := #[] }])
  fields := #[{ name := "UP", type := (.object "java/math/RoundingMode"), accessFlags := 16409, slot := 0, constantValue := 0 }, { name := "DOWN", type := (.object "java/math/RoundingMode"), accessFlags := 16409, slot := 1, constantValue := 0 }, { name := "CEILING", type := (.object "java/math/RoundingMode"), accessFlags := 16409, slot := 2, constantValue := 0 }, { name := "FLOOR", type := (.object "java/math/RoundingMode"), accessFlags := 16409, slot := 3, constantValue := 0 }, { name := "HALF_UP", type := (.object "java/math/RoundingMode"), accessFlags := 16409, slot := 4, constantValue := 0 }, { name := "HALF_DOWN", type := (.object "java/math/RoundingMode"), accessFlags := 16409, slot := 5, constantValue := 0 }, { name := "HALF_EVEN", type := (.object "java/math/RoundingMode"), accessFlags := 16409, slot := 6, constantValue := 0 }, { name := "UNNECESSARY", type := (.object "java/math/RoundingMode"), accessFlags := 16409, slot := 7, constantValue := 0 }, { name := "oldMode", type := .int, accessFlags := 16, slot := 3, constantValue := 0 }, { name := "$VALUES", type := (.array (.object "java/math/RoundingMode")), accessFlags := 4122, slot := 8, constantValue := 0 }]
  methods := #[]
  instanceTypes := #[(.object "java/lang/String"), .int, .int, .int]
  staticTypes := #[(.object "java/math/RoundingMode"), (.object "java/math/RoundingMode"), (.object "java/math/RoundingMode"), (.object "java/math/RoundingMode"), (.object "java/math/RoundingMode"), (.object "java/math/RoundingMode"), (.object "java/math/RoundingMode"), (.object "java/math/RoundingMode"), (.array (.object "java/math/RoundingMode"))]
  resolved := Array.replicate 94 none
  statics := none }

def pool8 : Array CpInfo := pool [(1, u "java/lang/Cloneable"), (0, .class_ 1), (0, u "java/lang/Object"), (0, .class_ 3)] 3

/-- java/lang/Cloneable -/
def k8 : Class := { plain "java/lang/Cloneable" (some 0) with
  accessFlags := 1537
  interfaces := #[]
  cf := some (fileOf pool8 2 #[] #[] 1537 4 #[] #[])
  fields := #[]
  methods := #[]
  instanceTypes := #[]
  staticTypes := #[]
  resolved := Array.replicate 8 none
  statics := none }

/-- the primitive byte -/
def k9 : Class := { plain "byte" none with kind := .primitive 'B', accessFlags := 0x411 }
/-- [B -/
def k10 : Class := { plain "[B" (some 0) with kind := .array 9 .byte, interfaces := #[8, 4], accessFlags := 1041 }

/-- the primitive int -/
def k11 : Class := { plain "int" none with kind := .primitive 'I', accessFlags := 0x411 }
/-- [I -/
def k12 : Class := { plain "[I" (some 0) with kind := .array 11 .int, interfaces := #[8, 4], accessFlags := 1041 }

def heap : Heap := #[{ cls := 6, slots := #[.ref 1, .ref 2, .ref 3, .ref 4, .ref 5, .ref 1, .null], vm := .statics 6 },
  { cls := 6, slots := #[.null, .int 0, .int 0, .ref 6], vm := .none },
  { cls := 6, slots := #[.null, .int 1, .int 0, .ref 6], vm := .none },
  { cls := 6, slots := #[.null, .int 2, .int 0, .ref 6], vm := .none },
  { cls := 6, slots := #[.null, .int 3, .int 0, .ref 6], vm := .none },
  { cls := 6, slots := #[.null, .int 4, .int 0, .null], vm := .none },
  { cls := 7, slots := #[.null, .int 4, .int 0, .int 4], vm := .none }]
def classes : Array Class := #[k0, k1, k2, k3, k4, k5, k6, k7, k8, k9, k10, k11, k12]
def interned : List (Array UInt16 × Addr) := []
def slotsUsed : Nat := 31
def theMethod : MethodId := ⟨1, 1⟩
def args0 : Array Value := #[.int 3]
def aboutOver (below : List Frame) : State where
  vm := { classes := classes, interned := interned.toArray }
  heap := heap
  slotsUsed := slotsUsed
  threads := #[{ frames := .invoking theMethod args0 :: below }]
def below0 : List Frame := [.native { method := ⟨0, 0⟩, args := #[] }]
def about1 : State := aboutOver below0
def p0 : Program := .bare "" "" ""
def e0 : Env := launch0.env 0 0 0
theorem w_frames : about1.frames = Frame.invoking theMethod args0 :: below0 := rfl
set_option maxRecDepth 65536 in
theorem w_args : argsFit about1.vm theMethod args0 = true := by decide +kernel
set_option maxRecDepth 65536 in
theorem w_heap : heapFits about1 = true := by decide +kernel
set_option maxRecDepth 65536 in
theorem w_runnable : about1.curStatus? = some .runnable := by decide +kernel
set_option maxRecDepth 65536 in
theorem w_alone : about1.alone = true := by decide +kernel
set_option maxRecDepth 65536 in
theorem w_named : about1.methodNamed? x = some theMethod := by decide +kernel
set_option maxRecDepth 65536 in
theorem w_hears : about1.hears theMethod below0 = true := by decide +kernel
set_option maxRecDepth 65536 in
theorem w_ripe : about1.ripe theMethod args0 below0 = true := by decide +kernel
theorem w_running : about1.status = .running := rfl
set_option maxRecDepth 65536 in
theorem w_room : about1.hasRoom e0.platform room_1 = true :=
  launch0.hasRoom_least _ room_1 (by decide +kernel) (by decide +kernel) (by decide +kernel) (by decide +kernel) (by decide +kernel) (by decide +kernel)
theorem allAtoms_all (ts : List Jvm.Cond) (a : Array Jvm.Value) (st : Jvm.State) : (allAtoms ts).before a st = ts.all (fun c => c.before a st) := by
  induction ts with
  | nil => rfl
  | cons c t ih =>
    show (Jvm.Cond.and c (allAtoms t)).before a st = _
    rw [Jvm.Cond.before_and, ih, List.all_cons]
def words1 : List Jvm.Cond := Jvm.Cond.code x code maxLocals ret :: tables_1
/-- a 'code' word, met by the world's own term for the bytes: nothing is compared byte by byte -/
theorem code_word {y : MethodName} {bytes : ByteArray} {mx : Nat} {rt : Option FieldType} {a : Array Value} {s : State} {m : MethodId} {meth : Method} {c : Code} (h1 : s.methodNamed? y = some m) (h2 : s.vm.method? m = some meth) (h3 : meth.code = some c) (h4 : c.code = bytes)
    (h5 : (c.maxLocals == mx && c.exceptionTable.isEmpty && decide (c.maxStack ≤ mostOperands) && decide (meth.sig.returnType = rt) && !meth.locks && decide (parseMethodDescriptor y.desc = some meth.sig)) = true) : (Jvm.Cond.code y bytes mx rt).before a s = true := by
  simp only [Bool.and_eq_true, beq_iff_eq, Bool.not_eq_true', decide_eq_true_eq] at h5
  obtain ⟨⟨⟨⟨⟨g1, g2⟩, g3⟩, g4⟩, g5⟩, g6⟩ := h5
  simp [Cond.before, Cond.holds, Cond.value, h1, h2, h3, h4, g1, g2, g3, g4, g5, g6]
def isCode : Jvm.Cond → Bool
  | .code _ _ _ _ => true
  | _ => false
theorem all_split {L : List Jvm.Cond} {P : Jvm.Cond → Bool} (h1 : L.all (fun c => isCode c || P c) = true) (h2 : ∀ c ∈ L.filter isCode, P c = true) : L.all P = true := by
  refine List.all_eq_true.mpr fun c hc => ?_
  have h := List.all_eq_true.mp h1 c hc
  rcases Bool.eq_false_or_eq_true (isCode c) with hi | hi
  · exact h2 c (List.mem_filter.mpr ⟨hc, hi⟩)
  · simpa [hi] using h
set_option maxRecDepth 65536 in
theorem w_c0 : (Jvm.Cond.code x code maxLocals ret).before args0 about1 = true := code_word (m := ⟨1, 1⟩) (meth := k1m1) (c := k1c1) (by decide +kernel) rfl rfl rfl (by decide +kernel)
set_option maxRecDepth 65536 in
theorem w_c1 : (Jvm.Cond.code ({ cls := "com/example/amortis/amortis/Rounding", name := "roundsToTheCent", desc := "()Z" } : Jvm.MethodName) prog_26_method_4_code (1 : Nat) (Option.some Jvm.ClassFile.FieldType.boolean)).before args0 about1 = true := code_word (m := ⟨6, 0⟩) (meth := k6m0) (c := k6c0) (by decide +kernel) rfl rfl rfl (by decide +kernel)
def codes1 : List Jvm.Cond := [Jvm.Cond.code x code maxLocals ret, Jvm.Cond.code ({ cls := "com/example/amortis/amortis/Rounding", name := "roundsToTheCent", desc := "()Z" } : Jvm.MethodName) prog_26_method_4_code (1 : Nat) (Option.some Jvm.ClassFile.FieldType.boolean)]
set_option maxRecDepth 65536 in
theorem codes_eq : words1.filter isCode = codes1 := rfl
theorem w_codes : ∀ c ∈ words1.filter isCode, c.before args0 about1 = true := by
  rw [codes_eq]
  intro c hc
  simp only [codes1, List.mem_cons, List.not_mem_nil, or_false] at hc
  rcases hc with rfl | rfl
  · exact w_c0
  · exact w_c1
set_option maxRecDepth 65536 in
theorem w_t1 : words1.all (fun c => isCode c || c.before args0 about1) = true := by decide +kernel
theorem w_tables : (allAtoms (Jvm.Cond.code x code maxLocals ret :: tables_1)).before args0 about1 = true := by
  rw [allAtoms_all]
  show words1.all (fun c => c.before args0 about1) = true
  refine all_split ?_ w_codes
  rw [w_t1]
set_option maxRecDepth 65536 in
theorem w_case : (Jvm.Cond.and given_1 narrow_1).before args0 about1 = true := by decide +kernel
theorem w_applies : (headSpec (Jvm.Cond.code x code maxLocals ret :: tables_1) room_1).applies x e0.platform about1 = true :=
  (Spec.applies_iff w_frames).mpr ⟨w_running, w_runnable, w_alone, w_named, w_hears, w_ripe, w_room, w_tables⟩
theorem atStart : AtStart classFile x code maxLocals ret World_1 tables_1 room_1 Calls_1 rest_1 Pre_1 launch0 p0 e0 about1 theMethod args0 below0 :=
  ⟨lists_1, trivial, launch0.admits_env _ _ _, launch0.least_env, fairChoices_fair.cas, fairChoices_fair.clock, w_frames, w_args, w_heap, w_applies, trivial, trivial, w_case⟩
end start1
theorem witness_1 : WitnessClaimed_1 := ⟨start1.p0, start1.e0, start1.about1, start1.theMethod, start1.args0, start1.below0, start1.atStart⟩
end Jvm.Pilot.@@N@@
